/-
  The walks of the leaves on the road of FnSignatureHeadersHandsOutFreshCopies.
-/
import Derived.Test.Qxb6616369aProg
import Derived.Test.Qxb6616369aHeap
import Derived.WalkKit
import Derived.RegionTactic
import Derived.BigRegion
import Derived.Lib.SliceRun
import Derived.WalkLawsBesides
import Derived.Deep.QuietTactic
import Derived.BigQuiet
namespace Go.Proofs.Qxb6616369a
open Go.RowKit

theorem Try.info9 : (Try.prog.info? 9).map (fun i => (i.zero, i.size, i.bytes)) = some (some (.string ByteArray.empty), 1, 16) := by kernel_rfl
theorem Try.info3 : (Try.prog.info? 3).map (fun i => (i.zero, i.size, i.bytes)) = some (some (.int .i64 0), 1, 8) := by kernel_rfl

/-- A slice of pairs (a string and a number) that came in. -/
def InRules (w : World) (a : Option Addr) (n c : Nat) (N : Nat → ByteArray) (C : Nat → Int) : Prop :=
  (a = none ∧ n = 0 ∧ c = 0) ∨ ∃ x, a = some x ∧ (0 < n → ∃ b off, x = ⟨b, off, none⟩ ∧ b < w.heap.size ∧ ∀ i, i < n → w.cell? ⟨b, off + i * 2, none⟩ = some (.string (N i)) ∧ w.cell? ⟨b, off + i * 2 + 1, none⟩ = some (.int .i64 (C i)))
theorem InRules.at {w : World} {a : Option Addr} {n c : Nat} {N : Nat → ByteArray} {C : Nat → Int} (h : InRules w a n c N C) (hn : 0 < n) :
    ∃ b off, a = some ⟨b, off, none⟩ ∧ b < w.heap.size ∧ ∀ i, i < n → w.cell? ⟨b, off + i * 2, none⟩ = some (.string (N i)) ∧ w.cell? ⟨b, off + i * 2 + 1, none⟩ = some (.int .i64 (C i)) := by
  rcases h with ⟨_, h, _⟩ | ⟨x, rfl, h⟩
  · omega
  · obtain ⟨b, off, rfl, r⟩ := h hn
    exact ⟨b, off, rfl, r⟩
theorem InRules.below {w w' : World} {a : Option Addr} {n c : Nat} {N : Nat → ByteArray} {C : Nat → Int} (h : InRules w a n c N C) (t : Below w.heap.size w w') : InRules w' a n c N C := by
  rcases h with h | ⟨x, ha, h⟩
  · exact .inl h
  · refine .inr ⟨x, ha, fun hn => ?_⟩
    obtain ⟨b, off, hx, hb, hc⟩ := h hn
    exact ⟨b, off, hx, Nat.lt_of_lt_of_le hb t.size, fun i hi => ⟨(t.cell hb).trans (hc i hi).1, (t.cell hb).trans (hc i hi).2⟩⟩

/-- 'namesOfRules'. -/
theorem names_any (a : Option Addr) (n c : Nat) (N : Nat → ByteArray) (C : Nat → Int) (w : World) (h : InRules w a n c N C) (hn : n ≤ 1048576) :
    Calls Try.prog 22 #[.slice a n c] w fun e w' => e = .returned (.slice (some ⟨w.heap.size, 0, none⟩) n n) ∧ Below w.heap.size w w' ∧ VRow w' w.heap.size n (fun j => .string (N j)) := by
  obtain ⟨i0, hi, hz0, hz1, hz2⟩ := info_parts Try.info9
  go_enter Try.func22, Try.ntmps22
  go_wp2_with (at_make; refine wpList_make_full _ rfl _ _ 26 rfl w.heap.size 9 i0 (.string ByteArray.empty) 1 Try.underlying26 hi hz0 hz1 _ _ _ _ n rfl rfl rfl rfl ?b1 ?b2 ?b3 ?_)
  case b1 => rw [hz2]; omega
  case b2 => unfold maxLen; omega
  case b3 => exact Nat.le_refl _
  intro w1 hown hgrow
  clear hi hz0 hz1 hz2
  have hV : VRow w1 w.heap.size n (fun _ => .string ByteArray.empty) := VRow.ofOwns hown (by have := hown.lt _ rfl; omega) (by simpa [Value.cells] using toList_madeCells_one (.string ByteArray.empty) n)
  have hB : Below w.heap.size w w1 := (Below.refl _ _).grown hgrow (Nat.le_refl _) (fun k h => by cases h)
  clear hown hgrow
  go_wp2
  go_loopw [10] (fun i wr => ∃ k : Nat, k ≤ n ∧ i = .int .i64 k ∧ VRow wr w.heap.size n (fun j => if j < k then .string (N j) else .string ByteArray.empty) ∧ Below w.heap.size w wr) (fun i _ => n - (intOf i).toNat)
  case atStart => exact ⟨0, Nat.zero_le _, rfl, hV.congr (fun j _ => by simp), hB⟩
  case round =>
    obtain ⟨k, hk, rfl, hVr, hBr⟩ := hrel
    clear hV hB
    by_cases hlt : k < n
    · obtain ⟨b, off, rfl, hb, hcell⟩ := h.at (by omega)
      have c1 : wr.cell? ⟨b, off + k * 2, none⟩ = some (.string (N k)) := (hBr.cell hb).trans (hcell k hlt).1
      have c2 : wr.cell? ⟨w.heap.size, k, none⟩ = some (.string ByteArray.empty) := by rw [hVr.cell k hlt]; simp
      have c3 := hVr.free k
      clear hcell
      go_wp2
      go_roundw
      case rel =>
        refine ⟨k + 1, by omega, by go_num, (hVr.set hlt (.string (N k))).congr (fun j _ => ?_), hBr.setCell (Nat.le_refl _) _⟩
        by_cases e : j = k
        · subst e; simp
        · rw [if_neg e]
          by_cases h : j < k
          · rw [if_pos h, if_pos (by omega)]
          · rw [if_neg h, if_neg (by omega)]
      case measure => simp [intOf]; omega
    · have : k = n := by omega
      subst this
      go_wp2
      go_ret
      exact ⟨rfl, hBr, hVr.congr (fun j hj => by rw [if_pos hj])⟩

/-- 'carriesOf'. -/
theorem carries_any (a : Option Addr) (n c : Nat) (N : Nat → ByteArray) (C : Nat → Int) (w : World) (h : InRules w a n c N C) (hn : n ≤ 1048576) :
    Calls Try.prog 23 #[.slice a n c] w fun e w' => e = .returned (.slice (some ⟨w.heap.size, 0, none⟩) n n) ∧ Below w.heap.size w w' ∧ VRow w' w.heap.size n (fun j => .int .i64 (C j)) := by
  obtain ⟨i0, hi, hz0, hz1, hz2⟩ := info_parts Try.info3
  go_enter Try.func23, Try.ntmps23
  go_wp2_with (at_make; refine wpList_make_full _ rfl _ _ 41 rfl w.heap.size 3 i0 (.int .i64 0) 1 Try.underlying41 hi hz0 hz1 _ _ _ _ n rfl rfl rfl rfl ?b1 ?b2 ?b3 ?_)
  case b1 => rw [hz2]; omega
  case b2 => unfold maxLen; omega
  case b3 => exact Nat.le_refl _
  intro w1 hown hgrow
  clear hi hz0 hz1 hz2
  have hV : VRow w1 w.heap.size n (fun _ => .int .i64 0) := VRow.ofOwns hown (by have := hown.lt _ rfl; omega) (by simpa [Value.cells] using toList_madeCells_one (.int .i64 0) n)
  have hB : Below w.heap.size w w1 := (Below.refl _ _).grown hgrow (Nat.le_refl _) (fun k h => by cases h)
  clear hown hgrow
  go_wp2
  go_loopw [10] (fun i wr => ∃ k : Nat, k ≤ n ∧ i = .int .i64 k ∧ VRow wr w.heap.size n (fun j => if j < k then .int .i64 (C j) else .int .i64 0) ∧ Below w.heap.size w wr) (fun i _ => n - (intOf i).toNat)
  case atStart => exact ⟨0, Nat.zero_le _, rfl, hV.congr (fun j _ => by simp), hB⟩
  case round =>
    obtain ⟨k, hk, rfl, hVr, hBr⟩ := hrel
    clear hV hB
    by_cases hlt : k < n
    · obtain ⟨b, off, rfl, hb, hcell⟩ := h.at (by omega)
      have c1 : wr.cell? ⟨b, off + k * 2 + 1, none⟩ = some (.int .i64 (C k)) := (hBr.cell hb).trans (hcell k hlt).2
      have c2 : wr.cell? ⟨w.heap.size, k, none⟩ = some (.int .i64 0) := by rw [hVr.cell k hlt]; simp
      have c3 := hVr.free k
      clear hcell
      go_wp2
      go_roundw
      case rel =>
        refine ⟨k + 1, by omega, by go_num, (hVr.set hlt (.int .i64 (C k))).congr (fun j _ => ?_), hBr.setCell (Nat.le_refl _) _⟩
        by_cases e : j = k
        · subst e; simp
        · rw [if_neg e]
          by_cases h : j < k
          · rw [if_pos h, if_pos (by omega)]
          · rw [if_neg h, if_neg (by omega)]
      case measure => simp [intOf]; omega
    · have : k = n := by omega
      subst this
      go_wp2
      go_ret
      exact ⟨rfl, hBr, hVr.congr (fun j hj => by rw [if_pos hj])⟩

/-- A slice of n strings reads as N. -/
def ReadsS (w : World) (ao : Option Addr) (n : Nat) (N : Nat → ByteArray) : Prop :=
  0 < n → ∃ b off, ao = some ⟨b, off, none⟩ ∧ ∀ i, i < n → w.cell? ⟨b, off + i, none⟩ = some (.string (N i))
theorem VRow.reads {w : World} {g n : Nat} {N : Nat → ByteArray} (h : VRow w g n (fun j => .string (N j))) : ReadsS w (some ⟨g, 0, none⟩) n N := fun _ => ⟨g, 0, rfl, fun i hi => by rw [Nat.zero_add]; exact h.cell i hi⟩

/-- 'sameStrings' of two rows that read alike. -/
theorem same_any (a b : Option Addr) (n c d : Nat) (N : Nat → ByteArray) (w : World) (ha : ReadsS w a n N) (hb : ReadsS w b n N) (hn : n ≤ 1048576) :
    Calls Try.prog 25 #[.slice a n c, .slice b n d] w fun e w' => e = .returned (.bool true) ∧ ∃ q, w' = w.drewN q := by
  go_enter Try.func25, Try.ntmps25
  go_wp2
  go_loopw [13] (fun i wr => ∃ k : Nat, k ≤ n ∧ i = .int .i64 k ∧ ∃ q, wr = w.drewN q) (fun i _ => n - (intOf i).toNat)
  case atStart => exact ⟨0, Nat.zero_le _, rfl, 0, rfl⟩
  case round =>
    obtain ⟨k, hk, rfl, q, rfl⟩ := hrel
    by_cases hlt : k < n
    · obtain ⟨b1, o1, rfl, h1⟩ := ha (by omega)
      obtain ⟨b2, o2, rfl, h2⟩ := hb (by omega)
      have c1 := h1 k hlt
      have c2 := h2 k hlt
      clear h1 h2 ha hb
      go_wp2
      go_region
      all_goals
        go_wp2
        go_roundw
        case rel => exact ⟨k + 1, by omega, by go_num, q + 1, rfl⟩
        case measure => simp [intOf]; omega
    · have : k = n := by omega
      subst this
      go_wp2
      go_ret
      exact ⟨rfl, q, rfl⟩

/-- Some Boolean comes back, and Q holds of it. -/
def AnsB (e : Ending) (Q : Bool → Prop) : Prop := ∃ b : Bool, e = .returned (.bool b) ∧ Q b
theorem AnsB.mk {e : Ending} {Q : Bool → Prop} (b : Bool) (h : e = .returned (.bool b)) (q : Q b) : AnsB e Q := ⟨b, h, q⟩
/-- Some int comes back, and Q holds of it. -/
def AnsI (e : Ending) (Q : Int → Prop) : Prop := ∃ m : Int, e = .returned (.int .i64 m) ∧ Q m

def Sml (N : Nat → ByteArray) (n : Nat) (b : Bool) : Prop := b = true → n ≤ 1048576 ∧ ∀ i, i < n → (N i).size ≤ 1048576

/-- 'zzBytes_..': some answer; nothing is touched; on 'yes' all is short. -/
theorem bytes_any (a : Option Addr) (n c : Nat) (y : Bool) (N : Nat → ByteArray) (C : Nat → Int) (w : World) (h : InRules w a n c N C) (hm : n ≤ maxLen) (hs : ∀ i, i < n → (N i).size ≤ maxLen) :
    Calls Try.prog 18 #[.slice a n c, .bool y] w fun e w' => AnsB e (Sml N n) ∧ w' = w := by
  unfold maxLen at hm hs
  have HS : Hid (∀ i, i < n → (N i).size ≤ 2 ^ 63 - 1) := hs
  clear hs
  by_cases h1 : n ≤ 1048576
  case neg =>
    go_enter Try.func18, Try.ntmps18
    go_wp2
    go_ret
    exact ⟨⟨false, rfl, fun h => by cases h⟩, rfl⟩
  go_enter Try.func18, Try.ntmps18
  go_wp2
  go_loop [5, 6] (fun s i => ∃ (k m : Nat), k ≤ n ∧ i = .int .i64 k ∧ s = .int .i64 m ∧ m ≤ 1048576 ∧ Hid (∀ i, i < k → (N i).size ≤ 1048576)) (fun _ i => n - (intOf i).toNat)
  case atStart => exact ⟨0, n, Nat.zero_le _, rfl, rfl, h1, fun i h => by omega⟩
  case round =>
    obtain ⟨k, m, hk, rfl, rfl, hm2, hall⟩ := hrel
    by_cases hlt : k < n
    · obtain ⟨b, off, rfl, hb, hcell⟩ := h.at (by omega)
      have c1 := (hcell k hlt).1
      obtain ⟨z, hz⟩ : ∃ z, z = N k := ⟨_, rfl⟩
      rw [← hz] at c1
      have hzs : z.size ≤ 2 ^ 63 - 1 := by rw [hz]; exact HS.out k hlt
      have HZ : Hid (z = N k) := hz
      clear hz hcell
      by_cases g1 : z.size ≤ 1048576
      · by_cases g2 : m + z.size ≤ 1048576
        · go_wp2
          go_round
          case rel =>
            refine ⟨k + 1, m + z.size, by omega, by go_num, by go_num, g2, fun i hi => ?_⟩
            by_cases e : i = k
            · subst e; rw [← HZ.out]; exact g1
            · exact hall i (by omega)
          case measure => simp [intOf]; omega
        · go_wp2
          go_ret
          exact ⟨⟨false, rfl, fun h => by cases h⟩, rfl⟩
      · go_wp2
        go_ret
        exact ⟨⟨false, rfl, fun h => by cases h⟩, rfl⟩
    · obtain rfl : n = k := by omega
      go_wp2
      go_ret
      exact ⟨⟨_, rfl, fun _ => ⟨h1, hall⟩⟩, rfl⟩

/-- 'headerBytes' with no entries: some number. -/
theorem hbytes_any (a : Option Addr) (n c : Nat) (N : Nat → ByteArray) (C : Nat → Int) (w : World) (h : InRules w a n c N C) (hn : n ≤ 4096) (hs : Hid (∀ i, i < n → (N i).size ≤ 1048576)) :
    Calls Try.prog 19 #[.int .i64 0, .slice a n c, .slice none 0 0, .int .i64 1048576] w fun e w' => AnsI e (fun _ => True) ∧ w' = w := by
  go_enter Try.func19, Try.ntmps19
  go_wp2
  go_loop [9, 20] (fun s i => ∃ (k m : Nat), k ≤ n ∧ i = .int .i64 k ∧ s = .int .i64 m ∧ m ≤ 1048576) (fun _ i => n - (intOf i).toNat)
  case atStart => exact ⟨0, 0, Nat.zero_le _, rfl, rfl, by omega⟩
  case round =>
    obtain ⟨k, m, hk, rfl, rfl, hm2⟩ := hrel
    by_cases hlt : k < n
    · obtain ⟨b, off, rfl, hb, hcell⟩ := h.at (by omega)
      have c1 := (hcell k hlt).1
      obtain ⟨z, hz⟩ : ∃ z, z = N k := ⟨_, rfl⟩
      rw [← hz] at c1
      have hzs : z.size ≤ 1048576 := by rw [hz]; exact hs.out k hlt
      clear hz hcell
      by_cases g2 : m + 24 + z.size ≤ 1048576
      · go_wp2
        go_round
        case rel => exact ⟨k + 1, m + 24 + z.size, by omega, by go_num, by go_num, g2⟩
        case measure => simp [intOf]; omega
      · go_wp2
        go_ret
        exact ⟨⟨_, rfl, trivial⟩, rfl⟩
    · obtain rfl : n = k := by omega
      go_wp2
      go_loop [9, 39] (fun s i => s = .int .i64 m ∧ i = .int .i64 0) (fun _ _ => 0)
      case atStart => exact ⟨rfl, rfl⟩
      case round =>
        obtain ⟨rfl, rfl⟩ := hrel
        go_wp2
        go_ret
        exact ⟨⟨_, rfl, trivial⟩, rfl⟩

/-- 'carriesFit': some answer. -/
theorem fit_any (a : Option Addr) (n c : Nat) (N : Nat → ByteArray) (C : Nat → Int) (w : World) (h : InRules w a n c N C) (hn : n ≤ 4096) :
    Calls Try.prog 20 #[.slice a n c] w fun e w' => AnsB e (fun _ => True) ∧ w' = w := by
  go_enter Try.func20, Try.ntmps20
  go_wp2
  go_loop [6] (fun i => ∃ (k : Nat), k ≤ n ∧ i = .int .i64 k) (fun i => n - (intOf i).toNat)
  case atStart => exact ⟨0, Nat.zero_le _, rfl⟩
  case round =>
    obtain ⟨k, hk, rfl⟩ := hrel
    by_cases hlt : k < n
    · obtain ⟨b, off, rfl, hb, hcell⟩ := h.at (by omega)
      have c1 := (hcell k hlt).2
      clear hcell
      by_cases g1 : C k < 0
      · go_wp2
        go_ret
        exact ⟨⟨_, rfl, trivial⟩, rfl⟩
      · by_cases g2 : 2 < C k
        · go_wp2
          go_ret
          exact ⟨⟨_, rfl, trivial⟩, rfl⟩
        · go_wp2
          go_round
          case rel => exact ⟨k + 1, by omega, by go_num⟩
          case measure => simp [intOf]; omega
    · go_wp2
      go_ret
      exact ⟨⟨_, rfl, trivial⟩, rfl⟩

theorem q26 (w : World) (a : Option Addr) (n c n' c' : Nat) : (binOp .eql 26 (.slice a n c) (.slice none n' c')).run Try.prog w = .ok (.bool a.isNone) w := Lib.run_eql_slice_nil w _ _ a n c n' c' Try.underlying26

/-- 'slices.Clone' of a row of strings (not nil). -/
theorem clone_any (g n : Nat) (N : Nat → ByteArray) (w : World) (h : VRow w g n (fun j => .string (N j))) (hn : n ≤ 1048576) :
    Calls Try.prog 27 #[.slice (some ⟨g, 0, none⟩) n n] w fun e w' => ∃ b c, e = .returned (.slice (some ⟨b, 0, none⟩) n c) ∧ Below w.heap.size w w' ∧ w.heap.size ≤ b ∧ VRow w' b n (fun j => .string (N j)) := by
  obtain ⟨i0, hi, hz0, hz1, hz2⟩ := info_parts Try.info9
  have q := q26
  go_enter Try.func27, Try.ntmps27
  have hown : (w.alloc (.cells #[] 9)).ownsRow w.heap.size 9 1 (.slice (some ⟨w.heap.size, 0, none⟩) 0 0) 0 [] := World.ownsRow_lit w #[] 0 (Nat.le_refl _) (by unfold maxLen; omega) rfl
  go_wp2_with (at_builtin; refine wpList_append_own _ rfl _ _ 26 rfl w.heap.size 9 i0 (.string ByteArray.empty) 1 16 Try.underlying26 hi hz0 hz1 hz2 rfl (by decide) _ _ _ rfl hown ⟨g, 0, none⟩ n n ((List.range n).map (fun j => Value.string (N j))) rfl (by simp) ?c1 ?c2 ?c3 ?c4 ?c5 ?_)
  case c1 =>
    intro j u hj
    obtain ⟨hjn, rfl⟩ : j < n ∧ Value.string (N j) = u := by
      by_cases hj' : j < n
      · simp [hj'] at hj; exact ⟨hj', hj⟩
      · simp [hj'] at hj
    rw [show (⟨g, 0, none⟩ : Addr).add j = ⟨g, j, none⟩ from by unfold Addr.add; split <;> simp_all]
    exact (h.alloc _).cell j hjn
  case c2 =>
    intro u hu
    obtain ⟨j, _, rfl⟩ := List.mem_map.1 hu
    rfl
  case c3 => unfold maxLen; omega
  case c4 => omega
  case c5 => simp
  intro v' w1 hown' hgrow hnil
  have hex : ∃ b cp, v' = .slice (some ⟨b, 0, none⟩) n cp ∧ w.heap.size ≤ b := by
    rcases hown'.2 with ⟨h0, _⟩ | ⟨b, cp, cur, hv, hb, _⟩
    · exact absurd h0 hnil
    · exact ⟨b, cp, hv, hb⟩
  obtain ⟨b, cp, hv, hb⟩ := hex
  rw [hv] at hown'
  rw [hv]
  have hV : VRow w1 b n (fun j => .string (N j)) := by
    refine ⟨(hown'.lt b rfl).2, fun j hj => ?_, fun j => hown'.frozenAt j⟩
    rw [hown'.cellAt j (by omega)]
    simp [hj]
  have hB : Below w.heap.size w w1 := ((Below.refl _ _).alloc (Nat.le_refl _) _).grown hgrow (by simp) (fun k h => by simp [Value.ownBlock] at h; omega)
  clear hown hown' hgrow hnil hv q hi hz0 hz1 hz2
  go_wp2
  go_ret
  exact ⟨b, cp, rfl, hB, hb, hV⟩

/-- 'SignatureHeaders'. -/
theorem sig_any (t g n : Nat) (N : Nat → ByteArray) (w : World) (ht : w.cell? ⟨t, 16, none⟩ = some (.slice (some ⟨g, 0, none⟩) n n)) (h : VRow w g n (fun j => .string (N j))) (hn : n ≤ 1048576) :
    Calls Try.prog 24 #[.pointer (some ⟨t, 0, none⟩)] w fun e w' => ∃ b c, e = .returned (.slice (some ⟨b, 0, none⟩) n c) ∧ Below w.heap.size w w' ∧ w.heap.size ≤ b ∧ VRow w' b n (fun j => .string (N j)) := by
  go_enter Try.func24, Try.ntmps24
  go_wp2_with fail
  refine (clone_any g n N w h hn).mono ?_
  rintro e w' ⟨b, c, rfl, hB, hb, hV⟩
  go_wp2
  go_ret
  exact ⟨b, c, rfl, hB, hb, hV⟩
theorem Try.info59 : (Try.prog.info? 59).map (fun i => (i.zero, i.size, i.bytes)) = some (some (.agg #[.string ByteArray.empty, .string ByteArray.empty, .int .i64 0, .string ByteArray.empty, .string ByteArray.empty]), 5, 72) := by kernel_rfl

theorem VRow.ofOwnsN {w : World} {base : Nat} {e : TypeId} {g n sz : Nat} {L : List Value} (h : w.ownsRow base e sz (.slice (some ⟨g, 0, none⟩) n n) n L) (hg : g < w.heap.size) : VRow w g (n * sz) (fun j => L.getD j (.bool false)) := by
  refine ⟨hg, fun j hj => ?_, fun j => h.frozenAt j⟩
  rw [h.cellAt j hj]
  have hl := h.1
  simp [show j < L.length by omega]

/-- 'ZZnewHeaderScheme'. -/
theorem new_any (g gc n : Nat) (N : Nat → ByteArray) (C : Nat → Int) (y : Bool) (w : World) (hN : VRow w g n (fun j => .string (N j))) (hC : VRow w gc n (fun j => .int .i64 (C j))) (hn : n ≤ 4096) :
    Calls Try.prog 21 #[.slice (some ⟨g, 0, none⟩) n n, .slice (some ⟨gc, 0, none⟩) n n, .bool y] w fun e w' => ∃ t, e = .returned (.pointer (some ⟨t, 0, none⟩)) ∧ Below w.heap.size w w' ∧ w'.cell? ⟨t, 16, none⟩ = some (.slice (some ⟨g, 0, none⟩) n n) := by
  obtain ⟨i0, hi, hz0, hz1, hz2⟩ := info_parts Try.info59
  go_enter Try.func21, Try.ntmps21
  go_wp2_with (at_make; refine wpList_make_full _ rfl _ _ 56 rfl w.heap.size 59 i0 (.agg #[.string ByteArray.empty, .string ByteArray.empty, .int .i64 0, .string ByteArray.empty, .string ByteArray.empty]) 5 Try.underlying56 hi hz0 hz1 _ _ _ _ n rfl rfl rfl rfl ?b1 ?b2 ?b3 ?_)
  case b1 => rw [hz2]; omega
  case b2 => unfold maxLen; omega
  case b3 => exact Nat.le_refl _
  intro w1 hown hgrow
  clear hi hz0 hz1 hz2
  have hV := VRow.ofOwnsN hown (by have := hown.lt _ rfl; omega)
  have hB : Below w.heap.size w w1 := (Below.refl _ _).grown hgrow (Nat.le_refl _) (fun k h => by cases h)
  clear hown hgrow
  go_wp2
  go_loopw [14] (fun i wr => ∃ k : Nat, k ≤ n ∧ i = .int .i64 k ∧ (∃ V, VRow wr w.heap.size (n * 5) V) ∧ Below w.heap.size w wr) (fun i _ => n - (intOf i).toNat)
  case atStart => exact ⟨0, Nat.zero_le _, rfl, ⟨_, hV⟩, hB⟩
  case round =>
    obtain ⟨k, hk, rfl, ⟨V, hVr⟩, hBr⟩ := hrel
    clear hV hB
    by_cases hlt : k < n
    · have c1 : wr.cell? ⟨g, k, none⟩ = some (.string (N k)) := (hBr.cell hN.lt).trans (hN.cell k hlt)
      have c2 : wr.cell? ⟨gc, k, none⟩ = some (.int .i64 (C k)) := (hBr.cell hC.lt).trans (hC.cell k hlt)
      have d0 := hVr.cell (k * 5) (by omega)
      have d1 := hVr.cell (k * 5 + 1) (by omega)
      have d2 := hVr.cell (k * 5 + 2) (by omega)
      have d3 := hVr.cell (k * 5 + 3) (by omega)
      have d4 := hVr.cell (k * 5 + 4) (by omega)
      have f0 := hVr.free (k * 5)
      have f1 := hVr.free (k * 5 + 1)
      have f2 := hVr.free (k * 5 + 2)
      have f3 := hVr.free (k * 5 + 3)
      have f4 := hVr.free (k * 5 + 4)
      go_wp2
      go_region
      all_goals
        go_wp2
        go_roundw
        case rel =>
          exact ⟨k + 1, by omega, by go_num, ⟨_, (((((hVr.set (by omega) _).set (by omega) _).set (by omega) _).set (by omega) _).set (by omega) _).drew⟩, (((((hBr.setCell (Nat.le_refl _) _).setCell (Nat.le_refl _) _).setCell (Nat.le_refl _) _).setCell (Nat.le_refl _) _).setCell (Nat.le_refl _) _).drew⟩
        case measure => simp [intOf]; omega
    · have : k = n := by omega
      subst this
      go_wp2
      go_ret
      exact ⟨wr.heap.size, rfl, hBr.alloc hBr.size _, by simp [World.cell?_alloc_at]⟩
end Go.Proofs.Qxb6616369a
