/-
  The walks of the leaves: Grants and the library's ContainsFunc and IndexFunc at it; insertAt; splitGranting; the two size checks.
-/
import Derived.Test.Qxb6617608aProg
import Derived.Test.Qxb6617608aHeap
import Derived.Test.Qxb6617608aPlain
import Derived.WalkKit
import Derived.RegionTactic
import Derived.BigRegion
import Derived.Lib.SliceRun
import Derived.WalkSpells
import Derived.WalkLawsBesides
namespace Go.Proofs.Qxb6617608a
open Go.RowKit Plain

theorem Try.info9 : (Try.prog.info? 9).map (fun i => (i.zero, i.size, i.bytes)) = some (some (.string ByteArray.empty), 1, 16) := by kernel_rfl

/-- A slice of n strings reads as N. -/
def ReadsS (w : World) (ao : Option Addr) (n : Nat) (N : Nat → ByteArray) : Prop :=
  0 < n → ∃ b off, ao = some ⟨b, off, none⟩ ∧ b < w.heap.size ∧ ∀ i, i < n → w.cell? ⟨b, off + i, none⟩ = some (.string (N i))
theorem ReadsS.below {w w' : World} {ao : Option Addr} {n : Nat} {N : Nat → ByteArray} (h : ReadsS w ao n N) (t : Below w.heap.size w w') : ReadsS w' ao n N := fun hn => by
  obtain ⟨b, off, e, hb, hc⟩ := h hn
  exact ⟨b, off, e, Nat.lt_of_lt_of_le hb t.size, fun i hi => (t.cell hb).trans (hc i hi)⟩
theorem VRow.reads {w : World} {g n : Nat} {N : Nat → ByteArray} (h : VRow w g n (fun j => .string (N j))) : ReadsS w (some ⟨g, 0, none⟩) n N := fun _ => ⟨g, 0, rfl, h.lt, fun i hi => by rw [Nat.zero_add]; exact h.cell i hi⟩

/-- 'Grants$1': is it a hit? -/
theorem pred_any (s p : ByteArray) (g : Nat) (w : World) (hp : w.cell? ⟨g, 0, none⟩ = some (.string p)) :
    Calls Try.prog 12 #[.string s, .pointer (some ⟨g, 0, none⟩)] w fun e w' => e = .returned (.bool (hit p s)) ∧ w' = w := by
  cases h1 : (s.toList == p.toList) with
  | true =>
    go_enter Try.func12, Try.ntmps12
    go_wp2
    go_ret
    exact ⟨by simp [hit, h1], rfl⟩
  | false =>
    go_enter Try.func12, Try.ntmps12
    go_wp2
    go_ret
    exact ⟨by simp [hit, h1], rfl⟩

/-- An int comes back, not negative iff b. -/
def AnsIx (e : Ending) (b : Bool) : Prop := ∃ i : Int, e = .returned (.int .i64 i) ∧ decide (0 ≤ i) = b

/-- 'slices.IndexFunc' at the predicate. -/
theorem index_any (a : Option Addr) (n c : Nat) (N : Nat → ByteArray) (p : ByteArray) (g : Nat) (w : World) (h : ReadsS w a n N) (hn : n ≤ 1048577) (hp : w.cell? ⟨g, 0, none⟩ = some (.string p)) :
    Calls Try.prog 13 #[.slice a n c, .func (.func 12) #[] #[.pointer (some ⟨g, 0, none⟩)]] w fun e w' => AnsIx e (anyK (fun j => hit p (N j)) n) ∧ w' = w := by
  go_enter Try.func13, Try.ntmps13
  go_wp2_with fail
  go_loop [8] (fun i => ∃ k : Nat, k ≤ n ∧ i = .int .i64 k ∧ Hid (anyK (fun j => hit p (N j)) k = false)) (fun i => n - (intOf i).toNat)
  case atStart => exact ⟨0, Nat.zero_le _, rfl, rfl⟩
  case round =>
    obtain ⟨k, hk, rfl, hno⟩ := hrel
    by_cases hlt : k < n
    · obtain ⟨b, off, rfl, hb, hcell⟩ := h (by omega)
      have c1 := hcell k hlt
      obtain ⟨z, hz⟩ : ∃ z, z = N k := ⟨_, rfl⟩
      rw [← hz] at c1
      have HZ : Hid (z = N k) := hz
      clear hz hcell
      go_wp2_with fail
      refine (pred_any z p g w hp).mono ?_
      rintro e w' ⟨rfl, rfl⟩
      cases hh : hit p z with
      | true =>
        have HH : Hid (hit p z = true) := hh
        clear hh
        go_wp2_with fail
        go_ret
        exact ⟨⟨_, rfl, by rw [anyK_of hlt (by rw [← HZ.out]; exact HH.out)]; simp⟩, rfl⟩
      | false =>
        have HH : Hid (hit p z = false) := hh
        clear hh
        go_wp2_with fail
        go_round
        case rel => exact ⟨k + 1, by omega, by go_num, anyK_step_no hno.out (by rw [← HZ.out]; exact HH.out)⟩
        case measure => simp [intOf]; omega
    · obtain rfl : n = k := by omega
      go_wp2_with fail
      go_ret
      exact ⟨⟨_, rfl, by rw [hno.out]; simp⟩, rfl⟩
/-- 'slices.ContainsFunc' at the predicate. -/
theorem contains_any (a : Option Addr) (n c : Nat) (N : Nat → ByteArray) (p : ByteArray) (g : Nat) (w : World) (h : ReadsS w a n N) (hn : n ≤ 1048577) (hp : w.cell? ⟨g, 0, none⟩ = some (.string p)) :
    Calls Try.prog 11 #[.slice a n c, .func (.func 12) #[] #[.pointer (some ⟨g, 0, none⟩)]] w fun e w' => e = .returned (.bool (anyK (fun j => hit p (N j)) n)) ∧ w' = w := by
  go_enter Try.func11, Try.ntmps11
  go_wp2_with fail
  refine (index_any a n c N p g w h hn hp).mono ?_
  rintro e w' ⟨⟨i, rfl, hi⟩, rfl⟩
  have HI : Hid (decide (0 ≤ i) = anyK (fun j => hit p (N j)) n) := hi
  clear hi
  go_wp2_with fail
  go_ret
  refine ⟨?_, rfl⟩
  rw [← HI.out]
  rfl
/-- 'Grants'. -/
theorem grants_any (a : Option Addr) (n c : Nat) (N : Nat → ByteArray) (p : ByteArray) (w : World) (h : ReadsS w a n N) (hn : n ≤ 1048577) :
    Calls Try.prog 7 #[.slice a n c, .string p] w fun e w' => e = .returned (.bool (anyK (fun j => hit p (N j)) n)) ∧ Below w.heap.size w w' := by
  have hB : Below w.heap.size w (w.alloc (.cells #[.string p] 9)) := (Below.refl _ _).alloc (Nat.le_refl _) _
  go_enter Try.func7, Try.ntmps7
  go_wp2_with fail
  refine (contains_any a n c N p w.heap.size _ (h.below hB) hn (by simp [World.cell?_alloc_at])).mono ?_
  rintro e w' ⟨rfl, rfl⟩
  obtain ⟨bb, hbb⟩ : ∃ bb, bb = anyK (fun j => hit p (N j)) n := ⟨_, rfl⟩
  have HBB : Hid (bb = anyK (fun j => hit p (N j)) n) := hbb
  rw [← hbb]
  clear hbb
  go_wp2_with fail
  go_ret
  exact ⟨by rw [← HBB.out]; rfl, hB⟩

/-- 'insertAt'. -/
theorem insert_any (a : Option Addr) (n c i : Nat) (N : Nat → ByteArray) (x : ByteArray) (w : World) (h : ReadsS w a n N) (hn : n ≤ 1048576) (hin : i ≤ n) :
    Calls Try.prog 8 #[.slice a n c, .int .i64 i, .string x] w fun e w' => e = .returned (.slice (some ⟨w.heap.size, 0, none⟩) (n + 1) (n + 1)) ∧ Below w.heap.size w w' ∧ VRow w' w.heap.size (n + 1) (fun j => .string (ins N i x j)) := by
  obtain ⟨i0, hi, hz0, hz1, hz2⟩ := info_parts Try.info9
  go_enter Try.func8, Try.ntmps8
  go_wp2_with (at_make; refine wpList_make_full _ rfl _ _ 22 rfl w.heap.size 9 i0 (.string ByteArray.empty) 1 Try.underlying22 hi hz0 hz1 _ _ _ _ (n + 1) rfl rfl (by omega) (by omega) ?b1 ?b2 ?b3 ?_)
  case b1 => rw [hz2]; omega
  case b2 => unfold maxLen; omega
  case b3 => exact Nat.le_refl _
  intro w1 hown hgrow
  clear hi hz0 hz1 hz2
  have hV : VRow w1 w.heap.size (n + 1) (fun _ => .string ByteArray.empty) := VRow.ofOwns hown (by have := hown.lt _ rfl; omega) (by simpa [Value.cells] using toList_madeCells_one (.string ByteArray.empty) (n + 1))
  have hB : Below w.heap.size w w1 := (Below.refl _ _).grown hgrow (Nat.le_refl _) (fun k h => by cases h)
  clear hown hgrow
  go_wp2
  go_loopw [8] (fun q wr => ∃ k : Nat, k ≤ i ∧ q = .int .i64 k ∧ VRow wr w.heap.size (n + 1) (fun j => if j < k then .string (N j) else .string ByteArray.empty) ∧ Below w.heap.size w wr) (fun q _ => i - (intOf q).toNat)
  case atStart => exact ⟨0, Nat.zero_le _, rfl, hV.congr (fun j _ => by simp), hB⟩
  case round =>
    obtain ⟨k, hk, rfl, hVr, hBr⟩ := hrel
    clear hV hB
    by_cases hlt : k < i
    · obtain ⟨b, off, rfl, hb, hcell⟩ := h (by omega)
      have c1 : wr.cell? ⟨b, off + k, none⟩ = some (.string (N k)) := (hBr.cell hb).trans (hcell k (by omega))
      have c2 : wr.cell? ⟨w.heap.size, k, none⟩ = some (.string ByteArray.empty) := by rw [hVr.cell k (by omega)]; simp
      have c3 := hVr.free k
      clear hcell
      go_wp2
      go_roundw
      case rel =>
        refine ⟨k + 1, by omega, by go_num, (hVr.set (j := k) (by omega) (.string (N k))).congr (fun j _ => ?_), hBr.setCell (Nat.le_refl _) _⟩
        by_cases e : j = k
        · subst e; simp
        · rw [if_neg e]
          by_cases h : j < k
          · rw [if_pos h, if_pos (by omega)]
          · rw [if_neg h, if_neg (by omega)]
      case measure => simp [intOf]; omega
    · obtain rfl : i = k := by omega
      have c2 : wr.cell? ⟨w.heap.size, i, none⟩ = some (.string ByteArray.empty) := by rw [hVr.cell i (by omega)]; simp
      have c3 := hVr.free i
      have hV2 := (hVr.set (j := i) (by omega) (.string x))
      have hB2 := hBr.setCell (p := ⟨w.heap.size, i, none⟩) (Nat.le_refl _) (.string x)
      obtain ⟨ws, hws⟩ : ∃ ws, ws = wr := ⟨_, rfl⟩
      subst hws
      clear hVr hBr
      go_wp2
      go_loopw [9] (fun q wr => ∃ k : Nat, i ≤ k ∧ k ≤ n ∧ q = .int .i64 k ∧ VRow wr w.heap.size (n + 1) (fun j => if j ≤ k then .string (ins N i x j) else .string ByteArray.empty) ∧ Below w.heap.size w wr) (fun q _ => n - (intOf q).toNat)
      case atStart =>
        refine ⟨i, Nat.le_refl _, hin, rfl, hV2.congr (fun j _ => ?_), hB2⟩
        by_cases e : j = i
        · subst e; simp [ins]
        · rw [if_neg e]
          by_cases h : j < i
          · rw [if_pos h, if_pos (by omega)]; simp [ins, h]
          · rw [if_neg h, if_neg (by omega)]
      case round =>
        obtain ⟨k, hk1, hk2, rfl, hVr, hBr⟩ := hrel
        clear hV2 hB2 c2 c3
        by_cases hlt : k < n
        · obtain ⟨b, off, rfl, hb, hcell⟩ := h (by omega)
          have c1 : wr.cell? ⟨b, off + k, none⟩ = some (.string (N k)) := (hBr.cell hb).trans (hcell k (by omega))
          have c2 : wr.cell? ⟨w.heap.size, k + 1, none⟩ = some (.string ByteArray.empty) := by rw [hVr.cell (k + 1) (by omega)]; exact congrArg some (if_neg (by omega))
          have c3 := hVr.free (k + 1)
          clear hcell
          go_wp2
          go_roundw
          case rel =>
            refine ⟨k + 1, by omega, by omega, by go_num, (hVr.set (j := k + 1) (by omega) (.string (N k))).congr (fun j _ => ?_), hBr.setCell (Nat.le_refl _) _⟩
            by_cases e : j = k + 1
            · subst e; rw [if_pos rfl, if_pos (Nat.le_refl _)]; unfold ins; rw [if_neg (by omega), if_neg (by omega)]; rfl
            · rw [if_neg e]
              by_cases h : j ≤ k
              · rw [if_pos h, if_pos (by omega)]
              · rw [if_neg h, if_neg (by omega)]
          case measure => simp [intOf]; omega
        · obtain rfl : n = k := by omega
          go_wp2
          go_ret
          exact ⟨rfl, hBr, hVr.congr (fun j hj => by rw [if_pos (by omega)])⟩

theorem kept_step {N : Nat → ByteArray} {p z : ByteArray} {k n g base : Nat} {w : World} (hz : z = N k) (e : keptK N p (k + 1) = keptK N p k ++ [N k])
    (h : w.ownsRow base 9 1 (.slice (some ⟨g, 0, none⟩) ((keptK N p k).length + 1) n) ((keptK N p k).length + 1) ((keptK N p k).map Value.string ++ [Value.string z])) :
    Value.slice (some ⟨g, 0, none⟩) ((keptK N p k).length + 1) n = .slice (some ⟨g, 0, none⟩) (keptK N p (k + 1)).length n ∧ w.ownsRow base 9 1 (.slice (some ⟨g, 0, none⟩) (keptK N p (k + 1)).length n) (keptK N p (k + 1)).length ((keptK N p (k + 1)).map Value.string) := by
  subst hz
  rw [e]
  exact ⟨by simp, by simpa using h⟩
theorem rest_step {N : Nat → ByteArray} {p z : ByteArray} {k n g base : Nat} {w : World} (hz : z = N k) (e : restK N p (k + 1) = restK N p k ++ [N k])
    (h : w.ownsRow base 9 1 (.slice (some ⟨g, 0, none⟩) ((restK N p k).length + 1) n) ((restK N p k).length + 1) ((restK N p k).map Value.string ++ [Value.string z])) :
    Value.slice (some ⟨g, 0, none⟩) ((restK N p k).length + 1) n = .slice (some ⟨g, 0, none⟩) (restK N p (k + 1)).length n ∧ w.ownsRow base 9 1 (.slice (some ⟨g, 0, none⟩) (restK N p (k + 1)).length n) (restK N p (k + 1)).length ((restK N p (k + 1)).map Value.string) := by
  subst hz
  rw [e]
  exact ⟨by simp, by simpa using h⟩
theorem row_of_list {w : World} {base g n : Nat} {L : List ByteArray} (h : w.ownsRow base 9 1 (.slice (some ⟨g, 0, none⟩) L.length n) L.length (L.map Value.string)) : VRow w g L.length (fun j => .string (L.getD j ByteArray.empty)) := by
  refine ⟨(h.lt g rfl).2, fun j hj => ?_, fun j => h.frozenAt j⟩
  rw [h.cellAt j (by omega)]
  simp [hj]

/-- 'splitGranting'. -/
theorem split_any (a : Option Addr) (n c : Nat) (N : Nat → ByteArray) (p : ByteArray) (w : World) (h : ReadsS w a n N) (hn : n ≤ 1048576) :
    Calls Try.prog 10 #[.slice a n c, .string p] w fun e w' => ∃ g1 g2, e = .returned (.tuple #[.slice (some ⟨g1, 0, none⟩) (keptK N p n).length n, .slice (some ⟨g2, 0, none⟩) (restK N p n).length n]) ∧ Below w.heap.size w w' ∧
      VRow w' g1 (keptK N p n).length (fun j => .string ((keptK N p n).getD j ByteArray.empty)) ∧ VRow w' g2 (restK N p n).length (fun j => .string ((restK N p n).getD j ByteArray.empty)) := by
  obtain ⟨i0, hi, hz0, hz1, hz2⟩ := info_parts Try.info9
  go_enter Try.func10, Try.ntmps10
  go_wp2_with (at_make; refine wpList_make_own _ rfl _ _ 22 rfl w.heap.size 9 i0 (.string ByteArray.empty) 1 Try.underlying22 hi hz0 hz1 _ _ _ n rfl rfl rfl ?b1 ?b2 ?b3 ?_)
  case b1 => rw [hz2]; omega
  case b2 => unfold maxLen; omega
  case b3 => exact Nat.le_refl _
  intro w1 hown1 hgrow1
  have hs1 := (hown1.lt _ rfl).2
  go_wp2_with (at_make; refine wpList_make_own _ rfl _ _ 22 rfl w1.heap.size 9 i0 (.string ByteArray.empty) 1 Try.underlying22 hi hz0 hz1 _ _ _ n rfl rfl rfl ?b4 ?b5 ?b6 ?_)
  case b4 => omega
  case b5 => unfold maxLen; omega
  intro w2 hown2 hgrow2
  have hown1' := hown1.kept hgrow2 (.inr (by simp [Value.ownBlock]))
  have hB2 : Below w.heap.size w w2 := ((Below.refl _ _).grown hgrow1 (Nat.le_refl _) (fun k h => by cases h)).grown hgrow2 (by omega) (fun k h => by cases h)
  clear hown1 hgrow1 hgrow2
  go_wp2_with fail
  go_loopw [6, 7, 8] (fun v1 v2 q wr => ∃ k : Nat, k ≤ n ∧ q = .int .i64 k ∧ v1 = .slice (some ⟨w.heap.size, 0, none⟩) (keptK N p k).length n ∧ v2 = .slice (some ⟨w1.heap.size, 0, none⟩) (restK N p k).length n ∧
      wr.ownsRow w.heap.size 9 1 (.slice (some ⟨w.heap.size, 0, none⟩) (keptK N p k).length n) (keptK N p k).length ((keptK N p k).map Value.string) ∧
      wr.ownsRow w1.heap.size 9 1 (.slice (some ⟨w1.heap.size, 0, none⟩) (restK N p k).length n) (restK N p k).length ((restK N p k).map Value.string) ∧ Below w.heap.size w wr) (fun _ _ q _ => n - (intOf q).toNat)
  case atStart => exact ⟨0, Nat.zero_le _, rfl, rfl, rfl, hown1', hown2, hB2⟩
  case round =>
    obtain ⟨k, hk, rfl, rfl, rfl, hK, hR, hBr⟩ := hrel
    clear hown1' hown2 hB2
    have hl := keptK_len N p k
    by_cases hlt : k < n
    · obtain ⟨b, off, rfl, hb, hcell⟩ := h (by omega)
      have c1 : wr.cell? ⟨b, off + k, none⟩ = some (.string (N k)) := (hBr.cell hb).trans (hcell k (by omega))
      obtain ⟨z, hz⟩ : ∃ z, z = N k := ⟨_, rfl⟩
      rw [← hz] at c1
      have HZ : Hid (z = N k) := hz
      clear hz hcell
      cases h1 : (z.toList == p.toList) with
      | true =>
        have HH : Hid (keptK N p (k + 1) = keptK N p k ++ [N k] ∧ restK N p (k + 1) = restK N p k) := keptK_yes (by rw [← HZ.out]; simp [hit, h1])
        go_wp2_with (at_builtin; refine wpList_append_fits _ rfl _ _ 22 rfl w.heap.size 9 i0 1 Try.underlying22 hi hz1 _ _ _ _ rfl (hK.alloc _) ⟨wr.heap.size, 0, none⟩ 1 1 [.string z] rfl rfl ?c1 ?c2 ?c3 ?_)
        case c1 => exact cell_one_new _ _ _
        case c2 => intro u hu; simp at hu; subst hu; rfl
        case c3 => omega
        intro w3 hown3 hgrow3
        have hS := kept_step HZ.out HH.out.1 hown3
        have hR3 := (hR.alloc (.cells #[.string z] 9)).kept hgrow3 (.inr (by simp [Value.ownBlock]; omega))
        have hB3 : Below w.heap.size w w3 := (hBr.alloc hBr.size _).grown hgrow3 (by have := hBr.size; simp; omega) (fun j hj => by cases hj; exact Nat.le_refl _)
        clear hown3 hgrow3 hK hR hBr
        go_wp2_with fail
        go_roundw
        case rel => exact ⟨k + 1, by omega, by go_num, hS.1, by rw [HH.out.2], hS.2, by rw [HH.out.2]; exact hR3, hB3⟩
        case measure => simp [intOf]; omega
      | false =>
        cases h2 : (z.toList == [42]) with
        | true =>
          have HH : Hid (keptK N p (k + 1) = keptK N p k ++ [N k] ∧ restK N p (k + 1) = restK N p k) := keptK_yes (by rw [← HZ.out]; simp [hit, h1, h2])
          go_wp2_with (at_builtin; refine wpList_append_fits _ rfl _ _ 22 rfl w.heap.size 9 i0 1 Try.underlying22 hi hz1 _ _ _ _ rfl (hK.alloc _) ⟨wr.heap.size, 0, none⟩ 1 1 [.string z] rfl rfl ?c1 ?c2 ?c3 ?_)
          case c1 => exact cell_one_new _ _ _
          case c2 => intro u hu; simp at hu; subst hu; rfl
          case c3 => omega
          intro w3 hown3 hgrow3
          have hS := kept_step HZ.out HH.out.1 hown3
          have hR3 := (hR.alloc (.cells #[.string z] 9)).kept hgrow3 (.inr (by simp [Value.ownBlock]; omega))
          have hB3 : Below w.heap.size w w3 := (hBr.alloc hBr.size _).grown hgrow3 (by have := hBr.size; simp; omega) (fun j hj => by cases hj; exact Nat.le_refl _)
          clear hown3 hgrow3 hK hR hBr
          go_wp2_with fail
          go_roundw
          case rel => exact ⟨k + 1, by omega, by go_num, hS.1, by rw [HH.out.2], hS.2, by rw [HH.out.2]; exact hR3, hB3⟩
          case measure => simp [intOf]; omega
        | false =>
          have HH : Hid (keptK N p (k + 1) = keptK N p k ∧ restK N p (k + 1) = restK N p k ++ [N k]) := keptK_no (by rw [← HZ.out]; simp [hit, h1, h2])
          go_wp2_with (at_builtin; refine wpList_append_fits _ rfl _ _ 22 rfl w1.heap.size 9 i0 1 Try.underlying22 hi hz1 _ _ _ _ rfl (hR.alloc _) ⟨wr.heap.size, 0, none⟩ 1 1 [.string z] rfl rfl ?c1 ?c2 ?c3 ?_)
          case c1 => exact cell_one_new _ _ _
          case c2 => intro u hu; simp at hu; subst hu; rfl
          case c3 => omega
          intro w3 hown3 hgrow3
          have hS := rest_step HZ.out HH.out.2 hown3
          have hK3 := (hK.alloc (.cells #[.string z] 9)).kept hgrow3 (.inr (by simp [Value.ownBlock]; omega))
          have hB3 : Below w.heap.size w w3 := (hBr.alloc hBr.size _).grown hgrow3 (by have := hBr.size; simp; omega) (fun j hj => by cases hj; omega)
          clear hown3 hgrow3 hK hR hBr
          go_wp2_with fail
          go_roundw
          case rel => exact ⟨k + 1, by omega, by go_num, by rw [HH.out.1], hS.1, by rw [HH.out.1]; exact hK3, hS.2, hB3⟩
          case measure => simp [intOf]; omega
    · obtain rfl : n = k := by omega
      have r1 := row_of_list hK
      have r2 := row_of_list hR
      clear hK hR
      go_wp2_with fail
      go_ret2
      exact ⟨_, _, rfl, hBr, r1, r2⟩

/-- Some Boolean comes back, and Q holds of it. -/
def AnsB (e : Ending) (Q : Bool → Prop) : Prop := ∃ b : Bool, e = .returned (.bool b) ∧ Q b
def Sml (N : Nat → ByteArray) (n : Nat) (b : Bool) : Prop := b = true → n ≤ 1048576 ∧ ∀ i, i < n → (N i).size ≤ 1048576

/-- 'zzBytes_..': some answer; nothing is touched; on 'yes' all is short. -/
theorem bytes1_any (a : Option Addr) (n c : Nat) (y : ByteArray) (x : Int) (N : Nat → ByteArray) (w : World) (h : ReadsS w a n N) (hm : n ≤ maxLen) (hs : ∀ i, i < n → (N i).size ≤ maxLen) (hy : y.size ≤ maxLen) :
    Calls Try.prog 5 #[.slice a n c, .string y, .int .i64 x] w fun e w' => AnsB e (Sml N n) ∧ w' = w := by
  unfold maxLen at hm hs hy
  have HS : Hid (∀ i, i < n → (N i).size ≤ 2 ^ 63 - 1) := hs
  clear hs
  by_cases h1 : n ≤ 1048576
  case neg =>
    go_enter Try.func5, Try.ntmps5
    go_wp2
    go_ret
    exact ⟨⟨false, rfl, fun h => by cases h⟩, rfl⟩
  go_enter Try.func5, Try.ntmps5
  go_wp2
  go_loop [7, 8] (fun s i => ∃ (k m : Nat), k ≤ n ∧ i = .int .i64 k ∧ s = .int .i64 m ∧ m ≤ 1048576 ∧ Hid (∀ i, i < k → (N i).size ≤ 1048576)) (fun _ i => n - (intOf i).toNat)
  case atStart => exact ⟨0, n, Nat.zero_le _, rfl, rfl, h1, fun i h => by omega⟩
  case round =>
    obtain ⟨k, m, hk, rfl, rfl, hm2, hall⟩ := hrel
    by_cases hlt : k < n
    · obtain ⟨b, off, rfl, hb, hcell⟩ := h (by omega)
      have c1 := hcell k hlt
      obtain ⟨z, hz⟩ : ∃ z, z = N k := ⟨_, rfl⟩
      rw [← hz] at c1
      have hzs : z.size ≤ 2 ^ 63 - 1 := by rw [hz]; exact HS.out k hlt
      have HZ : Hid (z = N k) := hz
      clear hz hcell
      by_cases g1 : z.size ≤ 1048576
      · by_cases g2 : m + z.size ≤ 1048576
        · go_wp2
          go_round
          case rel =>
            refine ⟨k + 1, m + z.size, by omega, by go_num, by go_num, g2, fun i hi => ?_⟩
            by_cases e : i = k
            · subst e; rw [← HZ.out]; exact g1
            · exact hall i (by omega)
          case measure => simp [intOf]; omega
        · go_wp2
          go_ret
          exact ⟨⟨false, rfl, fun h => by cases h⟩, rfl⟩
      · go_wp2
        go_ret
        exact ⟨⟨false, rfl, fun h => by cases h⟩, rfl⟩
    · obtain rfl : n = k := by omega
      by_cases g1 : y.size ≤ 1048576
      · by_cases g2 : m + y.size ≤ 1048576
        · go_wp2
          go_ret
          exact ⟨⟨_, rfl, fun _ => ⟨h1, hall⟩⟩, rfl⟩
        · go_wp2
          go_ret
          exact ⟨⟨_, rfl, fun _ => ⟨h1, hall⟩⟩, rfl⟩
      · go_wp2
        go_ret
        exact ⟨⟨_, rfl, fun _ => ⟨h1, hall⟩⟩, rfl⟩
/-- 'zzBytes_..': some answer; nothing is touched; on 'yes' all is short. -/
theorem bytes2_any (a : Option Addr) (n c : Nat) (y : ByteArray) (x : Int) (N : Nat → ByteArray) (w : World) (h : ReadsS w a n N) (hm : n ≤ maxLen) (hs : ∀ i, i < n → (N i).size ≤ maxLen) (hy : y.size ≤ maxLen) :
    Calls Try.prog 9 #[.slice a n c, .string y, .int .i64 x] w fun e w' => AnsB e (Sml N n) ∧ w' = w := by
  unfold maxLen at hm hs hy
  have HS : Hid (∀ i, i < n → (N i).size ≤ 2 ^ 63 - 1) := hs
  clear hs
  by_cases h1 : n ≤ 1048576
  case neg =>
    go_enter Try.func9, Try.ntmps9
    go_wp2
    go_ret
    exact ⟨⟨false, rfl, fun h => by cases h⟩, rfl⟩
  go_enter Try.func9, Try.ntmps9
  go_wp2
  go_loop [7, 8] (fun s i => ∃ (k m : Nat), k ≤ n ∧ i = .int .i64 k ∧ s = .int .i64 m ∧ m ≤ 1048576 ∧ Hid (∀ i, i < k → (N i).size ≤ 1048576)) (fun _ i => n - (intOf i).toNat)
  case atStart => exact ⟨0, n, Nat.zero_le _, rfl, rfl, h1, fun i h => by omega⟩
  case round =>
    obtain ⟨k, m, hk, rfl, rfl, hm2, hall⟩ := hrel
    by_cases hlt : k < n
    · obtain ⟨b, off, rfl, hb, hcell⟩ := h (by omega)
      have c1 := hcell k hlt
      obtain ⟨z, hz⟩ : ∃ z, z = N k := ⟨_, rfl⟩
      rw [← hz] at c1
      have hzs : z.size ≤ 2 ^ 63 - 1 := by rw [hz]; exact HS.out k hlt
      have HZ : Hid (z = N k) := hz
      clear hz hcell
      by_cases g1 : z.size ≤ 1048576
      · by_cases g2 : m + z.size ≤ 1048576
        · go_wp2
          go_round
          case rel =>
            refine ⟨k + 1, m + z.size, by omega, by go_num, by go_num, g2, fun i hi => ?_⟩
            by_cases e : i = k
            · subst e; rw [← HZ.out]; exact g1
            · exact hall i (by omega)
          case measure => simp [intOf]; omega
        · go_wp2
          go_ret
          exact ⟨⟨false, rfl, fun h => by cases h⟩, rfl⟩
      · go_wp2
        go_ret
        exact ⟨⟨false, rfl, fun h => by cases h⟩, rfl⟩
    · obtain rfl : n = k := by omega
      by_cases g1 : y.size ≤ 1048576
      · by_cases g2 : m + y.size ≤ 1048576
        · go_wp2
          go_ret
          exact ⟨⟨_, rfl, fun _ => ⟨h1, hall⟩⟩, rfl⟩
        · go_wp2
          go_ret
          exact ⟨⟨_, rfl, fun _ => ⟨h1, hall⟩⟩, rfl⟩
      · go_wp2
        go_ret
        exact ⟨⟨_, rfl, fun _ => ⟨h1, hall⟩⟩, rfl⟩

/-- 'sizeOK': some answer. -/
theorem sizeOK_any (a : Option Addr) (n c : Nat) (y : ByteArray) (N : Nat → ByteArray) (w : World) (h : ReadsS w a n N) (hn : n ≤ 65536) (hs : Hid (∀ i, i < n → (N i).size ≤ 1048576)) (hy : y.size ≤ 1048576) :
    Calls Try.prog 6 #[.slice a n c, .string y] w fun e w' => AnsB e (fun _ => True) ∧ w' = w := by
  go_enter Try.func6, Try.ntmps6
  go_wp2
  go_loop [5, 6] (fun s i => ∃ (k m : Nat), k ≤ n ∧ i = .int .i64 k ∧ s = .int .i64 m ∧ m ≤ 1048576) (fun _ i => n - (intOf i).toNat)
  case atStart => exact ⟨0, y.size, Nat.zero_le _, rfl, rfl, hy⟩
  case round =>
    obtain ⟨k, m, hk, rfl, rfl, hm2⟩ := hrel
    by_cases hlt : k < n
    · obtain ⟨b, off, rfl, hb, hcell⟩ := h (by omega)
      have c1 := hcell k hlt
      obtain ⟨z, hz⟩ : ∃ z, z = N k := ⟨_, rfl⟩
      rw [← hz] at c1
      have hzs : z.size ≤ 1048576 := by rw [hz]; exact hs.out k hlt
      clear hz hcell
      by_cases g2 : m + 16 + z.size ≤ 1048576
      · go_wp2
        go_round
        case rel => exact ⟨k + 1, m + 16 + z.size, by omega, by go_num, by go_num, g2⟩
        case measure => simp [intOf]; omega
      · go_wp2
        go_ret
        exact ⟨⟨_, rfl, trivial⟩, rfl⟩
    · go_wp2
      go_ret
      exact ⟨⟨_, rfl, trivial⟩, rfl⟩
end Go.Proofs.Qxb6617608a
