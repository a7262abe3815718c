/-
  The walks of the leaves: cloneI64, sameI64, the table's shims and place.
-/
import Derived.Test.Qxb6616332aProg
import Derived.Test.Qxb6616332aHeap
import Derived.Test.Qxb6616332aPlain
import Derived.WalkKit
import Derived.RegionTactic
import Derived.BigRegion
import Derived.Lib.SliceRun
namespace Go.Proofs.Qxb6616332a
open Go.RowKit Plain

theorem Try.info2 : (Try.prog.info? 2).map (fun i => (i.zero, i.size, i.bytes)) = some (some (.int .i64 0), 1, 8) := by kernel_rfl
theorem Try.info4 : (Try.prog.info? 4).map (fun i => (i.zero, i.size, i.bytes)) = some (some (.bool false), 1, 1) := by kernel_rfl

/-- A slice of numbers that came in: nil; or empty; or its first n cells read as Z says. -/
def InRow (w : World) (a : Option Addr) (n c : Nat) (Z : Nat → Int) : Prop :=
  (a = none ∧ n = 0 ∧ c = 0) ∨ ∃ x, a = some x ∧ (0 < n → ∃ b off, x = ⟨b, off, none⟩ ∧ b < w.heap.size ∧ ∀ i, i < n → w.cell? ⟨b, off + i, none⟩ = some (.int .i64 (Z i)))

theorem InRow.at {w : World} {a : Option Addr} {n c : Nat} {Z : Nat → Int} (h : InRow w a n c Z) (hn : 0 < n) :
    ∃ b off, a = some ⟨b, off, none⟩ ∧ b < w.heap.size ∧ ∀ i, i < n → w.cell? ⟨b, off + i, none⟩ = some (.int .i64 (Z i)) := by
  rcases h with ⟨_, h, _⟩ | ⟨x, rfl, h⟩
  · omega
  · obtain ⟨b, off, rfl, r⟩ := h hn
    exact ⟨b, off, rfl, r⟩
theorem InRow.below {w w' : World} {a : Option Addr} {n c : Nat} {Z : Nat → Int} (h : InRow w a n c Z) (t : Below w.heap.size w w') : InRow w' a n c Z := by
  rcases h with h | ⟨x, ha, h⟩
  · exact .inl h
  · refine .inr ⟨x, ha, fun hn => ?_⟩
    obtain ⟨b, off, hx, hb, hc⟩ := h hn
    exact ⟨b, off, hx, Nat.lt_of_lt_of_le hb t.size, fun i hi => (t.cell hb).trans (hc i hi)⟩

/-- The slice value v (of n numbers) reads as A in the world w. -/
def Reads (w : World) (ao : Option Addr) (n : Nat) (A : Nat → Int) : Prop :=
  0 < n → ∃ b off, ao = some ⟨b, off, none⟩ ∧ ∀ i, i < n → w.cell? ⟨b, off + i, none⟩ = some (.int .i64 (A i))

/-- A slice of n numbers of the call's own: block g, read as A. (Of an empty one nothing is known.) -/
def Own (w : World) (ao : Option Addr) (g n : Nat) (A : Nat → Int) : Prop := 0 < n → ao = some ⟨g, 0, none⟩ ∧ VRow w g n (fun j => .int .i64 (A j))
theorem Own.touch {S : Nat → Prop} {w w' : World} {ao : Option Addr} {g n : Nat} {A : Nat → Int} (h : Own w ao g n A) (t : Touch S w w') (hn : ¬ S g) : Own w' ao g n A := fun hp => ⟨(h hp).1, (h hp).2.touch t hn⟩
theorem Own.below {w w' : World} {ao : Option Addr} {g n : Nat} {A : Nat → Int} (h : Own w ao g n A) (t : Below w.heap.size w w') : Own w' ao g n A := fun hp => ⟨(h hp).1, (h hp).2.below t⟩
theorem Own.drew {w : World} {ao : Option Addr} {g n : Nat} {A : Nat → Int} (h : Own w ao g n A) : Own w.drew ao g n A := fun hp => ⟨(h hp).1, (h hp).2.drew⟩
theorem Own.drewN {w : World} {ao : Option Addr} {g n : Nat} {A : Nat → Int} (h : Own w ao g n A) (q : Nat) : Own (w.drewN q) ao g n A := fun hp => ⟨(h hp).1, (h hp).2.drewN q⟩
theorem Own.reads {w : World} {ao : Option Addr} {g n : Nat} {A : Nat → Int} (h : Own w ao g n A) : Reads w ao n A := fun hp => ⟨g, 0, (h hp).1, fun i hi => by rw [Nat.zero_add]; exact (h hp).2.cell i hi⟩
theorem Own.congr {w : World} {ao : Option Addr} {g n : Nat} {A A' : Nat → Int} (h : Own w ao g n A) (e : ∀ j, j < n → A j = A' j) : Own w ao g n A' := fun hp => ⟨(h hp).1, (h hp).2.congr (fun j hj => by rw [e j hj])⟩

theorem q22 (w : World) (a : Option Addr) (n c n' c' : Nat) : (binOp .eql 22 (.slice a n c) (.slice none n' c')).run Try.prog w = .ok (.bool a.isNone) w := Lib.run_eql_slice_nil w _ _ a n c n' c' Try.underlying22

/-- 'cloneI64'. -/
theorem clone_any (a : Option Addr) (n c : Nat) (Z : Nat → Int) (w : World) (h : InRow w a n c Z) (hn : n ≤ 1048576) :
    Calls Try.prog 9 #[.slice a n c] w fun e w' => ∃ ao, e = .returned (.slice ao n n) ∧ Below w.heap.size w w' ∧ Own w' ao w.heap.size n Z := by
  obtain ⟨i0, hi, hz0, hz1, hz2⟩ := info_parts Try.info2
  have q := q22
  rcases h with ⟨rfl, rfl, rfl⟩ | ⟨x, rfl, hx⟩
  · clear hi hz0 hz1 hz2
    go_enter Try.func9, Try.ntmps9
    go_wp2
    go_ret
    exact ⟨none, rfl, Below.refl _ _, fun h => by omega⟩
  · have HX := (show Hid _ from hx)
    clear hx
    go_enter Try.func9, Try.ntmps9
    go_wp2_with (at_make; refine wpList_make_full _ rfl _ _ 22 rfl w.heap.size 2 i0 (.int .i64 0) 1 Try.underlying22 hi hz0 hz1 _ _ _ _ n rfl rfl rfl rfl ?b1 ?b2 ?b3 ?_)
    case b1 => rw [hz2]; omega
    case b2 => unfold maxLen; omega
    case b3 => exact Nat.le_refl _
    intro w1 hown hgrow
    clear q hi hz0 hz1 hz2
    have hV : VRow w1 w.heap.size n (fun _ => .int .i64 0) := VRow.ofOwns hown (by have := hown.lt _ rfl; omega) (by simpa [Value.cells] using toList_madeCells_one (.int .i64 0) n)
    have hB : Below w.heap.size w w1 := (Below.refl _ _).grown hgrow (Nat.le_refl _) (fun k h => by cases h)
    clear hown hgrow
    go_wp2
    go_loopw [4] (fun i wr => ∃ k : Nat, k ≤ n ∧ i = .int .i64 k ∧ VRow wr w.heap.size n (fun j => if j < k then .int .i64 (Z j) else .int .i64 0) ∧ Below w.heap.size w wr) (fun i _ => n - (intOf i).toNat)
    case atStart => exact ⟨0, Nat.zero_le _, rfl, hV.congr (fun j _ => by simp), hB⟩
    case round =>
      obtain ⟨k, hk, rfl, hVr, hBr⟩ := hrel
      clear hV hB
      by_cases hlt : k < n
      · obtain ⟨b, off, rfl, hb, hcell⟩ := HX.out (by omega)
        have c1 : wr.cell? ⟨b, off + k, none⟩ = some (.int .i64 (Z k)) := (hBr.cell hb).trans (hcell k hlt)
        have c2 : wr.cell? ⟨w.heap.size, k, none⟩ = some (.int .i64 0) := by rw [hVr.cell k hlt]; simp
        have c3 := hVr.free k
        clear hcell
        go_wp2
        go_roundw
        case rel =>
          refine ⟨k + 1, by omega, by go_num, (hVr.set hlt (.int .i64 (Z k))).congr (fun j _ => ?_), hBr.setCell (Nat.le_refl _) _⟩
          by_cases e : j = k
          · subst e; simp
          · rw [if_neg e]
            by_cases h : j < k
            · rw [if_pos h, if_pos (by omega)]
            · rw [if_neg h, if_neg (by omega)]
        case measure => simp [intOf]; omega
      · have : k = n := by omega
        subst this
        go_wp2
        go_ret
        exact ⟨_, rfl, hBr, fun _ => ⟨rfl, hVr.congr (fun j hj => by rw [if_pos hj])⟩⟩

/-- 'sameI64' of two rows that read alike. -/
theorem same_any (a b : Option Addr) (n c d : Nat) (A : Nat → Int) (w : World) (ha : Reads w a n A) (hb : Reads w b n A) (hn : n ≤ 1048576) :
    Calls Try.prog 14 #[.slice a n c, .slice b n d] w fun e w' => e = .returned (.bool true) ∧ ∃ q, w' = w.drewN q := by
  go_enter Try.func14, Try.ntmps14
  go_wp2
  go_loopw [5] (fun i wr => ∃ k : Nat, k ≤ n ∧ i = .int .i64 k ∧ ∃ q, wr = w.drewN q) (fun i _ => n - (intOf i).toNat)
  case atStart => exact ⟨0, Nat.zero_le _, rfl, 0, rfl⟩
  case round =>
    obtain ⟨k, hk, rfl, q, rfl⟩ := hrel
    by_cases hlt : k < n
    · obtain ⟨b1, o1, rfl, h1⟩ := ha (by omega)
      obtain ⟨b2, o2, rfl, h2⟩ := hb (by omega)
      have c1 := h1 k hlt
      have c2 := h2 k hlt
      clear h1 h2 ha hb
      go_wp2
      go_region
      all_goals
        go_wp2
        go_roundw
        case rel => exact ⟨k + 1, by omega, by go_num, q + 1, rfl⟩
        case measure => simp [intOf]; omega
    · have : k = n := by omega
      subst this
      go_wp2
      go_ret
      exact ⟨rfl, q, rfl⟩

/-- The table: a block of twelve cells, of which three matter. -/
structure Tab (w : World) (t : Nat) (ao : Option Addr) (n : Nat) (lo hi : Int) : Prop where
  lt : t < w.heap.size
  ord : w.cell? ⟨t, 8, none⟩ = some (.slice ao n n)
  low : w.cell? ⟨t, 9, none⟩ = some (.int .i64 lo)
  high : w.cell? ⟨t, 10, none⟩ = some (.int .i64 hi)
  free : ∀ j, w.frozen? ⟨t, j, none⟩ = false
theorem Tab.keep {w w' : World} {t : Nat} {ao : Option Addr} {n : Nat} {lo hi : Int} (h : Tab w t ao n lo hi) (hb : w'.heap[t]? = w.heap[t]?) (hs : w.heap.size ≤ w'.heap.size) : Tab w' t ao n lo hi :=
  ⟨Nat.lt_of_lt_of_le h.lt hs, (World.cell?_of_block (w := w) (a := ⟨t, 8, none⟩) hb).trans h.ord, (World.cell?_of_block (w := w) (a := ⟨t, 9, none⟩) hb).trans h.low, (World.cell?_of_block (w := w) (a := ⟨t, 10, none⟩) hb).trans h.high, fun j => (World.frozen?_of_block (w := w) (a := ⟨t, j, none⟩) hb).trans (h.free j)⟩
theorem Tab.touch {S : Nat → Prop} {w w' : World} {t : Nat} {ao : Option Addr} {n : Nat} {lo hi : Int} (h : Tab w t ao n lo hi) (k : Touch S w w') (hn : ¬ S t) : Tab w' t ao n lo hi := h.keep (k.block t h.lt hn) k.size
theorem Tab.below {w w' : World} {t : Nat} {ao : Option Addr} {n : Nat} {lo hi : Int} (h : Tab w t ao n lo hi) (k : Below w.heap.size w w') : Tab w' t ao n lo hi := h.keep (k.block t h.lt) k.size

theorem Tab.setLow {w : World} {t : Nat} {ao : Option Addr} {n : Nat} {lo hi : Int} (h : Tab w t ao n lo hi) (x : Int) : Tab (w.setCell ⟨t, 9, none⟩ (.int .i64 x)) t ao n x hi :=
  ⟨by simpa [World.setCell] using h.lt, by rw [World.cell?_setCell_other w _ _ _ (by simp)]; exact h.ord, World.cell?_setCell_same w _ _ h.low, by rw [World.cell?_setCell_other w _ _ _ (by simp)]; exact h.high, fun j => by rw [World.frozen?_setCell]; exact h.free j⟩
theorem Tab.setHigh {w : World} {t : Nat} {ao : Option Addr} {n : Nat} {lo hi : Int} (h : Tab w t ao n lo hi) (x : Int) : Tab (w.setCell ⟨t, 10, none⟩ (.int .i64 x)) t ao n lo x :=
  ⟨by simpa [World.setCell] using h.lt, by rw [World.cell?_setCell_other w _ _ _ (by simp)]; exact h.ord, by rw [World.cell?_setCell_other w _ _ _ (by simp)]; exact h.low, World.cell?_setCell_same w _ _ h.high, fun j => by rw [World.frozen?_setCell]; exact h.free j⟩
theorem Tab.drew {w : World} {t : Nat} {ao : Option Addr} {n : Nat} {lo hi : Int} (h : Tab w t ao n lo hi) : Tab w.drew t ao n lo hi := ⟨h.lt, h.ord, h.low, h.high, h.free⟩
theorem Tab.drewN {w : World} {t : Nat} {ao : Option Addr} {n : Nat} {lo hi : Int} (h : Tab w t ao n lo hi) (q : Nat) : Tab (w.drewN q) t ao n lo hi := ⟨h.lt, h.ord, h.low, h.high, h.free⟩

/-- 'ZZnewLockTableOrder'. -/
theorem new_any (ao : Option Addr) (n : Nat) (lo hi : Int) (w : World) :
    Calls Try.prog 8 #[.slice ao n n, .int .i64 lo, .int .i64 hi] w fun e w' => e = .returned (.pointer (some ⟨w.heap.size, 0, none⟩)) ∧ Below w.heap.size w w' ∧ Tab w' w.heap.size ao n lo hi := by
  go_enter Try.func8, Try.ntmps8
  go_wp2
  go_ret
  refine ⟨rfl, (Below.refl _ _).alloc (Nat.le_refl _) _, ⟨by simp, ?_, ?_, ?_, fun j => ?_⟩⟩
  · simp [World.cell?_alloc_at]
  · simp [World.cell?_alloc_at]
  · simp [World.cell?_alloc_at]
  · exact World.frozen?_alloc_new w _ _ j

/-- 'ZZlockTableOrder', 'ZZlockTableLowest', 'ZZlockTableHighest'. -/
theorem ord_any (t : Nat) (ao : Option Addr) (n : Nat) (lo hi : Int) (w : World) (h : Tab w t ao n lo hi) :
    Calls Try.prog 11 #[.pointer (some ⟨t, 0, none⟩)] w fun e w' => e = .returned (.slice ao n n) ∧ w' = w := by
  have c := h.ord
  clear h
  go_enter Try.func11, Try.ntmps11
  go_wp2
  go_ret
  exact ⟨rfl, rfl⟩
theorem low_any (t : Nat) (ao : Option Addr) (n : Nat) (lo hi : Int) (w : World) (h : Tab w t ao n lo hi) :
    Calls Try.prog 12 #[.pointer (some ⟨t, 0, none⟩)] w fun e w' => e = .returned (.int .i64 lo) ∧ w' = w := by
  have c := h.low
  clear h
  go_enter Try.func12, Try.ntmps12
  go_wp2
  go_ret
  exact ⟨rfl, rfl⟩
theorem high_any (t : Nat) (ao : Option Addr) (n : Nat) (lo hi : Int) (w : World) (h : Tab w t ao n lo hi) :
    Calls Try.prog 13 #[.pointer (some ⟨t, 0, none⟩)] w fun e w' => e = .returned (.int .i64 hi) ∧ w' = w := by
  have c := h.high
  clear h
  go_enter Try.func13, Try.ntmps13
  go_wp2
  go_ret
  exact ⟨rfl, rfl⟩

/-- '(*lockTable).place'. -/
theorem place_any (t g n : Nat) (u : Nat) (p lo hi : Int) (A : Nat → Int) (w : World) (h : Tab w t (some ⟨g, 0, none⟩) n lo hi) (hr : VRow w g n (fun j => .int .i64 (A j))) (hne : g ≠ t) (hu : u < n) :
    Calls Try.prog 19 #[.pointer (some ⟨t, 0, none⟩), .int .i64 u, .int .i64 p] w fun e w' => e = .returned (.tuple #[]) ∧ Touch (fun k => k = g ∨ k = t) w w' ∧
      Tab w' t (some ⟨g, 0, none⟩) n (mn lo p) (mx hi p) ∧ VRow w' g n (fun j => .int .i64 (upd A u p j)) := by
  have c1 := h.ord
  have c2 := h.low
  have c3 := h.high
  have c4 := hr.cell u hu
  have f0 := hr.free u
  have f1 := h.free 9
  have f2 := h.free 10
  go_enter Try.func19, Try.ntmps19
  go_wp2
  obtain ⟨w1, hw1⟩ : ∃ w1, w1 = w.setCell ⟨g, u, none⟩ (.int .i64 p) := ⟨_, rfl⟩
  rw [← hw1]
  have ht : Tab w1 t (some ⟨g, 0, none⟩) n lo hi := by rw [hw1]; exact h.keep (Below.heap_setCell _ _ _ _ (fun e => hne e.symm)) (by simp [World.setCell])
  have hv : VRow w1 g n (fun j => .int .i64 (if (u : Int) = (j : Int) then p else A j)) := by
    rw [hw1]
    refine (hr.set hu _).congr (fun j _ => ?_)
    by_cases e : j = u
    · subst e; simp
    · rw [if_neg e, if_neg (by omega)]
  have hT : Touch (fun k => k = g ∨ k = t) w w1 := by rw [hw1]; exact (Touch.refl _ _).setCell (.inl rfl) _
  clear hw1 c1 c2 c3 c4 f0 f1 f2 hr h
  have c2 := ht.low
  have c3 := ht.high
  have f1 := ht.free 9
  have f2 := ht.free 10
  go_region
  all_goals
    go_end0
    exact ⟨rfl, ((hT.setCell (.inr rfl) _).setCell (.inr rfl) _).drew, ((ht.setLow _).setHigh _).drew, ((hv.setOther (fun e => hne e.symm) _).setOther (fun e => hne e.symm) _).drew⟩

/-- 'ZZlockTablePlace'. -/
theorem zzplace_any (t g n : Nat) (u : Nat) (p lo hi : Int) (A : Nat → Int) (w : World) (h : Tab w t (some ⟨g, 0, none⟩) n lo hi) (hr : VRow w g n (fun j => .int .i64 (A j))) (hne : g ≠ t) (hu : u < n) :
    Calls Try.prog 10 #[.pointer (some ⟨t, 0, none⟩), .int .i64 u, .int .i64 p] w fun e w' => e = .returned (.tuple #[]) ∧ Touch (fun k => k = g ∨ k = t) w w' ∧
      Tab w' t (some ⟨g, 0, none⟩) n (mn lo p) (mx hi p) ∧ VRow w' g n (fun j => .int .i64 (upd A u p j)) := by
  go_enter Try.func10, Try.ntmps10
  go_wp2_with fail
  refine (place_any t g n u p lo hi A w h hr hne hu).mono ?_
  rintro e w' ⟨rfl, r⟩
  go_wp2
  go_end0
  exact ⟨rfl, r⟩

/-- 'zzBytes_FnPlaceOrderFree', 'zzBytes_FnPlaceScriptMatchesLastWrite': some answer; nothing is touched; on 'yes' the lengths are small. -/
theorem bytes1_any (a0 a3 a4 : Option Addr) (n0 c0 n3 c3 n4 c4 : Nat) (x y : Int) (w : World) (h0 : n0 ≤ maxLen) (h3 : n3 ≤ maxLen) (h4 : n4 ≤ maxLen) :
    Calls Try.prog 7 #[.slice a0 n0 c0, .int .i64 x, .int .i64 y, .slice a3 n3 c3, .slice a4 n4 c4] w fun e w' => ∃ b : Bool, e = .returned (.bool b) ∧ w' = w ∧ (b = true → n0 ≤ 1048576 ∧ n3 ≤ 1048576 ∧ n4 ≤ 1048576) := by
  unfold maxLen at h0 h3 h4
  go_enter Try.func7, Try.ntmps7
  go_wp2
  all_goals
    go_ret
    exact ⟨_, rfl, rfl, by simp; try omega⟩
theorem bytes2_any (a0 a3 a4 : Option Addr) (n0 c0 n3 c3 n4 c4 : Nat) (x y : Int) (w : World) (h0 : n0 ≤ maxLen) (h3 : n3 ≤ maxLen) (h4 : n4 ≤ maxLen) :
    Calls Try.prog 18 #[.slice a0 n0 c0, .int .i64 x, .int .i64 y, .slice a3 n3 c3, .slice a4 n4 c4] w fun e w' => ∃ b : Bool, e = .returned (.bool b) ∧ w' = w ∧ (b = true → n0 ≤ 1048576 ∧ n3 ≤ 1048576 ∧ n4 ≤ 1048576) := by
  unfold maxLen at h0 h3 h4
  go_enter Try.func18, Try.ntmps18
  go_wp2
  all_goals
    go_ret
    exact ⟨_, rfl, rfl, by simp; try omega⟩

end Go.Proofs.Qxb6616332a
