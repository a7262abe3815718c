/-
  The walks of 'sortByName' (the library's slices.SortFunc by its contract) and of 'ZZsortByName'.
-/
import Derived.Test.Qxb6616369aNv
import Derived.Test.Qxb6616369aShelf
import Derived.Shelf.SlSortCmp.WholeK
namespace Go.Proofs.Qxb6616369a
open Go.RowKit Plain Go.Sort Go.Shelf

/-- A pair's two cells. -/
def encP (x : NV) : List Value := [.string x.1, .string x.2]
/-- The comparison by name. -/
def cfN (x y : NV) : Int := Lib.compareBytes x.1.data.toList y.1.data.toList
theorem ltOf_cfN : ltOf cfN = ltN := by
  funext x y
  rw [ltN_eq]
  exact compare_lt _ _

set_option maxHeartbeats 1000000 in
/-- The closure that 'sortByName' hands over. -/
theorem closure_any (x y : NV) (W : World) : Calls Try.prog 29 #[.agg #[.string x.1, .string x.2], .agg #[.string y.1, .string y.2]] W fun e w' => e = .returned (.int .i64 (cfN x y)) ∧ ∃ q os', w' = grow (W.drewN q) os' := by
  have hcon := fun W' => Any.strings_Compare Try.cmpS x.1 y.1 W'
  change ∀ W', Calls Try.prog 30 _ _ _ at hcon
  unfold cfN
  generalize Lib.compareBytes x.1.data.toList y.1.data.toList = r at hcon ⊢
  go_enter Try.func29, Try.ntmps29
  go_wp2_with (go_at_call 30; refine (hcon _).mono ?_; rintro e w' ⟨rfl, rfl⟩)
  go_ret
  exact ⟨rfl, 0, _, by rw [alloc_eq_grow, alloc_eq_grow, grow_grow]; rfl⟩

theorem flat_at (d : Array NV) (t : Nat) (h : t < d.size * 2) : (flatK encP 2 d)[t]! = pv d.toList t := by
  rw [get_flatK encP 2 d t h]
  have e : d[t / 2]! = d.toList.getD (t / 2) default := by
    simp [show t / 2 < d.size by omega, getElem!_pos]
  unfold pv nm vl
  rw [e]
  rcases Nat.mod_two_eq_zero_or_one t with e | e <;> simp [e, encP]
theorem PR.holds {w : World} {g : Nat} {L : List NV} (h : PR w g L) : HoldsK encP 2 w g 0 L.toArray := fun j hj => by
  simp only [size_flatK, List.size_toArray] at hj
  rw [flat_at _ _ (by simpa using hj), Nat.zero_add]
  exact ⟨VRow.cell h j (by omega), VRow.free h j⟩
theorem holds_reads {w : World} {g : Nat} {d : Array NV} (h : HoldsK encP 2 w g 0 d) (hg : g < w.heap.size) : RP w (some ⟨g, 0, none⟩) d.toList := fun _ =>
  ⟨g, 0, rfl, hg, fun i hi => by
    simp only [Array.length_toList] at hi
    have h0 := (h (i * 2) (by simp; omega)).1
    have h1 := (h (i * 2 + 1) (by simp; omega)).1
    rw [flat_at _ _ (by omega), pv_even, Nat.zero_add] at h0
    rw [flat_at _ _ (by omega), pv_odd, Nat.zero_add] at h1
    rw [Nat.zero_add]
    exact ⟨h0, h1⟩⟩
theorem touch_sortWorld {w : World} {g n : Nat} {d : Array NV} {os : Array Obj} : Touch (· = g) w (sortWorldK encP 2 w g 0 n d os) := by
  refine ⟨rfl, rfl, rfl, size_sortWorldK_c .., fun k hk hn => ?_⟩
  unfold sortWorldK grow putRowK putRow mapBlock Sort.ahead
  simp [Array.getElem?_append, hk, Array.getElem_modify, show ¬ g = k from fun e => hn e.symm]

/-- The row at g is sorted by name. -/
def Sorts (w w' : World) (g n : Nat) (L : List NV) : Prop := ∃ L', L'.Perm L ∧ SortedL L' ∧ L'.length = n ∧ RP w' (some ⟨g, 0, none⟩) L' ∧ Touch (· = g) w w'
theorem sorted_of (d : Array NV) (h : SortedIn ltN 0 d.size d) : SortedL d.toList := by
  unfold SortedL
  rw [List.pairwise_iff_getElem]
  intro i j hi hj hij
  simp only [Array.length_toList] at hi hj
  have := h i j (Nat.zero_le _) hij hj
  rw [getElem!_pos d j hj, getElem!_pos d i hi] at this
  simpa using this

set_option maxHeartbeats 1000000 in
/-- 'sortByName'. -/
theorem sort_any (g n c : Nat) (L : List NV) (w : World) (h : PR w g L) (hL : Hid (L.length = n)) (hn : n ≤ 1048576) :
    Calls Try.prog 26 #[.slice (some ⟨g, 0, none⟩) n c] w fun e w' => e = .returned (.tuple #[]) ∧ Sorts w w' g n L := by
  have hl := hL.out
  subst hl
  have eg : ∀ args w, (callFunc 29 args).run Try.prog w = .ok (.enter 29 args) w := enters_of Try.func29 (by kernel_rfl) rfl
  have hcon := AnyQ.slices_SortFunc Try.sortP 2 Try.isAgg49 Try.sizeOf49 encP (fun _ => rfl) (fun x v hv => by simp [encP] at hv; rcases hv with rfl | rfl <;> rfl) cfN (by rw [ltOf_cfN]; exact swoN) 29 #[] g 0 c L.toArray w eg (fun _ _ _ _ x y => closure_any x y _) h.holds (VRow.lt h) (by simp; omega)
  change Calls Try.prog 28 _ _ _ at hcon
  have hcon2 : Calls Try.prog 28 #[.slice (some ⟨g, 0, none⟩) L.length c, .func (.func 29) #[] #[]] w fun e w' => e = .returned (.tuple #[]) ∧ Sorts w w' g L.length L := by
    refine hcon.mono ?_
    rintro e w' ⟨rfl, d', m, os, hp, hs, rfl⟩
    obtain ⟨p1, _, p2⟩ := hp
    have hsz : d'.size = L.length := by rw [p1]; simp
    refine ⟨rfl, d'.toList, ?_, ?_, by rw [Array.length_toList]; exact hsz, ?_, touch_sortWorld⟩
    · have e1 : d'.extract 0 L.toArray.size = d' := by rw [← p1]; simp
      rw [e1] at p2
      simpa using p2
    · rw [ltOf_cfN] at hs
      rw [← p1] at hs
      exact sorted_of d' hs
    · exact holds_reads (holdsK_sortWorldK _ _ _ _ _ _ _ _ _ (VRow.lt h) h.holds p1) (lt_sortWorldK _ _ _ _ _ _ _ _ (VRow.lt h))
  clear hcon h
  generalize L.length = n at *
  go_enter Try.func26, Try.ntmps26
  go_wp2_with (go_at_call 28; refine hcon2.mono ?_; rintro e w' ⟨rfl, hS⟩)
  go_end0
  exact ⟨rfl, hS⟩

theorem RP.other {w : World} {g : Nat} {L : List NV} (h : RP w (some ⟨g, 0, none⟩) L) {p : Addr} (hp : p.block ≠ g) (u : Value) : RP (w.setCell p u) (some ⟨g, 0, none⟩) L := fun hn => by
  obtain ⟨b, off, hx, hb, hc⟩ := h hn
  have hbg : b = g := by cases hx; rfl
  have hk : (w.setCell p u).heap[b]? = w.heap[b]? := Below.heap_setCell _ _ _ _ (fun e => hp (by omega))
  refine ⟨b, off, hx, by simpa [World.setCell] using hb, fun i hi => ⟨?_, ?_⟩⟩
  · exact (World.cell?_of_block (w := w) (a := ⟨b, off + i * 2, none⟩) hk).trans (hc i hi).1
  · exact (World.cell?_of_block (w := w) (a := ⟨b, off + i * 2 + 1, none⟩) hk).trans (hc i hi).2
/-- What 'ZZsortByName' hands back. -/
def SortsTo (e : Ending) (w w' : World) (n : Nat) (L : List NV) : Prop := ∃ (g1 g2 : Nat) (L' : List NV), e = .returned (.tuple #[.slice (some ⟨g1, 0, none⟩) n n, .slice (some ⟨g2, 0, none⟩) n n]) ∧ L'.Perm L ∧ SortedL L' ∧ L'.length = n ∧ VRow w' g1 n (fun j => .string (nm L' j)) ∧ VRow w' g2 n (fun j => .string (vl L' j)) ∧ Below w.heap.size w w'

set_option maxHeartbeats 1600000 in
set_option maxRecDepth 100000 in
/-- 'ZZsortByName'. -/
theorem zzsort_any (gn gv n : Nat) (L : List NV) (w : World) (h1 : VRow w gn n (fun j => .string (nm L j))) (h2 : VRow w gv n (fun j => .string (vl L j))) (hL : Hid (L.length = n)) (hn : n ≤ 1048576) :
    Calls Try.prog 10 #[.slice (some ⟨gn, 0, none⟩) n n, .slice (some ⟨gv, 0, none⟩) n n] w fun e w' => SortsTo e w w' n L := by
  go_enter Try.func10, Try.ntmps10
  go_wp2_with (at_make; refine wpList_makeP _ rfl _ _ 47 rfl 49 Try.underlying47 Try.info49 _ _ _ _ n rfl rfl rfl rfl hn ?_)
  intro w1 hV hB
  obtain ⟨T0, hT0⟩ : ∃ T0 : List NV, T0 = List.replicate n (ByteArray.empty, ByteArray.empty) := ⟨_, rfl⟩
  rw [← hT0] at hV
  have hTn : Hid (T0.length = n) := show _ = _ by rw [hT0, List.length_replicate]
  clear hT0
  go_wp2
  go_loopw [16] (fun i wr => ∃ (k : Nat) (T : List NV), k ≤ n ∧ i = .int .i64 k ∧ PR wr w.heap.size T ∧ Hid (T.length = n) ∧ Hid (T.take k = L.take k) ∧ Below w.heap.size w wr) (fun i _ => n - (intOf i).toNat)
  case atStart => exact ⟨0, T0, Nat.zero_le _, rfl, hV, hTn, show _ = _ by simp, hB⟩
  case round =>
    obtain ⟨k, T, hk, rfl, hVr, hTl, hD, hBr⟩ := hrel
    clear hV hB hTn
    by_cases hlt : k < n
    · have c1 : wr.cell? ⟨gn, k, none⟩ = some (.string (nm L k)) := (hBr.cell h1.lt).trans (h1.cell k hlt)
      have c1' : wr.cell? ⟨gv, k, none⟩ = some (.string (vl L k)) := (hBr.cell h2.lt).trans (h2.cell k hlt)
      have c2 := hVr.c0 hTl hlt
      have c3 := hVr.c1 hTl hlt
      have c4 := hVr.f (k * 2)
      have c5 := hVr.f (k * 2 + 1)
      go_wp2
      go_region
      all_goals
        go_wp2
        go_roundw
        case rel =>
          refine ⟨k + 1, T.set k (nm L k, vl L k), by omega, by go_num, (hVr.set hTl hlt (nm L k, vl L k)).drew, show _ = _ by simp [hTl.out], show _ = _ from ?_, ((hBr.setCell (Nat.le_refl _) _).setCell (Nat.le_refl _) _).drew⟩
          have e1 := hTl.out
          have e2 := hL.out
          have hx : (nm L k, vl L k) = L[k]'(by omega) := by simp [nm, vl, show k < L.length by omega]
          rw [List.take_add_one, List.take_add_one, List.take_set_of_le (Nat.le_refl _), hD.out, hx]
          simp [show k < L.length by omega, show k < T.length by omega]
        case measure => simp [intOf]; omega
    · have : k = n := by omega
      subst this
      have e1 := hD.out
      rw [List.take_of_length_le (by rw [hTl.out]; omega), List.take_of_length_le (by rw [hL.out]; omega)] at e1
      subst e1
      clear hlt hk hD hTl h1 h2
      obtain ⟨wq, hwq⟩ : ∃ wq, wq = wr := ⟨_, rfl⟩
      subst hwq
      go_wp2_with fail
      refine (sort_any w.heap.size k k T wq hVr hL hn).mono ?_
      rintro e w2 ⟨rfl, L', hP, hS, hL', hR, hT2⟩
      have HP : Hid (L'.Perm T) := hP
      have HS : Hid (SortedL L') := hS
      have HL : Hid (L'.length = k) := hL'
      clear hP hS hL'
      have hB2 : Below w.heap.size w w2 := hBr.trans (hT2.below hBr.size (fun k e => by omega))
      have hlt0 : w.heap.size < w2.heap.size := Nat.lt_of_lt_of_le (VRow.lt hVr) hT2.size
      clear hVr hBr hT2
      obtain ⟨i0, hi, hz0, hz1, hz2⟩ := info_parts Try.info9
      go_wp2_with (at_make; refine wpList_make_full _ rfl _ _ 26 rfl w2.heap.size 9 i0 (.string ByteArray.empty) 1 Try.underlying26 hi hz0 hz1 _ _ _ _ k rfl rfl rfl rfl ?b1 ?b2 ?b3 ?_)
      case b1 => rw [hz2]; omega
      case b2 => unfold maxLen; omega
      case b3 => exact Nat.le_refl _
      intro w3 hown hgrow
      have hV3 : VRow w3 w2.heap.size k (fun _ => .string ByteArray.empty) := VRow.ofOwns hown (by have := hown.lt _ rfl; omega) (by simpa [Value.cells] using toList_madeCells_one (.string ByteArray.empty) k)
      have hB3 : Below w2.heap.size w2 w3 := (Below.refl _ _).grown hgrow (Nat.le_refl _) (fun k h => by cases h)
      clear hown hgrow
      have hR3 := hR.below hB3
      have hB3' : Below w.heap.size w w3 := hB2.trans (hB3.mono hB2.size)
      have hge := hlt0
      clear hR hB3 hB2 hlt0
      obtain ⟨g1, hg1⟩ : ∃ g1, g1 = w2.heap.size := ⟨_, rfl⟩
      rw [← hg1] at hV3 hge ⊢
      clear hg1
      go_wp2_with (at_make; refine wpList_make_full _ rfl _ _ 26 rfl w3.heap.size 9 i0 (.string ByteArray.empty) 1 Try.underlying26 hi hz0 hz1 _ _ _ _ k rfl rfl rfl rfl ?b1 ?b2 ?b3 ?_)
      case b1 => rw [hz2]; omega
      case b2 => unfold maxLen; omega
      case b3 => exact Nat.le_refl _
      intro w4 hown hgrow
      have hV4 : VRow w4 w3.heap.size k (fun _ => .string ByteArray.empty) := VRow.ofOwns hown (by have := hown.lt _ rfl; omega) (by simpa [Value.cells] using toList_madeCells_one (.string ByteArray.empty) k)
      have hB4 : Below w3.heap.size w3 w4 := (Below.refl _ _).grown hgrow (Nat.le_refl _) (fun k h => by cases h)
      clear hown hgrow hi hz0 hz1 hz2
      have hR4 := hR3.below hB4
      have hV3' := hV3.below hB4
      have hB4' : Below w.heap.size w w4 := hB3'.trans (hB4.mono hB3'.size)
      have hlt1 := hV3.lt
      have hge2 := hB3'.size
      clear hR3 hB4 hB3' hV3
      obtain ⟨g2, hg2⟩ : ∃ g2, g2 = w3.heap.size := ⟨_, rfl⟩
      rw [← hg2] at hV4 hlt1 hge2 ⊢
      clear hg2
      go_wp2
      go_loopw [42] (fun i wr => ∃ m : Nat, m ≤ k ∧ i = .int .i64 m ∧ VRow wr g1 k (fun j => if j < m then .string (nm L' j) else .string ByteArray.empty) ∧ VRow wr g2 k (fun j => if j < m then .string (vl L' j) else .string ByteArray.empty) ∧ RP wr (some ⟨w.heap.size, 0, none⟩) L' ∧ Below w.heap.size w wr) (fun i _ => k - (intOf i).toNat)
      case atStart => exact ⟨0, Nat.zero_le _, rfl, hV3'.congr (fun j _ => by simp), hV4.congr (fun j _ => by simp), hR4, hB4'⟩
      case round =>
        clear hV3' hV4 hR4 hB4'
        obtain ⟨m, hm, rfl, hVa, hVb, hR, hBr⟩ := hrel
        by_cases hlt : m < k
        · obtain ⟨b, off, hx, hb, hcell⟩ := hR.at HL (by omega)
          cases hx
          have c1 : wr.cell? ⟨w.heap.size, m * 2, none⟩ = some (.string (nm L' m)) := by have := (hcell m hlt).1; rwa [Nat.zero_add] at this
          have c2 : wr.cell? ⟨w.heap.size, m * 2 + 1, none⟩ = some (.string (vl L' m)) := by have := (hcell m hlt).2; rwa [Nat.zero_add] at this
          have d1 : wr.cell? ⟨g1, m, none⟩ = some (.string ByteArray.empty) := by rw [hVa.cell m hlt]; simp
          have d2 : wr.cell? ⟨g2, m, none⟩ = some (.string ByteArray.empty) := by rw [hVb.cell m hlt]; simp
          have f1 := hVa.free m
          have f2 := hVb.free m
          have n1 : g1 ≠ g2 := by omega
          have n2 : g2 ≠ g1 := by omega
          have n3 : w.heap.size ≠ g1 := by omega
          have n4 : g1 ≠ w.heap.size := by omega
          clear hcell
          go_wp2
          go_roundw
          case rel =>
            refine ⟨m + 1, by omega, by go_num, ((hVa.set hlt (.string (nm L' m))).setOther (p := ⟨g2, m, none⟩) n2 _).congr (fun j _ => ?_), ((hVb.setOther (p := ⟨g1, m, none⟩) n1 _).set hlt (.string (vl L' m))).congr (fun j _ => ?_), (hR.other (p := ⟨g1, m, none⟩) n4 _).other (p := ⟨g2, m, none⟩) (by show g2 ≠ _; omega) _, (hBr.setCell (by show _ ≤ g1; omega) _).setCell (by show _ ≤ g2; omega) _⟩
            all_goals
              by_cases e : j = m
              · subst e; simp
              · rw [if_neg e]
                by_cases h : j < m
                · rw [if_pos h, if_pos (by omega)]
                · rw [if_neg h, if_neg (by omega)]
          case measure => simp [intOf]; omega
        · have : m = k := by omega
          subst this
          go_wp2
          go_ret2
          exact ⟨g1, g2, L', rfl, HP.out, HS.out, HL.out, hVa.congr (fun j hj => by rw [if_pos hj]), hVb.congr (fun j hj => by rw [if_pos hj]), hBr⟩
end Go.Proofs.Qxb6616369a
