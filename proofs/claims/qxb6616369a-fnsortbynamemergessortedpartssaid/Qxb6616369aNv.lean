/-
  The walks of the small helpers on the roads of the two sort statements.
-/
import Derived.Test.Qxb6616369aPair
namespace Go.Proofs.Qxb6616369a
open Go.RowKit Plain

theorem Try.info46 : (Try.prog.info? 46).map (fun i => (i.zero, i.size, i.bytes)) = some (some (.agg #[.string ByteArray.empty, .string ByteArray.empty]), 2, 32) := by kernel_rfl
theorem Try.info49 : (Try.prog.info? 49).map (fun i => (i.zero, i.size, i.bytes)) = some (some (.agg #[.string ByteArray.empty, .string ByteArray.empty]), 2, 32) := by kernel_rfl

/-- 'namesOf'. -/
theorem namesOf_any (a : Option Addr) (n c : Nat) (L : List NV) (w : World) (h : RP w a L) (hL : Hid (L.length = n)) (hn : n ≤ 1048576) :
    Calls Try.prog 11 #[.slice a n c] w fun e w' => e = .returned (.slice (some ⟨w.heap.size, 0, none⟩) n n) ∧ Below w.heap.size w w' ∧ VRow w' w.heap.size n (fun j => .string (nm L j)) := by
  obtain ⟨i0, hi, hz0, hz1, hz2⟩ := info_parts Try.info9
  go_enter Try.func11, Try.ntmps11
  go_wp2_with (at_make; refine wpList_make_full _ rfl _ _ 26 rfl w.heap.size 9 i0 (.string ByteArray.empty) 1 Try.underlying26 hi hz0 hz1 _ _ _ _ n rfl rfl rfl rfl ?b1 ?b2 ?b3 ?_)
  case b1 => rw [hz2]; omega
  case b2 => unfold maxLen; omega
  case b3 => exact Nat.le_refl _
  intro w1 hown hgrow
  clear hi hz0 hz1 hz2
  have hV : VRow w1 w.heap.size n (fun _ => .string ByteArray.empty) := VRow.ofOwns hown (by have := hown.lt _ rfl; omega) (by simpa [Value.cells] using toList_madeCells_one (.string ByteArray.empty) n)
  have hB : Below w.heap.size w w1 := (Below.refl _ _).grown hgrow (Nat.le_refl _) (fun k h => by cases h)
  clear hown hgrow
  go_wp2
  go_loopw [10] (fun i wr => ∃ k : Nat, k ≤ n ∧ i = .int .i64 k ∧ VRow wr w.heap.size n (fun j => if j < k then .string (nm L j) else .string ByteArray.empty) ∧ Below w.heap.size w wr) (fun i _ => n - (intOf i).toNat)
  case atStart => exact ⟨0, Nat.zero_le _, rfl, hV.congr (fun j _ => by simp), hB⟩
  case round =>
    obtain ⟨k, hk, rfl, hVr, hBr⟩ := hrel
    clear hV hB
    by_cases hlt : k < n
    · obtain ⟨b, off, rfl, hb, hcell⟩ := h.at hL (by omega)
      have c1 : wr.cell? ⟨b, off + k * 2, none⟩ = some (.string (nm L k)) := (hBr.cell hb).trans (hcell k hlt).1
      have c2 : wr.cell? ⟨w.heap.size, k, none⟩ = some (.string ByteArray.empty) := by rw [hVr.cell k hlt]; simp
      have c3 := hVr.free k
      clear hcell
      go_wp2
      go_roundw
      case rel =>
        refine ⟨k + 1, by omega, by go_num, (hVr.set hlt (.string (nm L k))).congr (fun j _ => ?_), hBr.setCell (Nat.le_refl _) _⟩
        by_cases e : j = k
        · subst e; simp
        · rw [if_neg e]
          by_cases h : j < k
          · rw [if_pos h, if_pos (by omega)]
          · rw [if_neg h, if_neg (by omega)]
      case measure => simp [intOf]; omega
    · have : k = n := by omega
      subst this
      go_wp2
      go_ret
      exact ⟨rfl, hBr, hVr.congr (fun j hj => by rw [if_pos hj])⟩

/-- 'valuesOf'. -/
theorem valuesOf_any (a : Option Addr) (n c : Nat) (L : List NV) (w : World) (h : RP w a L) (hL : Hid (L.length = n)) (hn : n ≤ 1048576) :
    Calls Try.prog 12 #[.slice a n c] w fun e w' => e = .returned (.slice (some ⟨w.heap.size, 0, none⟩) n n) ∧ Below w.heap.size w w' ∧ VRow w' w.heap.size n (fun j => .string (vl L j)) := by
  obtain ⟨i0, hi, hz0, hz1, hz2⟩ := info_parts Try.info9
  go_enter Try.func12, Try.ntmps12
  go_wp2_with (at_make; refine wpList_make_full _ rfl _ _ 26 rfl w.heap.size 9 i0 (.string ByteArray.empty) 1 Try.underlying26 hi hz0 hz1 _ _ _ _ n rfl rfl rfl rfl ?b1 ?b2 ?b3 ?_)
  case b1 => rw [hz2]; omega
  case b2 => unfold maxLen; omega
  case b3 => exact Nat.le_refl _
  intro w1 hown hgrow
  clear hi hz0 hz1 hz2
  have hV : VRow w1 w.heap.size n (fun _ => .string ByteArray.empty) := VRow.ofOwns hown (by have := hown.lt _ rfl; omega) (by simpa [Value.cells] using toList_madeCells_one (.string ByteArray.empty) n)
  have hB : Below w.heap.size w w1 := (Below.refl _ _).grown hgrow (Nat.le_refl _) (fun k h => by cases h)
  clear hown hgrow
  go_wp2
  go_loopw [10] (fun i wr => ∃ k : Nat, k ≤ n ∧ i = .int .i64 k ∧ VRow wr w.heap.size n (fun j => if j < k then .string (vl L j) else .string ByteArray.empty) ∧ Below w.heap.size w wr) (fun i _ => n - (intOf i).toNat)
  case atStart => exact ⟨0, Nat.zero_le _, rfl, hV.congr (fun j _ => by simp), hB⟩
  case round =>
    obtain ⟨k, hk, rfl, hVr, hBr⟩ := hrel
    clear hV hB
    by_cases hlt : k < n
    · obtain ⟨b, off, rfl, hb, hcell⟩ := h.at hL (by omega)
      have c1 : wr.cell? ⟨b, off + k * 2 + 1, none⟩ = some (.string (vl L k)) := (hBr.cell hb).trans (hcell k hlt).2
      have c2 : wr.cell? ⟨w.heap.size, k, none⟩ = some (.string ByteArray.empty) := by rw [hVr.cell k hlt]; simp
      have c3 := hVr.free k
      clear hcell
      go_wp2
      go_roundw
      case rel =>
        refine ⟨k + 1, by omega, by go_num, (hVr.set hlt (.string (vl L k))).congr (fun j _ => ?_), hBr.setCell (Nat.le_refl _) _⟩
        by_cases e : j = k
        · subst e; simp
        · rw [if_neg e]
          by_cases h : j < k
          · rw [if_pos h, if_pos (by omega)]
          · rw [if_neg h, if_neg (by omega)]
      case measure => simp [intOf]; omega
    · have : k = n := by omega
      subst this
      go_wp2
      go_ret
      exact ⟨rfl, hBr, hVr.congr (fun j hj => by rw [if_pos hj])⟩

theorem below_drewN (w : World) (q : Nat) : Below w.heap.size w (w.drewN q) := ⟨rfl, rfl, rfl, Nat.le_refl _, fun _ _ => rfl⟩
/-- 'hasDupName': on 'no' no two neighbours bear one name. -/
def NoDup (L : List NV) (n : Nat) (b : Bool) : Prop := b = false → ∀ i, i + 1 < n → nm L i ≠ nm L (i + 1)
theorem hasDup_any (a : Option Addr) (n c : Nat) (L : List NV) (w : World) (h : RP w a L) (hL : Hid (L.length = n)) (hn : n ≤ 1048576) :
    Calls Try.prog 9 #[.slice a n c] w fun e w' => AnsB e (NoDup L n) ∧ Below w.heap.size w w' := by
  go_enter Try.func9, Try.ntmps9
  go_wp2
  go_loopw [3] (fun i wr => ∃ k : Nat, 0 < k ∧ k ≤ n + 1 ∧ i = .int .i64 k ∧ (∃ q, wr = w.drewN q) ∧ Hid (∀ i, i + 1 < k → nm L i ≠ nm L (i + 1))) (fun i _ => n + 1 - (intOf i).toNat)
  case atStart => exact ⟨1, by omega, by omega, rfl, ⟨0, rfl⟩, fun i h => by omega⟩
  case round =>
    obtain ⟨k, hk0, hk, rfl, ⟨q, rfl⟩, hall⟩ := hrel
    by_cases hlt : k < n
    · obtain ⟨b, off, rfl, hb, hcell⟩ := h.at hL (by omega)
      obtain ⟨j, hj⟩ : ∃ j, k = j + 1 := ⟨k - 1, by omega⟩
      have c1 : w.cell? ⟨b, off + j * 2, none⟩ = some (.string (nm L j)) := (hcell j (by omega)).1
      have c2 : w.cell? ⟨b, off + k * 2, none⟩ = some (.string (nm L k)) := (hcell k hlt).1
      have hjn : j < n := by omega
      have hsub : (k : Int) - 1 = (j : Int) := by omega
      have HJ : Hid (k = j + 1) := hj
      clear hcell h hj
      obtain ⟨x, hx⟩ : ∃ x, x = nm L k := ⟨_, rfl⟩
      rw [← hx] at c2
      have HX : Hid (x = nm L k) := hx
      clear hx
      by_cases e : nm L j = x
      · go_wp2
        go_region
        all_goals
          go_wp2
          go_ret
          exact ⟨⟨true, rfl, fun h => by cases h⟩, (below_drewN _ q).drew⟩
      · have e' : ((nm L j).toList == x.toList) = false := by
          rw [beq_eq_false_iff_ne]
          intro he
          refine e (ByteArray.ext (Array.toList_inj.1 ?_))
          rw [ByteArray.toList_eq, ByteArray.toList_eq] at he
          exact he
        go_wp2
        go_region
        all_goals
          go_wp2
          go_roundw
          case rel =>
            have hj := HJ.out
            refine ⟨k + 1, by omega, by omega, by go_num, ⟨q + 1, rfl⟩, fun i hi => ?_⟩
            by_cases e2 : i = j
            · subst e2; rw [← hj, ← HX.out]; exact e
            · exact hall i (by omega)
          case measure => simp [intOf]; omega
    · go_wp2
      go_ret
      exact ⟨⟨false, rfl, fun _ i hi => hall i (by omega)⟩, below_drewN _ q⟩

/-- 'reverseNV'. -/
theorem reverse_any (a : Option Addr) (n c : Nat) (L : List NV) (w : World) (h : RP w a L) (hL : Hid (L.length = n)) (hn : n ≤ 1048576) :
    Calls Try.prog 13 #[.slice a n c] w fun e w' => e = .returned (.slice (some ⟨w.heap.size, 0, none⟩) n n) ∧ Below w.heap.size w w' ∧ PR w' w.heap.size L.reverse := by
  go_enter Try.func13, Try.ntmps13
  go_wp2_with (at_make; refine wpList_makeP _ rfl _ _ 22 rfl 46 Try.underlying22 Try.info46 _ _ _ _ n rfl rfl rfl rfl hn ?_)
  intro w1 hV hB
  obtain ⟨T0, hT0⟩ : ∃ T0 : List NV, T0 = List.replicate n (ByteArray.empty, ByteArray.empty) := ⟨_, rfl⟩
  rw [← hT0] at hV
  have hTn : Hid (T0.length = n) := show _ = _ by rw [hT0, List.length_replicate]
  clear hT0
  go_wp2
  go_loopw [10] (fun i wr => ∃ (k : Nat) (T : List NV), k ≤ n ∧ i = .int .i64 k ∧ PR wr w.heap.size T ∧ Hid (T.length = n) ∧ Hid (T.drop (n - k) = (L.take k).reverse) ∧ Below w.heap.size w wr) (fun i _ => n - (intOf i).toNat)
  case atStart => exact ⟨0, T0, Nat.zero_le _, rfl, hV, hTn, show _ = _ by simp [hTn.out], hB⟩
  case round =>
    obtain ⟨k, T, hk, rfl, hVr, hTl, hD, hBr⟩ := hrel
    clear hV hB hTn
    by_cases hlt : k < n
    · obtain ⟨b, off, rfl, hb, hcell⟩ := h.at hL (by omega)
      have c1 : wr.cell? ⟨b, off + k * 2, none⟩ = some (.string (nm L k)) := (hBr.cell hb).trans (hcell k hlt).1
      have c1' : wr.cell? ⟨b, off + k * 2 + 1, none⟩ = some (.string (vl L k)) := (hBr.cell hb).trans (hcell k hlt).2
      obtain ⟨m, hm⟩ : ∃ m, m = n - 1 - k := ⟨_, rfl⟩
      have hmn : m < n := by omega
      have hsub : (n : Int) - 1 - (k : Int) = (m : Int) := by omega
      have c2 := hVr.c0 hTl hmn
      have c3 := hVr.c1 hTl hmn
      have c4 := hVr.f (m * 2)
      have c5 := hVr.f (m * 2 + 1)
      have HM : Hid (m = n - 1 - k) := hm
      clear hcell hm
      go_wp2
      go_roundw
      case rel =>
        refine ⟨k + 1, T.set m (nm L k, vl L k), by omega, by go_num, hVr.set hTl hmn (nm L k, vl L k), show _ = _ by simp [hTl.out], show _ = _ from ?_, (hBr.setCell (Nat.le_refl _) _).setCell (Nat.le_refl _) _⟩
        have e1 := hTl.out
        have e2 := hL.out
        have e3 := HM.out
        have hx : (nm L k, vl L k) = L[k]'(by omega) := by simp [nm, vl, show k < L.length by omega]
        rw [List.take_add_one, List.reverse_append, ← hD.out, hx, show n - (k + 1) = m by omega, show n - k = m + 1 by omega]
        rw [List.drop_eq_getElem_cons (by simp; omega)]
        rw [List.drop_set_of_lt (Nat.lt_succ_self _)]
        simp [show k < L.length by omega]
      case measure => simp [intOf]; omega
    · have : k = n := by omega
      subst this
      go_wp2
      go_ret
      refine ⟨rfl, hBr, ?_⟩
      have e1 := hD.out
      rw [Nat.sub_self, List.drop_zero, List.take_of_length_le (by rw [hL.out]; omega)] at e1
      rw [← e1]; exact hVr

/-- 'zipNV'. -/
theorem zip_any (g1 g2 n : Nat) (L : List NV) (w : World) (h1 : VRow w g1 n (fun j => .string (nm L j))) (h2 : VRow w g2 n (fun j => .string (vl L j))) (hL : Hid (L.length = n)) (hn : n ≤ 1048576) :
    Calls Try.prog 14 #[.slice (some ⟨g1, 0, none⟩) n n, .slice (some ⟨g2, 0, none⟩) n n] w fun e w' => e = .returned (.tuple #[.slice (some ⟨w.heap.size, 0, none⟩) n n, .bool true]) ∧ Below w.heap.size w w' ∧ PR w' w.heap.size L := by
  go_enter Try.func14, Try.ntmps14
  go_wp2_with (at_make; refine wpList_makeP _ rfl _ _ 22 rfl 46 Try.underlying22 Try.info46 _ _ _ _ n rfl rfl rfl rfl hn ?_)
  intro w1 hV hB
  obtain ⟨T0, hT0⟩ : ∃ T0 : List NV, T0 = List.replicate n (ByteArray.empty, ByteArray.empty) := ⟨_, rfl⟩
  rw [← hT0] at hV
  have hTn : Hid (T0.length = n) := show _ = _ by rw [hT0, List.length_replicate]
  clear hT0
  go_wp2
  go_loopw [18] (fun i wr => ∃ (k : Nat) (T : List NV), k ≤ n ∧ i = .int .i64 k ∧ PR wr w.heap.size T ∧ Hid (T.length = n) ∧ Hid (T.take k = L.take k) ∧ Below w.heap.size w wr) (fun i _ => n - (intOf i).toNat)
  case atStart => exact ⟨0, T0, Nat.zero_le _, rfl, hV, hTn, show _ = _ by simp, hB⟩
  case round =>
    obtain ⟨k, T, hk, rfl, hVr, hTl, hD, hBr⟩ := hrel
    clear hV hB hTn
    by_cases hlt : k < n
    · have c1 : wr.cell? ⟨g1, k, none⟩ = some (.string (nm L k)) := (hBr.cell h1.lt).trans (h1.cell k hlt)
      have c1' : wr.cell? ⟨g2, k, none⟩ = some (.string (vl L k)) := (hBr.cell h2.lt).trans (h2.cell k hlt)
      have c2 := hVr.c0 hTl hlt
      have c3 := hVr.c1 hTl hlt
      have c4 := hVr.f (k * 2)
      have c5 := hVr.f (k * 2 + 1)
      go_wp2
      go_region
      all_goals
        go_wp2
        go_roundw
        case rel =>
          refine ⟨k + 1, T.set k (nm L k, vl L k), by omega, by go_num, (hVr.set hTl hlt (nm L k, vl L k)).drew, show _ = _ by simp [hTl.out], show _ = _ from ?_, ((hBr.setCell (Nat.le_refl _) _).setCell (Nat.le_refl _) _).drew⟩
          have e1 := hTl.out
          have e2 := hL.out
          have hx : (nm L k, vl L k) = L[k]'(by omega) := by simp [nm, vl, show k < L.length by omega]
          rw [List.take_add_one, List.take_add_one, List.take_set_of_le (Nat.le_refl _), hD.out, hx]
          simp [show k < L.length by omega, show k < T.length by omega]
        case measure => simp [intOf]; omega
    · have : k = n := by omega
      subst this
      go_wp2
      go_ret2
      refine ⟨rfl, hBr, ?_⟩
      have e1 := hD.out
      rw [List.take_of_length_le (by rw [hTl.out]; omega), List.take_of_length_le (by rw [hL.out]; omega)] at e1
      rw [← e1]; exact hVr

/-- 'equalNV' of two rows that read alike. -/
theorem equal_any (a b : Option Addr) (n c d : Nat) (L : List NV) (w : World) (ha : RP w a L) (hb : RP w b L) (hL : Hid (L.length = n)) (hn : n ≤ 1048576) :
    Calls Try.prog 15 #[.slice a n c, .slice b n d] w fun e w' => e = .returned (.bool true) ∧ Below w.heap.size w w' := by
  go_enter Try.func15, Try.ntmps15
  go_wp2
  go_loopw [13] (fun i wr => ∃ k : Nat, k ≤ n ∧ i = .int .i64 k ∧ ∃ q, wr = w.drewN q) (fun i _ => n - (intOf i).toNat)
  case atStart => exact ⟨0, Nat.zero_le _, rfl, 0, rfl⟩
  case round =>
    obtain ⟨k, hk, rfl, q, rfl⟩ := hrel
    by_cases hlt : k < n
    · obtain ⟨b1, o1, rfl, hl1, h1⟩ := ha.at hL (by omega)
      obtain ⟨b2, o2, rfl, hl2, h2⟩ := hb.at hL (by omega)
      have c1 := (h1 k hlt).1
      have c1' := (h1 k hlt).2
      have c2 := (h2 k hlt).1
      have c2' := (h2 k hlt).2
      clear h1 h2 ha hb
      go_wp2
      go_region
      all_goals
        go_wp2
        go_roundw
        case rel => exact ⟨k + 1, by omega, by go_num, q + 1, rfl⟩
        case measure => simp [intOf]; omega
    · have : k = n := by omega
      subst this
      go_wp2
      go_ret
      exact ⟨rfl, below_drewN _ q⟩

/-- All names and values are short. -/
def SmlP (L : List NV) (n : Nat) (b : Bool) : Prop := b = true → n ≤ 1048576 ∧ ∀ i, i < n → (nm L i).size ≤ 1048576 ∧ (vl L i).size ≤ 1048576

/-- 'zzBytes_FnSortByNameSortsEveryOrderAlike'. -/
theorem bytes1_any (a : Option Addr) (n c : Nat) (L : List NV) (w : World) (h : RP w a L) (hL : Hid (L.length = n)) (hm : n ≤ maxLen) (hs : ∀ i, i < n → (nm L i).size ≤ maxLen ∧ (vl L i).size ≤ maxLen) :
    Calls Try.prog 6 #[.slice a n c] w fun e w' => AnsB e (SmlP L n) ∧ w' = w := by
  unfold maxLen at hm hs
  have HS : Hid (∀ i, i < n → (nm L i).size ≤ 2 ^ 63 - 1 ∧ (vl L i).size ≤ 2 ^ 63 - 1) := hs
  clear hs
  by_cases h1 : n ≤ 1048576
  case neg =>
    go_enter Try.func6, Try.ntmps6
    go_wp2
    go_ret
    exact ⟨⟨false, rfl, fun h => by cases h⟩, rfl⟩
  go_enter Try.func6, Try.ntmps6
  go_wp2
  go_loop [3, 4] (fun s i => ∃ (k m : Nat), k ≤ n ∧ i = .int .i64 k ∧ s = .int .i64 m ∧ m ≤ 1048576 ∧ Hid (∀ i, i < k → (nm L i).size ≤ 1048576 ∧ (vl L i).size ≤ 1048576)) (fun _ i => n - (intOf i).toNat)
  case atStart => exact ⟨0, n, Nat.zero_le _, rfl, rfl, h1, fun i h => by omega⟩
  case round =>
    obtain ⟨k, m, hk, rfl, rfl, hm2, hall⟩ := hrel
    by_cases hlt : k < n
    · obtain ⟨b, off, rfl, hb, hcell⟩ := h.at hL (by omega)
      have c1 := (hcell k hlt).1
      have c2 := (hcell k hlt).2
      obtain ⟨z, hz⟩ : ∃ z, z = nm L k := ⟨_, rfl⟩
      obtain ⟨y, hy⟩ : ∃ y, y = vl L k := ⟨_, rfl⟩
      rw [← hz] at c1
      rw [← hy] at c2
      have hzs : z.size ≤ 2 ^ 63 - 1 := by rw [hz]; exact (HS.out k hlt).1
      have hys : y.size ≤ 2 ^ 63 - 1 := by rw [hy]; exact (HS.out k hlt).2
      have HZ : Hid (z = nm L k) := hz
      have HY : Hid (y = vl L k) := hy
      clear hz hy hcell
      by_cases g1 : z.size ≤ 1048576
      · by_cases g2 : m + z.size ≤ 1048576
        · by_cases g3 : y.size ≤ 1048576
          · by_cases g4 : m + z.size + y.size ≤ 1048576
            · go_wp2
              go_round
              case rel =>
                refine ⟨k + 1, m + z.size + y.size, by omega, by go_num, by go_num, g4, fun i hi => ?_⟩
                by_cases e : i = k
                · subst e; rw [← HZ.out, ← HY.out]; exact ⟨g1, g3⟩
                · exact hall i (by omega)
              case measure => simp [intOf]; omega
            · go_wp2
              go_ret
              exact ⟨⟨false, rfl, fun h => by cases h⟩, rfl⟩
          · go_wp2
            go_ret
            exact ⟨⟨false, rfl, fun h => by cases h⟩, rfl⟩
        · go_wp2
          go_ret
          exact ⟨⟨false, rfl, fun h => by cases h⟩, rfl⟩
      · go_wp2
        go_ret
        exact ⟨⟨false, rfl, fun h => by cases h⟩, rfl⟩
    · have : k = n := by omega
      subst this
      go_wp2
      go_ret
      exact ⟨⟨true, rfl, fun _ => ⟨h1, hall⟩⟩, rfl⟩

/-- 'nvBytes': some number, nothing is touched. -/
theorem nvBytes_any (a b : Option Addr) (n c m d : Nat) (L M : List NV) (w : World) (h : RP w a L) (hL : Hid (L.length = n)) (h' : RP w b M) (hM : Hid (M.length = m)) (hn : n ≤ 4096) (hm : m ≤ 4096)
    (hs : Hid (∀ i, i < n → (nm L i).size ≤ 1048576 ∧ (vl L i).size ≤ 1048576)) (hs' : Hid (∀ i, i < m → (nm M i).size ≤ 1048576 ∧ (vl M i).size ≤ 1048576)) :
    Calls Try.prog 7 #[.slice a n c, .slice b m d, .int .i64 1048576] w fun e w' => AnsI e (fun _ => True) ∧ Below w.heap.size w w' := by
  go_enter Try.func7, Try.ntmps7
  go_wp2
  go_loopw [7, 12] (fun s i wr => ∃ (k x : Nat), k ≤ n ∧ i = .int .i64 k ∧ s = .int .i64 x ∧ x ≤ 1048576 ∧ ∃ q, wr = w.drewN q) (fun _ i _ => n - (intOf i).toNat)
  case atStart => exact ⟨0, 0, Nat.zero_le _, rfl, rfl, by omega, 0, rfl⟩
  case round =>
    obtain ⟨k, x, hk, rfl, rfl, hx, q, rfl⟩ := hrel
    by_cases hlt : k < n
    · obtain ⟨b1, o1, rfl, hl1, h1⟩ := h.at hL (by omega)
      have c1 := (h1 k hlt).1
      have c1' := (h1 k hlt).2
      obtain ⟨s1, s2⟩ := hs.out k hlt
      clear h1 h h'
      by_cases hg : x + (32 + (nm L k).size + (vl L k).size) ≤ 1048576
      · go_wp2
        go_region
        all_goals
          go_wp2
          go_roundw
          case rel => exact ⟨k + 1, x + (32 + (nm L k).size + (vl L k).size), by omega, by go_num, by go_num, hg, q + 1, rfl⟩
          case measure => simp [intOf]; omega
      · go_wp2
        go_region
        all_goals
          go_wp2
          go_ret
          exact ⟨⟨_, rfl, trivial⟩, (below_drewN _ q).drew⟩
    · have : k = n := by omega
      subst this
      go_wp2
      go_loopw [7, 38] (fun s i wr => ∃ (k x : Nat), k ≤ m ∧ i = .int .i64 k ∧ s = .int .i64 x ∧ x ≤ 1048576 ∧ ∃ q, wr = w.drewN q) (fun _ i _ => m - (intOf i).toNat)
      case atStart => exact ⟨0, x, Nat.zero_le _, rfl, rfl, hx, q, rfl⟩
      case round =>
        obtain ⟨j, x, hk, rfl, rfl, hx, q, rfl⟩ := hrel
        by_cases hlt : j < m
        · obtain ⟨b1, o1, rfl, hl1, h1⟩ := h'.at hM (by omega)
          have c1 := (h1 j hlt).1
          have c1' := (h1 j hlt).2
          obtain ⟨s1, s2⟩ := hs'.out j hlt
          clear h1 h h'
          by_cases hg : x + (32 + (nm M j).size + (vl M j).size) ≤ 1048576
          · go_wp2
            go_region
            all_goals
              go_wp2
              go_roundw
              case rel => exact ⟨j + 1, x + (32 + (nm M j).size + (vl M j).size), by omega, by go_num, by go_num, hg, q + 1, rfl⟩
              case measure => simp [intOf]; omega
          · go_wp2
            go_region
            all_goals
              go_wp2
              go_ret
              exact ⟨⟨_, rfl, trivial⟩, (below_drewN _ q).drew⟩
        · have : j = m := by omega
          subst this
          go_wp2
          go_ret
          exact ⟨⟨_, rfl, trivial⟩, below_drewN _ q⟩
end Go.Proofs.Qxb6616369a
