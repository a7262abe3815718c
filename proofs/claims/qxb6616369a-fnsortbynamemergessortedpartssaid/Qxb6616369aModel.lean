/-
  The walk of 'sortModel', a bottom-up merge sort.
-/
import Derived.Test.Qxb6616369aNv
import Derived.Deep.CutRange
namespace Go.Proofs.Qxb6616369a
open Go.RowKit Plain

/-- The place k of T is written: the part of T ahead of k grows by x. -/
theorem take_set_succ {T : List NV} {k : Nat} (hk : k < T.length) (x : NV) : (T.set k x).take (k + 1) = T.take k ++ [x] := by
  rw [List.take_add_one, List.take_set_of_le (Nat.le_refl _)]
  simp [hk]

/-- What the merge loops keep: T's first k places, then what is still to be merged, then the rest of the pass. -/
def Mg (w : Nat) (L T : List NV) (i j k mid hi : Nat) : Prop := T.take k ++ ((sl L i mid).merge (sl L j hi) leN ++ pss w (L.drop hi)) = pss w L ∧ k + mid = i + j
theorem getD_eq (L : List NV) (i : Nat) : (nm L i, vl L i) = L.getD i default := rfl
theorem lt_nm (L : List NV) (i j : Nat) : ltN (L.getD i default) (L.getD j default) = Op.bytesLess (nm L i).toList (nm L j).toList := rfl
/-- The right one goes first. -/
theorem Mg.right {w : Nat} {L T : List NV} {i j k mid hi n : Nat} (h : Mg w L T i j k mid hi) (hL : L.length = n) (hT : T.length = n) (hi1 : i < mid) (hj : j < hi) (hm : mid ≤ n) (hh : hi ≤ n) (hk : k < n)
    (hlt : Op.bytesLess (nm L j).toList (nm L i).toList = true) : Mg w L (T.set k (nm L j, vl L j)) i (j + 1) (k + 1) mid hi := by
  obtain ⟨h1, h2⟩ := h
  refine ⟨?_, by omega⟩
  rw [take_set_succ (by omega), getD_eq, ← h1]
  rw [sl_cons (L := L) (i := i) (j := mid) hi1 (by omega), sl_cons (L := L) (i := j) (j := hi) hj (by omega), merge_right (by rw [lt_nm]; exact hlt)]
  simp
/-- The left one goes first. -/
theorem Mg.left {w : Nat} {L T : List NV} {i j k mid hi n : Nat} (h : Mg w L T i j k mid hi) (hL : L.length = n) (hT : T.length = n) (hi1 : i < mid) (hj : j < hi) (hm : mid ≤ n) (hh : hi ≤ n) (hk : k < n)
    (hlt : Op.bytesLess (nm L j).toList (nm L i).toList = false) : Mg w L (T.set k (nm L i, vl L i)) (i + 1) j (k + 1) mid hi := by
  obtain ⟨h1, h2⟩ := h
  refine ⟨?_, by omega⟩
  rw [take_set_succ (by omega), getD_eq, ← h1]
  rw [sl_cons (L := L) (i := i) (j := mid) hi1 (by omega), sl_cons (L := L) (i := j) (j := hi) hj (by omega), merge_left (by rw [lt_nm]; exact hlt)]
  simp
/-- The rest of the left run. -/
theorem Mg.restL {w : Nat} {L T : List NV} {i j k mid hi n : Nat} (h : Mg w L T i j k mid hi) (hL : L.length = n) (hT : T.length = n) (hi1 : i < mid) (hj : hi ≤ j) (hm : mid ≤ n) (hk : k < n) :
    Mg w L (T.set k (nm L i, vl L i)) (i + 1) j (k + 1) mid hi := by
  obtain ⟨h1, h2⟩ := h
  refine ⟨?_, by omega⟩
  rw [take_set_succ (by omega), getD_eq, ← h1]
  rw [sl_cons (L := L) (i := i) (j := mid) hi1 (by omega), sl_nil (L := L) (i := j) (j := hi) hj]
  simp
/-- The rest of the right run. -/
theorem Mg.restR {w : Nat} {L T : List NV} {i j k mid hi n : Nat} (h : Mg w L T i j k mid hi) (hL : L.length = n) (hT : T.length = n) (hi1 : mid ≤ i) (hj : j < hi) (hh : hi ≤ n) (hk : k < n) :
    Mg w L (T.set k (nm L j, vl L j)) i (j + 1) (k + 1) mid hi := by
  obtain ⟨h1, h2⟩ := h
  refine ⟨?_, by omega⟩
  rw [take_set_succ (by omega), getD_eq, ← h1]
  rw [sl_cons (L := L) (i := j) (j := hi) hj (by omega), sl_nil (L := L) (i := i) (j := mid) hi1]
  simp
/-- What the outer loop keeps. -/
def Lo (w : Nat) (L T : List NV) (lo : Nat) : Prop := T.take lo ++ pss w (L.drop lo) = pss w L
theorem Lo.start (w : Nat) (L T : List NV) : Lo w L T 0 := by unfold Lo; simp
theorem Lo.enter {w : Nat} {L T : List NV} {lo mid hi n : Nat} (h : Lo w L T lo) (hL : L.length = n) (hw : 0 < w) (hl : lo < n) (hm : mid = min (lo + w) n) (hh : hi = min (lo + 2 * w) n) : Mg w L T lo mid lo mid hi := by
  refine ⟨?_, rfl⟩
  rw [← pss_at hw (by omega) (by rw [hL]; exact hm) (by rw [hL]; exact hh)]
  exact h
theorem Mg.leave {w : Nat} {L T : List NV} {i j k mid hi : Nat} (h : Mg w L T i j k mid hi) (hi1 : i = mid) (hj : j = hi) : Lo w L T hi := by
  obtain ⟨h1, h2⟩ := h
  have : k = hi := by omega
  subst this
  rw [sl_nil (L := L) (by omega), sl_nil (L := L) (by omega)] at h1
  simpa [Lo] using h1
theorem Lo.far {w : Nat} {L T : List NV} {lo n : Nat} (h : Lo w L T lo) (hL : L.length = n) (hT : T.length = n) (hl : n ≤ lo) : T = pss w L := by
  unfold Lo at h
  rw [List.drop_eq_nil_of_le (by omega), pss_nil, List.append_nil, List.take_of_length_le (by omega)] at h
  exact h
theorem Lo.next {w : Nat} {L T : List NV} {hi lo n : Nat} (h : Lo w L T hi) (hL : L.length = n) (hT : T.length = n) (hh : hi = min lo n) : Lo w L T lo := by
  by_cases e : lo ≤ n
  · have : hi = lo := by omega
    rw [← this]; exact h
  · have := h.far hL hT (by omega)
    unfold Lo
    rw [List.drop_eq_nil_of_le (by omega), pss_nil, List.append_nil, List.take_of_length_le (by omega)]
    exact this

/-- What 'sortModel' hands back. -/
def IsModel (w' : World) (g : Nat) (L0 : List NV) (n : Nat) : Prop := ∃ L, PR w' g L ∧ L.Perm L0 ∧ SortedL L ∧ L.length = n

theorem Try.size46 : (Try.prog.info? 46).map (·.size) = some 2 := by kernel_rfl

set_option maxHeartbeats 1600000 in
set_option maxRecDepth 100000 in
/-- 'sortModel'. -/
theorem model_any (a : Option Addr) (n c : Nat) (L0 : List NV) (w : World) (h : RP w a L0) (hL0 : Hid (L0.length = n)) (hn : n ≤ 1048576) :
    Calls Try.prog 8 #[.slice a n c] w fun e w' => e = .returned (.slice (some ⟨w.heap.size, 0, none⟩) n n) ∧ Below w.heap.size w w' ∧ IsModel w' w.heap.size L0 n := by
  go_enter Try.func8, Try.ntmps8
  go_wp2_with (at_make; refine wpList_makeP _ rfl _ _ 22 rfl 46 Try.underlying22 Try.info46 _ _ _ _ n rfl rfl rfl rfl hn ?_)
  intro w1 hV hB
  obtain ⟨T0, hT0⟩ : ∃ T0 : List NV, T0 = List.replicate n (ByteArray.empty, ByteArray.empty) := ⟨_, rfl⟩
  rw [← hT0] at hV
  have hTn : Hid (T0.length = n) := show _ = _ by rw [hT0, List.length_replicate]
  go_wp2_with (refine wpList_copyP rfl _ _ 22 22 rfl 46 Try.underlying22 Try.size46 a n n c w.heap.size rfl rfl T0 L0 hV hTn (h.below hB) hL0 ?_)
  intro w2 hV2 hT2
  have hB2 : Below w.heap.size w w2 := hB.trans (hT2.below hB.size (fun k e => by omega))
  clear hV hB hT2
  go_wp2_with (at_make; refine wpList_makeP _ rfl _ _ 22 rfl 46 Try.underlying22 Try.info46 _ _ _ _ n rfl rfl rfl rfl hn ?_)
  intro w3 hV3 hB3
  rw [← hT0] at hV3
  have hV2' := hV2.below hB3
  have hg := VRow.lt hV2
  have hB4 : Below w.heap.size w w3 := hB2.trans (hB3.mono hB2.size)
  have hge := hB2.size
  clear hT0 hV2 hB2 hB3
  obtain ⟨g2, hg2⟩ : ∃ g2, g2 = w2.heap.size := ⟨_, rfl⟩
  rw [← hg2] at hV3 hg hge ⊢
  clear hg2
  go_wp2
  go_loopw [5] (fun wd wr => ∃ (W : Nat) (L T : List NV), wd = .int .i64 W ∧ 0 < W ∧ W ≤ 2097152 ∧ PR wr w.heap.size L ∧ Hid (L.length = n) ∧ PR wr g2 T ∧ Hid (T.length = n) ∧ Hid (L.Perm L0) ∧ Hid (Runs W L) ∧ Below w.heap.size w wr) (fun wd _ => n - (intOf wd).toNat)
  case atStart => exact ⟨1, L0, T0, rfl, by omega, by omega, hV2', hL0, hV3, hTn, List.Perm.refl _, runs_one _, hB4⟩
  case round =>
    obtain ⟨W, L, T, rfl, hW0, hW1, hVL, hL, hVT, hT, hP, hR, hBr⟩ := hrel
    clear hV2' hV3 hTn hB4 T0
    by_cases hlt : W < n
    · go_wp2
      go_loopw [6] (fun l wr => ∃ (lo : Nat) (T : List NV), l = .int .i64 lo ∧ lo ≤ 8388608 ∧ PR wr w.heap.size L ∧ PR wr g2 T ∧ Hid (T.length = n) ∧ Hid (Lo W L T lo) ∧ Below w.heap.size w wr) (fun l _ => n - (intOf l).toNat)
      case atStart => exact ⟨0, T, rfl, by omega, hVL, hVT, hT, Lo.start _ _ _, hBr⟩
      case round =>
        clear hVT hVL hT hBr T
        obtain ⟨lo, T, rfl, hlo, hVL, hVT, hT, hLo, hBr⟩ := hrel
        by_cases hlt2 : lo < n
        · obtain ⟨mid, hmid⟩ : ∃ mid, mid = min (lo + W) n := ⟨_, rfl⟩
          obtain ⟨hi, hhi⟩ : ∃ hi, hi = min (lo + 2 * W) n := ⟨_, rfl⟩
          have HM : Hid (mid = min (lo + W) n) := hmid
          have HH : Hid (hi = min (lo + 2 * W) n) := hhi
          clear hmid hhi
          go_upto_if 41 with fail
          go_cut [7] from 27 to 123 (fun s wx => s = .int .i64 (mid : Int) ∧ wx = wr)
          case first =>
            by_cases hc : lo + W ≤ n
            · have ht : decide ((n : Int) < (lo : Int) + (W : Int)) = false := by simp; omega
              go_wp2
              go_meet
              exact ⟨by have := HM.out; congr 1; omega, rfl⟩
            · have ht : decide ((n : Int) < (lo : Int) + (W : Int)) = true := by simp; omega
              go_wp2
              go_meet
              exact ⟨by have := HM.out; congr 1; omega, rfl⟩
          case rest =>
            obtain ⟨hs7, hwc⟩ := hcut
            subst hs7
            subst hwc
            obtain ⟨wa, hwa⟩ : ∃ wa, wa = wc := ⟨_, rfl⟩
            subst hwa
            go_upto_if 51 with fail
            go_cut [8] from 27 to 123 (fun s wx => s = .int .i64 (hi : Int) ∧ wx = wa)
            case first =>
              by_cases hc : lo + 2 * W ≤ n
              · have ht : decide ((n : Int) < (lo : Int) + 2 * (W : Int)) = false := by simp; omega
                go_wp2
                go_meet
                exact ⟨by have := HH.out; congr 1; omega, rfl⟩
              · have ht : decide ((n : Int) < (lo : Int) + 2 * (W : Int)) = true := by simp; omega
                go_wp2
                go_meet
                exact ⟨by have := HH.out; congr 1; omega, rfl⟩
            case rest =>
              obtain ⟨hs8, hwc⟩ := hcut
              subst hs8
              subst hwc
              have q1 : lo ≤ mid := by have := HM.out; omega
              have q2 : mid ≤ hi := by have := HM.out; have := HH.out; omega
              have q3 : hi ≤ n := by have := HH.out; omega
              have hMg : Hid (Mg W L T lo mid lo mid hi) := Lo.enter hLo.out hL.out hW0 hlt2 HM.out HH.out
              go_wp2
              go_loopw [9, 10, 11] (fun x y z wr => ∃ (i j k : Nat) (T : List NV), x = .int .i64 i ∧ y = .int .i64 j ∧ z = .int .i64 k ∧ i ≤ mid ∧ mid ≤ j ∧ j ≤ hi ∧ PR wr w.heap.size L ∧ PR wr g2 T ∧ Hid (T.length = n) ∧ Hid (Mg W L T i j k mid hi) ∧ Below w.heap.size w wr) (fun x y _ _ => (mid - (intOf x).toNat) + (hi - (intOf y).toNat))
              case atStart => exact ⟨lo, mid, lo, T, rfl, rfl, rfl, q1, Nat.le_refl _, q2, hVL, hVT, hT, hMg, hBr⟩
              case round =>
                clear hVT hVL hT hBr hLo hMg T
                obtain ⟨i, j, k, T, rfl, rfl, rfl, hi1, hj1, hj2, hVL, hVT, hT, hMg, hBr⟩ := hrel
                have hkk := hMg.out.2
                by_cases hb : i < mid ∧ j < hi
                · obtain ⟨hb1, hb2⟩ := hb
                  have hk : k < n := by omega
                  have hin : i < n := by omega
                  have hjn : j < n := by omega
                  clear hkk
                  have c1 := hVL.c0 hL hin
                  have c2 := hVL.c1 hL hin
                  have c3 := hVL.c0 hL hjn
                  have c4 := hVL.c1 hL hjn
                  have d1 := hVT.c0 hT hk
                  have d2 := hVT.c1 hT hk
                  have d3 := hVT.f (k * 2)
                  have d4 := hVT.f (k * 2 + 1)
                  cases hcmp : Op.bytesLess (nm L j).toList (nm L i).toList with
                  | true =>
                    go_wp2
                    go_region
                    all_goals
                      go_wp2
                      go_roundw
                      case rel => exact ⟨i, j + 1, k + 1, T.set k (nm L j, vl L j), rfl, by go_num, by go_num, hi1, by omega, by omega, ((hVL.other (p := ⟨g2, k * 2, none⟩) (by show g2 ≠ _; omega) _).other (p := ⟨g2, k * 2 + 1, none⟩) (by show g2 ≠ _; omega) _).drew, (hVT.set hT hk (nm L j, vl L j)).drew, show _ = _ by simp [hT.out], hMg.out.right hL.out hT.out hb1 hb2 (by omega) q3 hk hcmp, ((hBr.setCell (by show _ ≤ g2; omega) _).setCell (by show _ ≤ g2; omega) _).drew⟩
                      case measure => simp [intOf]; omega
                  | false =>
                    go_wp2
                    go_region
                    all_goals
                      go_wp2
                      go_roundw
                      case rel => exact ⟨i + 1, j, k + 1, T.set k (nm L i, vl L i), by go_num, rfl, by go_num, by omega, by omega, by omega, ((hVL.other (p := ⟨g2, k * 2, none⟩) (by show g2 ≠ _; omega) _).other (p := ⟨g2, k * 2 + 1, none⟩) (by show g2 ≠ _; omega) _).drew, (hVT.set hT hk (nm L i, vl L i)).drew, show _ = _ by simp [hT.out], hMg.out.left hL.out hT.out hb1 hb2 (by omega) q3 hk hcmp, ((hBr.setCell (by show _ ≤ g2; omega) _).setCell (by show _ ≤ g2; omega) _).drew⟩
                      case measure => simp [intOf]; omega
                · have hend : Hid (i < mid → j = hi) := fun h => by omega
                  clear hkk
                  by_cases h1 : i < mid
                  · have h3 : ¬ j < hi := fun h => hb ⟨h1, h⟩
                    clear hb
                    go_wp2
                    go_loopw [9, 11] (fun x z wr => ∃ (i k : Nat) (T : List NV), x = .int .i64 i ∧ z = .int .i64 k ∧ i ≤ mid ∧ PR wr w.heap.size L ∧ PR wr g2 T ∧ Hid (T.length = n) ∧ Hid (Mg W L T i j k mid hi) ∧ Hid (i < mid → j = hi) ∧ Below w.heap.size w wr) (fun x _ _ => mid - (intOf x).toNat)
                    case atStart => exact ⟨i, k, T, rfl, rfl, hi1, hVL, hVT, hT, hMg, hend, hBr⟩
                    case round =>
                      clear hVT hVL hT hBr hMg hend hi1 h1 h3 T
                      obtain ⟨i2, k2, T, rfl, rfl, hi1, hVL, hVT, hT, hMg, hend, hBr⟩ := hrel
                      by_cases hlt4 : i2 < mid
                      · have hk : k2 < n := by have := hMg.out.2; omega
                        have hje : hi ≤ j := by have := hend.out hlt4; omega
                        have hin : i2 < n := by omega
                        have c1 := hVL.c0 hL hin
                        have c2 := hVL.c1 hL hin
                        have d1 := hVT.c0 hT hk
                        have d2 := hVT.c1 hT hk
                        have d3 := hVT.f (k2 * 2)
                        have d4 := hVT.f (k2 * 2 + 1)
                        go_wp2
                        go_roundw
                        case rel => exact ⟨i2 + 1, k2 + 1, T.set k2 (nm L i2, vl L i2), by go_num, by go_num, by omega, (hVL.other (p := ⟨g2, k2 * 2, none⟩) (by show g2 ≠ _; omega) _).other (p := ⟨g2, k2 * 2 + 1, none⟩) (by show g2 ≠ _; omega) _, hVT.set hT hk (nm L i2, vl L i2), show _ = _ by simp [hT.out], hMg.out.restL hL.out hT.out hlt4 hje (by omega) hk, fun _ => by omega, (hBr.setCell (by show _ ≤ g2; omega) _).setCell (by show _ ≤ g2; omega) _⟩
                        case measure => simp [intOf]; omega
                      · go_wp2
                        go_loopw [10, 11] (fun y z wr => ∃ (j k : Nat) (T : List NV), y = .int .i64 j ∧ z = .int .i64 k ∧ j ≤ hi ∧ mid ≤ j ∧ PR wr w.heap.size L ∧ PR wr g2 T ∧ Hid (T.length = n) ∧ Hid (Mg W L T i2 j k mid hi) ∧ Below w.heap.size w wr) (fun y _ _ => hi - (intOf y).toNat)
                        case atStart => exact ⟨j, k2, T, rfl, rfl, hj2, hj1, hVL, hVT, hT, hMg, hBr⟩
                        case round =>
                          clear hVT hVL hT hBr hMg hend hj2 hj1 T
                          obtain ⟨j2, k3, T, rfl, rfl, hj2, hj1, hVL, hVT, hT, hMg, hBr⟩ := hrel
                          by_cases hlt5 : j2 < hi
                          · have hk : k3 < n := by have := hMg.out.2; omega
                            have hjn : j2 < n := by omega
                            have c1 := hVL.c0 hL hjn
                            have c2 := hVL.c1 hL hjn
                            have d1 := hVT.c0 hT hk
                            have d2 := hVT.c1 hT hk
                            have d3 := hVT.f (k3 * 2)
                            have d4 := hVT.f (k3 * 2 + 1)
                            go_wp2
                            go_roundw
                            case rel => exact ⟨j2 + 1, k3 + 1, T.set k3 (nm L j2, vl L j2), by go_num, by go_num, by omega, by omega, (hVL.other (p := ⟨g2, k3 * 2, none⟩) (by show g2 ≠ _; omega) _).other (p := ⟨g2, k3 * 2 + 1, none⟩) (by show g2 ≠ _; omega) _, hVT.set hT hk (nm L j2, vl L j2), show _ = _ by simp [hT.out], hMg.out.restR hL.out hT.out (by omega) hlt5 q3 hk, (hBr.setCell (by show _ ≤ g2; omega) _).setCell (by show _ ≤ g2; omega) _⟩
                            case measure => simp [intOf]; omega
                          · have hfin : Hid (Lo W L T (lo + 2 * W)) := (hMg.out.leave (by omega) (by omega)).next hL.out hT.out HH.out
                            go_wp2
                            go_roundw
                            case rel =>
                              exact ⟨lo + 2 * W, T, by go_num, by omega, hVL, hVT, hT, hfin, hBr⟩
                            case measure => simp [intOf]; omega
                  · clear hb
                    go_wp2
                    go_loopw [9, 11] (fun x z wr => ∃ (i k : Nat) (T : List NV), x = .int .i64 i ∧ z = .int .i64 k ∧ i ≤ mid ∧ PR wr w.heap.size L ∧ PR wr g2 T ∧ Hid (T.length = n) ∧ Hid (Mg W L T i j k mid hi) ∧ Hid (i < mid → j = hi) ∧ Below w.heap.size w wr) (fun x _ _ => mid - (intOf x).toNat)
                    case atStart => exact ⟨i, k, T, rfl, rfl, hi1, hVL, hVT, hT, hMg, hend, hBr⟩
                    case round =>
                      clear hVT hVL hT hBr hMg hend hi1 h1 T
                      obtain ⟨i2, k2, T, rfl, rfl, hi1, hVL, hVT, hT, hMg, hend, hBr⟩ := hrel
                      by_cases hlt4 : i2 < mid
                      · have hk : k2 < n := by have := hMg.out.2; omega
                        have hje : hi ≤ j := by have := hend.out hlt4; omega
                        have hin : i2 < n := by omega
                        have c1 := hVL.c0 hL hin
                        have c2 := hVL.c1 hL hin
                        have d1 := hVT.c0 hT hk
                        have d2 := hVT.c1 hT hk
                        have d3 := hVT.f (k2 * 2)
                        have d4 := hVT.f (k2 * 2 + 1)
                        go_wp2
                        go_roundw
                        case rel => exact ⟨i2 + 1, k2 + 1, T.set k2 (nm L i2, vl L i2), by go_num, by go_num, by omega, (hVL.other (p := ⟨g2, k2 * 2, none⟩) (by show g2 ≠ _; omega) _).other (p := ⟨g2, k2 * 2 + 1, none⟩) (by show g2 ≠ _; omega) _, hVT.set hT hk (nm L i2, vl L i2), show _ = _ by simp [hT.out], hMg.out.restL hL.out hT.out hlt4 hje (by omega) hk, fun _ => by omega, (hBr.setCell (by show _ ≤ g2; omega) _).setCell (by show _ ≤ g2; omega) _⟩
                        case measure => simp [intOf]; omega
                      · go_wp2
                        go_loopw [10, 11] (fun y z wr => ∃ (j k : Nat) (T : List NV), y = .int .i64 j ∧ z = .int .i64 k ∧ j ≤ hi ∧ mid ≤ j ∧ PR wr w.heap.size L ∧ PR wr g2 T ∧ Hid (T.length = n) ∧ Hid (Mg W L T i2 j k mid hi) ∧ Below w.heap.size w wr) (fun y _ _ => hi - (intOf y).toNat)
                        case atStart => exact ⟨j, k2, T, rfl, rfl, hj2, hj1, hVL, hVT, hT, hMg, hBr⟩
                        case round =>
                          clear hVT hVL hT hBr hMg hend hj2 hj1 T
                          obtain ⟨j2, k3, T, rfl, rfl, hj2, hj1, hVL, hVT, hT, hMg, hBr⟩ := hrel
                          by_cases hlt5 : j2 < hi
                          · have hk : k3 < n := by have := hMg.out.2; omega
                            have hjn : j2 < n := by omega
                            have c1 := hVL.c0 hL hjn
                            have c2 := hVL.c1 hL hjn
                            have d1 := hVT.c0 hT hk
                            have d2 := hVT.c1 hT hk
                            have d3 := hVT.f (k3 * 2)
                            have d4 := hVT.f (k3 * 2 + 1)
                            go_wp2
                            go_roundw
                            case rel => exact ⟨j2 + 1, k3 + 1, T.set k3 (nm L j2, vl L j2), by go_num, by go_num, by omega, by omega, (hVL.other (p := ⟨g2, k3 * 2, none⟩) (by show g2 ≠ _; omega) _).other (p := ⟨g2, k3 * 2 + 1, none⟩) (by show g2 ≠ _; omega) _, hVT.set hT hk (nm L j2, vl L j2), show _ = _ by simp [hT.out], hMg.out.restR hL.out hT.out (by omega) hlt5 q3 hk, (hBr.setCell (by show _ ≤ g2; omega) _).setCell (by show _ ≤ g2; omega) _⟩
                            case measure => simp [intOf]; omega
                          · have hfin : Hid (Lo W L T (lo + 2 * W)) := (hMg.out.leave (by omega) (by omega)).next hL.out hT.out HH.out
                            go_wp2
                            go_roundw
                            case rel =>
                              exact ⟨lo + 2 * W, T, by go_num, by omega, hVL, hVT, hT, hfin, hBr⟩
                            case measure => simp [intOf]; omega
        · have hTe := hLo.out.far hL.out hT.out (by omega)
          have HT : Hid (T = pss W L) := hTe
          clear hTe
          go_wp2_with (refine wpList_copyP rfl _ _ 22 22 rfl 46 Try.underlying22 Try.size46 (some ⟨g2, 0, none⟩) n n n w.heap.size rfl rfl L T hVL hL hVT.reads hT ?_)
          intro w4 hV4 hT4
          go_wp2
          go_roundw
          case rel =>
            refine ⟨W * 2, T, T, by go_num, by omega, by omega, hV4, hT, VRow.touch hVT hT4 (by omega), hT, ?_, ?_, hBr.trans (hT4.below hBr.size (fun k e => by omega))⟩
            · show List.Perm _ _
              rw [HT.out]
              exact (pss_perm hW0 _ _ (Nat.le_refl _)).trans hP.out
            · show Runs _ _
              rw [HT.out]
              exact runs_double hW0 hR.out
          case measure => simp [intOf]; omega
    · go_wp2
      go_ret
      exact ⟨rfl, hBr, L, hVL, hP.out, runs_sorted hR.out (by rw [hL.out]; omega), hL.out⟩
end Go.Proofs.Qxb6616369a
