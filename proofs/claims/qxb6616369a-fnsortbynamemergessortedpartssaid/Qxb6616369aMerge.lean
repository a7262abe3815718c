/-
  The walks of 'zzBytes_FnSortByNameMergesSortedParts' and of 'mergeNV'; appending to a row of pairs of the call's own.
-/
import Derived.Test.Qxb6616369aNv
namespace Go.Proofs.Qxb6616369a
open Go.RowKit Plain

theorem cellsP_append : ∀ (A B : List NV), cellsP (A ++ B) = cellsP A ++ cellsP B
  | [], B => rfl
  | x :: A, B => by simp [cellsP, cellsP_append A B]
theorem PR.ofOwns {w : World} {base : Nat} {e : TypeId} {g k cap : Nat} {M : List NV} (h : w.ownsRow base e 2 (.slice (some ⟨g, 0, none⟩) k cap) k (cellsP M)) (hk : Hid (M.length = k)) (hg : g < w.heap.size) : PR w g M := by
  have hk' := hk.out
  refine ⟨hg, fun j hj => ?_, fun j => h.frozenAt j⟩
  rw [h.cellAt j (by omega)]
  exact cellsP_at M j hj

/-- 'append' of the pairs L to a row of the call's own that has room. -/
theorem wpList_appendP {P : Program} (w : World) {ops : Array Oper} {rest : List Oper} {o : Oper} {a : Act} {Q : Exit → Act → World → Prop}
    (hg : o.guard = none) (s x : Operand) (t : TypeId) (hop : o.op = Op.call { callee := Callee.builtin Builtin.append, args := #[s, x], argTypes := #[t, t] })
    (base : Nat) (e : TypeId) (h1 : P.underlying t = some (.slice e)) (hi : (P.info? e).map (fun i => (i.zero, i.size, i.bytes)) = some (some (.agg #[.string ByteArray.empty, .string ByteArray.empty]), 2, 32))
    (g k cap : Nat) (M : List NV) (hs : a.eval s = .slice (some ⟨g, 0, none⟩) k cap) (hown : w.ownsRow base e 2 (.slice (some ⟨g, 0, none⟩) k cap) k (cellsP M)) (ao : Option Addr) (m c : Nat) (L : List NV) (hx : a.eval x = .slice ao m c) (hL : Hid (L.length = m))
    (hR : RP w ao L) (hnone : ao = none → m = 0 ∧ c = 0) (b1 : k + m ≤ cap)
    (hK : ∀ w', w'.ownsRow base e 2 (.slice (some ⟨g, 0, none⟩) (k + m) cap) (k + m) (cellsP (M ++ L)) → w.grownBy w' (some g) → wpList P ops Q rest (a.put o.dst (.slice (some ⟨g, 0, none⟩) (k + m) cap)) w') :
    wpList P ops Q (o :: rest) a w := by
  obtain ⟨i, hi, hz0, hz1, hz2⟩ := info_parts hi
  have hl := hL.out
  refine wpList_append_fits_any w hg s x t hop base e i 2 h1 hi hz1 g k cap (cellsP M) hs hown ao m c (cellsP L) hx (by rw [length_cellsP, hl, Nat.mul_comm]) hnone ?_ (cellsP_one L) b1 ?_
  · intro ad had j u hu
    have hj := (List.getElem?_eq_some_iff.1 hu).1
    rw [length_cellsP] at hj
    obtain ⟨ad', e1, hc⟩ := hR.cells (by omega)
    rw [had] at e1
    cases e1
    exact hc j u hu
  · intro w' h2 h3
    rw [← cellsP_append] at h2
    exact hK w' h2 h3

theorem RP.built (w : World) (x : NV) (t : TypeId) : RP (w.alloc (.cells #[.string x.1, .string x.2] t)) (some ⟨w.heap.size, 0, none⟩) [x] := fun _ =>
  ⟨w.heap.size, 0, rfl, by simp, fun i hi => by
    obtain rfl : i = 0 := by simp at hi; omega
    exact ⟨by simp [World.cell?_alloc_at, nm], by simp [World.cell?_alloc_at, vl]⟩⟩

/-- What the merge has laid so far. -/
def Mr (A B M : List NV) (i j : Nat) : Prop := M ++ (A.drop i).merge (B.drop j) leN = A.merge B leN ∧ M.length = i + j
theorem drop_cons {A : List NV} {i : Nat} (h : i < A.length) : A.drop i = A.getD i default :: A.drop (i + 1) := by
  rw [List.drop_eq_getElem_cons h]
  congr 1
  simp [h]
theorem pair_eq (A : List NV) (i : Nat) : (nm A i, vl A i) = A.getD i default := rfl
theorem Mr.start (A B : List NV) : Mr A B [] 0 0 := ⟨by simp, rfl⟩
theorem Mr.right {A B M : List NV} {i j : Nat} (h : Mr A B M i j) (hi : i < A.length) (hj : j < B.length) (hlt : Op.bytesLess (nm B j).toList (nm A i).toList = true) : Mr A B (M ++ [(nm B j, vl B j)]) i (j + 1) := by
  obtain ⟨h1, h2⟩ := h
  refine ⟨?_, by simp; omega⟩
  rw [← h1, pair_eq, drop_cons hi, drop_cons hj, merge_right hlt]
  simp
theorem Mr.left {A B M : List NV} {i j : Nat} (h : Mr A B M i j) (hi : i < A.length) (hj : j < B.length) (hlt : Op.bytesLess (nm B j).toList (nm A i).toList = false) : Mr A B (M ++ [(nm A i, vl A i)]) (i + 1) j := by
  obtain ⟨h1, h2⟩ := h
  refine ⟨?_, by simp; omega⟩
  rw [← h1, pair_eq, drop_cons hi, drop_cons hj, merge_left hlt]
  simp
theorem Mr.restL {A B M : List NV} {i j : Nat} (h : Mr A B M i j) (hi : i < A.length) (hj : B.length ≤ j) : Mr A B (M ++ [(nm A i, vl A i)]) (i + 1) j := by
  obtain ⟨h1, h2⟩ := h
  refine ⟨?_, by simp; omega⟩
  rw [← h1, pair_eq, drop_cons hi, List.drop_eq_nil_of_le hj]
  simp
theorem Mr.restR {A B M : List NV} {i j : Nat} (h : Mr A B M i j) (hi : A.length ≤ i) (hj : j < B.length) : Mr A B (M ++ [(nm B j, vl B j)]) i (j + 1) := by
  obtain ⟨h1, h2⟩ := h
  refine ⟨?_, by simp; omega⟩
  rw [← h1, pair_eq, drop_cons hj, List.drop_eq_nil_of_le hi]
  simp
theorem Mr.done {A B M : List NV} {i j : Nat} (h : Mr A B M i j) (hi : A.length ≤ i) (hj : B.length ≤ j) : M = A.merge B leN := by
  obtain ⟨h1, h2⟩ := h
  rw [List.drop_eq_nil_of_le hi, List.drop_eq_nil_of_le hj] at h1
  simpa using h1

/-- What 'mergeNV' hands back. -/
def IsMerge (e : Ending) (w' : World) (g : Nat) (A B : List NV) (m : Nat) : Prop := e = .returned (.slice (some ⟨g, 0, none⟩) m m) ∧ RP w' (some ⟨g, 0, none⟩) (A.merge B leN)

set_option maxHeartbeats 1600000 in
set_option maxRecDepth 100000 in
/-- 'mergeNV'. -/
theorem merge_any (a b : Option Addr) (n c m d : Nat) (A B : List NV) (w : World) (hA : RP w a A) (hAn : Hid (A.length = n)) (hB : RP w b B) (hBm : Hid (B.length = m)) (hn : n ≤ 4096) (hm : m ≤ 4096) :
    Calls Try.prog 17 #[.slice a n c, .slice b m d] w fun e w' => IsMerge e w' w.heap.size A B (n + m) ∧ Below w.heap.size w w' := by
  obtain ⟨i0, hi0, hz0, hz1, hz2⟩ := info_parts Try.info46
  go_enter Try.func17, Try.ntmps17
  go_wp2_with (at_make; refine wpList_make_own _ rfl _ _ 22 rfl w.heap.size 46 i0 _ 2 Try.underlying22 hi0 hz0 hz1 _ _ _ (n + m) rfl rfl ?b0 ?b1 ?b2 ?b3 ?_)
  case b0 => go_num
  case b1 => rw [hz2]; omega
  case b2 => unfold maxLen; omega
  case b3 => exact Nat.le_refl _
  intro w1 hown hgrow
  clear hi0 hz0 hz1 hz2
  have hB1 : Below w.heap.size w w1 := (Below.refl _ _).grown hgrow (Nat.le_refl _) (fun k h => by cases h)
  have hown1 : w1.ownsRow w.heap.size 46 2 (.slice (some ⟨w.heap.size, 0, none⟩) 0 (n + m)) 0 (cellsP []) := hown
  clear hown hgrow
  go_wp2
  go_loopw [5, 6, 7] (fun s x y wr => ∃ (i j : Nat) (M : List NV), s = .slice (some ⟨w.heap.size, 0, none⟩) (i + j) (n + m) ∧ x = .int .i64 i ∧ y = .int .i64 j ∧ i ≤ n ∧ j ≤ m ∧ wr.ownsRow w.heap.size 46 2 (.slice (some ⟨w.heap.size, 0, none⟩) (i + j) (n + m)) (i + j) (cellsP M) ∧ Hid (Mr A B M i j) ∧ Below w.heap.size w wr) (fun _ x y _ => (n - (intOf x).toNat) + (m - (intOf y).toNat))
  case atStart => exact ⟨0, 0, [], rfl, rfl, rfl, Nat.zero_le _, Nat.zero_le _, hown1, Mr.start _ _, hB1⟩
  case round =>
    clear hown1 hB1
    obtain ⟨i, j, M, rfl, rfl, rfl, hi, hj, hown, hMr, hBr⟩ := hrel
    have hge := hBr.size
    by_cases hb : i < n ∧ j < m
    · obtain ⟨hb1, hb2⟩ := hb
      obtain ⟨ba, oa, rfl, hla, hca⟩ := hA.at hAn (by omega)
      obtain ⟨bb, ob, rfl, hlb, hcb⟩ := hB.at hBm (by omega)
      have c1 : wr.cell? ⟨ba, oa + i * 2, none⟩ = some (.string (nm A i)) := (hBr.cell hla).trans (hca i hb1).1
      have c2 : wr.cell? ⟨ba, oa + i * 2 + 1, none⟩ = some (.string (vl A i)) := (hBr.cell hla).trans (hca i hb1).2
      have c3 : wr.cell? ⟨bb, ob + j * 2, none⟩ = some (.string (nm B j)) := (hBr.cell hlb).trans (hcb j hb2).1
      have c4 : wr.cell? ⟨bb, ob + j * 2 + 1, none⟩ = some (.string (vl B j)) := (hBr.cell hlb).trans (hcb j hb2).2
      clear hca hcb
      cases hcmp : Op.bytesLess (nm B j).toList (nm A i).toList with
      | true =>
        go_wp2_with fail
        go_region
        all_goals
          go_wp2_with (at_builtin; refine wpList_appendP _ rfl _ _ 22 rfl w.heap.size 46 Try.underlying22 Try.info46 w.heap.size (i + j) (n + m) M rfl (hown.drew.alloc _) (some ⟨wr.heap.size, 0, none⟩) 1 1 [(nm B j, vl B j)] rfl (show _ = _ from rfl) ?r1 (fun h => by cases h) ?r2 ?_)
          case r1 => exact RP.built _ _ _
          case r2 => omega
          intro w2 hown2 hgrow2
          have hB2 : Below w.heap.size w w2 := (hBr.drew.alloc hge _).grown hgrow2 (by simp; omega) (fun k h => by cases h; exact Nat.le_refl _)
          clear hgrow2
          go_wp2
          go_roundw
          case rel => exact ⟨i, j + 1, M ++ [(nm B j, vl B j)], rfl, rfl, by go_num, hi, by omega, hown2, hMr.out.right (by rw [hAn.out]; exact hb1) (by rw [hBm.out]; exact hb2) hcmp, hB2⟩
          case measure => simp [intOf]; omega
      | false =>
        go_wp2_with fail
        go_region
        all_goals
          go_wp2_with (at_builtin; refine wpList_appendP _ rfl _ _ 22 rfl w.heap.size 46 Try.underlying22 Try.info46 w.heap.size (i + j) (n + m) M rfl (hown.drew.alloc _) (some ⟨wr.heap.size, 0, none⟩) 1 1 [(nm A i, vl A i)] rfl (show _ = _ from rfl) ?r1 (fun h => by cases h) ?r2 ?_)
          case r1 => exact RP.built _ _ _
          case r2 => omega
          intro w2 hown2 hgrow2
          have hB2 : Below w.heap.size w w2 := (hBr.drew.alloc hge _).grown hgrow2 (by simp; omega) (fun k h => by cases h; exact Nat.le_refl _)
          clear hgrow2
          go_wp2
          go_roundw
          case rel => exact ⟨i + 1, j, M ++ [(nm A i, vl A i)], by rw [show i + 1 + j = i + j + 1 by omega], by go_num, rfl, by omega, hj, by rw [show i + 1 + j = i + j + 1 by omega]; exact hown2, hMr.out.left (by rw [hAn.out]; exact hb1) (by rw [hBm.out]; exact hb2) hcmp, hB2⟩
          case measure => simp [intOf]; omega
    · have hend : Hid (i < n → m ≤ j) := fun h => by omega
      by_cases h1 : i < n
      · have h3 : ¬ j < m := fun h => hb ⟨h1, h⟩
        clear hb
        go_wp2
        go_loopw [5, 6] (fun s x wr => ∃ (i : Nat) (M : List NV), s = .slice (some ⟨w.heap.size, 0, none⟩) (i + j) (n + m) ∧ x = .int .i64 i ∧ i ≤ n ∧ wr.ownsRow w.heap.size 46 2 (.slice (some ⟨w.heap.size, 0, none⟩) (i + j) (n + m)) (i + j) (cellsP M) ∧ Hid (Mr A B M i j) ∧ Hid (i < n → m ≤ j) ∧ Below w.heap.size w wr) (fun _ x _ => n - (intOf x).toNat)
        case atStart => exact ⟨i, M, rfl, rfl, hi, hown, hMr, hend, hBr⟩
        case round =>
          clear hown hMr hend hBr hi h1 h3 hge
          obtain ⟨i2, M, rfl, rfl, hi, hown, hMr, hend, hBr⟩ := hrel
          have hge := hBr.size
          by_cases hlt4 : i2 < n
          · have hje : m ≤ j := hend.out hlt4
            obtain ⟨ba, oa, rfl, hla, hca⟩ := hA.at hAn (by omega)
            have c1 : wr.cell? ⟨ba, oa + i2 * 2, none⟩ = some (.string (nm A i2)) := (hBr.cell hla).trans (hca i2 hlt4).1
            have c2 : wr.cell? ⟨ba, oa + i2 * 2 + 1, none⟩ = some (.string (vl A i2)) := (hBr.cell hla).trans (hca i2 hlt4).2
            clear hca
            go_wp2_with (at_builtin; refine wpList_appendP _ rfl _ _ 22 rfl w.heap.size 46 Try.underlying22 Try.info46 w.heap.size (i2 + j) (n + m) M rfl (hown.alloc _) (some ⟨wr.heap.size, 0, none⟩) 1 1 [(nm A i2, vl A i2)] rfl (show _ = _ from rfl) ?r1 (fun h => by cases h) ?r2 ?_)
            case r1 => exact RP.built _ _ _
            case r2 => omega
            intro w2 hown2 hgrow2
            have hB2 : Below w.heap.size w w2 := (hBr.alloc hge _).grown hgrow2 (by simp; omega) (fun k h => by cases h; exact Nat.le_refl _)
            clear hgrow2
            go_wp2
            go_roundw
            case rel => exact ⟨i2 + 1, M ++ [(nm A i2, vl A i2)], by rw [show i2 + 1 + j = i2 + j + 1 by omega], by go_num, by omega, by rw [show i2 + 1 + j = i2 + j + 1 by omega]; exact hown2, hMr.out.restL (by rw [hAn.out]; exact hlt4) (by rw [hBm.out]; exact hje), fun _ => hje, hB2⟩
            case measure => simp [intOf]; omega
          · go_wp2
            go_loopw [5, 7] (fun s y wr => ∃ (j : Nat) (M : List NV), s = .slice (some ⟨w.heap.size, 0, none⟩) (i2 + j) (n + m) ∧ y = .int .i64 j ∧ j ≤ m ∧ wr.ownsRow w.heap.size 46 2 (.slice (some ⟨w.heap.size, 0, none⟩) (i2 + j) (n + m)) (i2 + j) (cellsP M) ∧ Hid (Mr A B M i2 j) ∧ Below w.heap.size w wr) (fun _ y _ => m - (intOf y).toNat)
            case atStart => exact ⟨j, M, rfl, rfl, hj, hown, hMr, hBr⟩
            case round =>
              clear hown hMr hend hBr hj hge
              obtain ⟨j2, M, rfl, rfl, hj, hown, hMr, hBr⟩ := hrel
              have hge := hBr.size
              by_cases hlt5 : j2 < m
              · obtain ⟨bb, ob, rfl, hlb, hcb⟩ := hB.at hBm (by omega)
                have c1 : wr.cell? ⟨bb, ob + j2 * 2, none⟩ = some (.string (nm B j2)) := (hBr.cell hlb).trans (hcb j2 hlt5).1
                have c2 : wr.cell? ⟨bb, ob + j2 * 2 + 1, none⟩ = some (.string (vl B j2)) := (hBr.cell hlb).trans (hcb j2 hlt5).2
                clear hcb
                go_wp2_with (at_builtin; refine wpList_appendP _ rfl _ _ 22 rfl w.heap.size 46 Try.underlying22 Try.info46 w.heap.size (i2 + j2) (n + m) M rfl (hown.alloc _) (some ⟨wr.heap.size, 0, none⟩) 1 1 [(nm B j2, vl B j2)] rfl (show _ = _ from rfl) ?r1 (fun h => by cases h) ?r2 ?_)
                case r1 => exact RP.built _ _ _
                case r2 => omega
                intro w2 hown2 hgrow2
                have hB2 : Below w.heap.size w w2 := (hBr.alloc hge _).grown hgrow2 (by simp; omega) (fun k h => by cases h; exact Nat.le_refl _)
                clear hgrow2
                go_wp2
                go_roundw
                case rel => exact ⟨j2 + 1, M ++ [(nm B j2, vl B j2)], rfl, by go_num, by omega, hown2, hMr.out.restR (by rw [hAn.out]; omega) (by rw [hBm.out]; exact hlt5), hB2⟩
                case measure => simp [intOf]; omega
              · have hdone : Hid (M = A.merge B leN) := hMr.out.done (by rw [hAn.out]; omega) (by rw [hBm.out]; omega)
                have hMl : Hid (M.length = i2 + j2) := hMr.out.2
                have hlt : w.heap.size < wr.heap.size := by have := hown.lt _ rfl; omega
                have hPR := PR.ofOwns hown hMl hlt
                have ei : i2 = n := by omega
                have ej : j2 = m := by omega
                subst ei ej
                go_wp2
                go_ret
                refine ⟨⟨rfl, ?_⟩, hBr⟩
                rw [← hdone.out]; exact hPR.reads
      · clear hb
        go_wp2
        go_loopw [5, 6] (fun s x wr => ∃ (i : Nat) (M : List NV), s = .slice (some ⟨w.heap.size, 0, none⟩) (i + j) (n + m) ∧ x = .int .i64 i ∧ i ≤ n ∧ wr.ownsRow w.heap.size 46 2 (.slice (some ⟨w.heap.size, 0, none⟩) (i + j) (n + m)) (i + j) (cellsP M) ∧ Hid (Mr A B M i j) ∧ Hid (i < n → m ≤ j) ∧ Below w.heap.size w wr) (fun _ x _ => n - (intOf x).toNat)
        case atStart => exact ⟨i, M, rfl, rfl, hi, hown, hMr, hend, hBr⟩
        case round =>
          clear hown hMr hend hBr hi h1 hge
          obtain ⟨i2, M, rfl, rfl, hi, hown, hMr, hend, hBr⟩ := hrel
          have hge := hBr.size
          by_cases hlt4 : i2 < n
          · have hje : m ≤ j := hend.out hlt4
            obtain ⟨ba, oa, rfl, hla, hca⟩ := hA.at hAn (by omega)
            have c1 : wr.cell? ⟨ba, oa + i2 * 2, none⟩ = some (.string (nm A i2)) := (hBr.cell hla).trans (hca i2 hlt4).1
            have c2 : wr.cell? ⟨ba, oa + i2 * 2 + 1, none⟩ = some (.string (vl A i2)) := (hBr.cell hla).trans (hca i2 hlt4).2
            clear hca
            go_wp2_with (at_builtin; refine wpList_appendP _ rfl _ _ 22 rfl w.heap.size 46 Try.underlying22 Try.info46 w.heap.size (i2 + j) (n + m) M rfl (hown.alloc _) (some ⟨wr.heap.size, 0, none⟩) 1 1 [(nm A i2, vl A i2)] rfl (show _ = _ from rfl) ?r1 (fun h => by cases h) ?r2 ?_)
            case r1 => exact RP.built _ _ _
            case r2 => omega
            intro w2 hown2 hgrow2
            have hB2 : Below w.heap.size w w2 := (hBr.alloc hge _).grown hgrow2 (by simp; omega) (fun k h => by cases h; exact Nat.le_refl _)
            clear hgrow2
            go_wp2
            go_roundw
            case rel => exact ⟨i2 + 1, M ++ [(nm A i2, vl A i2)], by rw [show i2 + 1 + j = i2 + j + 1 by omega], by go_num, by omega, by rw [show i2 + 1 + j = i2 + j + 1 by omega]; exact hown2, hMr.out.restL (by rw [hAn.out]; exact hlt4) (by rw [hBm.out]; exact hje), fun _ => hje, hB2⟩
            case measure => simp [intOf]; omega
          · go_wp2
            go_loopw [5, 7] (fun s y wr => ∃ (j : Nat) (M : List NV), s = .slice (some ⟨w.heap.size, 0, none⟩) (i2 + j) (n + m) ∧ y = .int .i64 j ∧ j ≤ m ∧ wr.ownsRow w.heap.size 46 2 (.slice (some ⟨w.heap.size, 0, none⟩) (i2 + j) (n + m)) (i2 + j) (cellsP M) ∧ Hid (Mr A B M i2 j) ∧ Below w.heap.size w wr) (fun _ y _ => m - (intOf y).toNat)
            case atStart => exact ⟨j, M, rfl, rfl, hj, hown, hMr, hBr⟩
            case round =>
              clear hown hMr hend hBr hj hge
              obtain ⟨j2, M, rfl, rfl, hj, hown, hMr, hBr⟩ := hrel
              have hge := hBr.size
              by_cases hlt5 : j2 < m
              · obtain ⟨bb, ob, rfl, hlb, hcb⟩ := hB.at hBm (by omega)
                have c1 : wr.cell? ⟨bb, ob + j2 * 2, none⟩ = some (.string (nm B j2)) := (hBr.cell hlb).trans (hcb j2 hlt5).1
                have c2 : wr.cell? ⟨bb, ob + j2 * 2 + 1, none⟩ = some (.string (vl B j2)) := (hBr.cell hlb).trans (hcb j2 hlt5).2
                clear hcb
                go_wp2_with (at_builtin; refine wpList_appendP _ rfl _ _ 22 rfl w.heap.size 46 Try.underlying22 Try.info46 w.heap.size (i2 + j2) (n + m) M rfl (hown.alloc _) (some ⟨wr.heap.size, 0, none⟩) 1 1 [(nm B j2, vl B j2)] rfl (show _ = _ from rfl) ?r1 (fun h => by cases h) ?r2 ?_)
                case r1 => exact RP.built _ _ _
                case r2 => omega
                intro w2 hown2 hgrow2
                have hB2 : Below w.heap.size w w2 := (hBr.alloc hge _).grown hgrow2 (by simp; omega) (fun k h => by cases h; exact Nat.le_refl _)
                clear hgrow2
                go_wp2
                go_roundw
                case rel => exact ⟨j2 + 1, M ++ [(nm B j2, vl B j2)], rfl, by go_num, by omega, hown2, hMr.out.restR (by rw [hAn.out]; omega) (by rw [hBm.out]; exact hlt5), hB2⟩
                case measure => simp [intOf]; omega
              · have hdone : Hid (M = A.merge B leN) := hMr.out.done (by rw [hAn.out]; omega) (by rw [hBm.out]; omega)
                have hMl : Hid (M.length = i2 + j2) := hMr.out.2
                have hlt : w.heap.size < wr.heap.size := by have := hown.lt _ rfl; omega
                have hPR := PR.ofOwns hown hMl hlt
                have ei : i2 = n := by omega
                have ej : j2 = m := by omega
                subst ei ej
                go_wp2
                go_ret
                refine ⟨⟨rfl, ?_⟩, hBr⟩
                rw [← hdone.out]; exact hPR.reads

/-- 'zzBytes_FnSortByNameMergesSortedParts'. -/
def SmlPP (A B : List NV) (n m : Nat) (b : Bool) : Prop := b = true → (n ≤ 1048576 ∧ ∀ i, i < n → (nm A i).size ≤ 1048576 ∧ (vl A i).size ≤ 1048576) ∧ (m ≤ 1048576 ∧ ∀ i, i < m → (nm B i).size ≤ 1048576 ∧ (vl B i).size ≤ 1048576)
set_option maxHeartbeats 1600000 in
set_option maxRecDepth 100000 in
theorem bytes2_any (a b : Option Addr) (n c m d : Nat) (A B : List NV) (w : World) (hA : RP w a A) (hAn : Hid (A.length = n)) (hB : RP w b B) (hBm : Hid (B.length = m)) (hm : n ≤ maxLen) (hm' : m ≤ maxLen)
    (hs : ∀ i, i < n → (nm A i).size ≤ maxLen ∧ (vl A i).size ≤ maxLen) (hs' : ∀ i, i < m → (nm B i).size ≤ maxLen ∧ (vl B i).size ≤ maxLen) :
    Calls Try.prog 16 #[.slice a n c, .slice b m d] w fun e w' => AnsB e (SmlPP A B n m) ∧ w' = w := by
  unfold maxLen at hm hm' hs hs'
  have HSA : Hid (∀ i, i < n → (nm A i).size ≤ 2 ^ 63 - 1 ∧ (vl A i).size ≤ 2 ^ 63 - 1) := hs
  have HSB : Hid (∀ i, i < m → (nm B i).size ≤ 2 ^ 63 - 1 ∧ (vl B i).size ≤ 2 ^ 63 - 1) := hs'
  clear hs hs'
  by_cases h1 : n ≤ 1048576
  case neg =>
    go_enter Try.func16, Try.ntmps16
    go_wp2
    go_ret
    exact ⟨⟨false, rfl, fun h => by cases h⟩, rfl⟩
  go_enter Try.func16, Try.ntmps16
  go_wp2
  go_loop [5, 6] (fun s i => ∃ (k x : Nat), k ≤ n ∧ i = .int .i64 k ∧ s = .int .i64 x ∧ x ≤ 1048576 ∧ Hid (∀ i, i < k → (nm A i).size ≤ 1048576 ∧ (vl A i).size ≤ 1048576)) (fun _ i => n - (intOf i).toNat)
  case atStart => exact ⟨0, n, Nat.zero_le _, rfl, by go_num, by omega, fun i h => by omega⟩
  case round =>
    obtain ⟨k, x, hk, rfl, rfl, hx2, hallA⟩ := hrel
    by_cases hlt : k < n
    · obtain ⟨b1, off, rfl, hb, hcell⟩ := hA.at hAn (by omega)
      have c1 := (hcell k hlt).1
      have c2 := (hcell k hlt).2
      obtain ⟨z, hz⟩ : ∃ z, z = nm A k := ⟨_, rfl⟩
      obtain ⟨y, hy⟩ : ∃ y, y = vl A k := ⟨_, rfl⟩
      rw [← hz] at c1
      rw [← hy] at c2
      have hzs : z.size ≤ 2 ^ 63 - 1 := by rw [hz]; exact (HSA.out k hlt).1
      have hys : y.size ≤ 2 ^ 63 - 1 := by rw [hy]; exact (HSA.out k hlt).2
      have HZ : Hid (z = nm A k) := hz
      have HY : Hid (y = vl A k) := hy
      clear hz hy hcell
      by_cases g1 : z.size ≤ 1048576
      · by_cases g2 : x + z.size ≤ 1048576
        · by_cases g3 : y.size ≤ 1048576
          · by_cases g4 : x + z.size + y.size ≤ 1048576
            · go_wp2
              go_round
              case rel =>
                refine ⟨k + 1, x + z.size + y.size, by omega, by go_num, by go_num, g4, fun i hi => ?_⟩
                by_cases e : i = k
                · subst e; rw [← HZ.out, ← HY.out]; exact ⟨g1, g3⟩
                · exact hallA i (by omega)
              case measure => simp [intOf]; omega
            · go_wp2
              go_ret
              exact ⟨⟨false, rfl, fun h => by cases h⟩, rfl⟩
          · go_wp2
            go_ret
            exact ⟨⟨false, rfl, fun h => by cases h⟩, rfl⟩
        · go_wp2
          go_ret
          exact ⟨⟨false, rfl, fun h => by cases h⟩, rfl⟩
      · go_wp2
        go_ret
        exact ⟨⟨false, rfl, fun h => by cases h⟩, rfl⟩
    · have hkn : k = n := by omega
      subst hkn
      have HAall : Hid (∀ i, i < k → (nm A i).size ≤ 1048576 ∧ (vl A i).size ≤ 1048576) := hallA
      clear hallA hlt
      by_cases h2 : m ≤ 1048576
      case neg =>
        go_wp2
        go_ret
        exact ⟨⟨false, rfl, fun h => by cases h⟩, rfl⟩
      by_cases h3 : x + m ≤ 1048576
      case neg =>
        go_wp2
        go_ret
        exact ⟨⟨false, rfl, fun h => by cases h⟩, rfl⟩
      obtain ⟨x0, hx0⟩ : ∃ x0, x0 = x := ⟨_, rfl⟩
      subst hx0
      go_wp2
      go_loop [5, 7] (fun s i => ∃ (k x : Nat), k ≤ m ∧ i = .int .i64 k ∧ s = .int .i64 x ∧ x ≤ 1048576 ∧ Hid (∀ i, i < k → (nm B i).size ≤ 1048576 ∧ (vl B i).size ≤ 1048576)) (fun _ i => m - (intOf i).toNat)
      case atStart => exact ⟨0, (x0 + m), Nat.zero_le _, rfl, by go_num, by omega, fun i h => by omega⟩
      case round =>
        obtain ⟨k, x, hk, rfl, rfl, hx2, hallB⟩ := hrel
        by_cases hlt : k < m
        · obtain ⟨b1, off, rfl, hb, hcell⟩ := hB.at hBm (by omega)
          have c1 := (hcell k hlt).1
          have c2 := (hcell k hlt).2
          obtain ⟨z, hz⟩ : ∃ z, z = nm B k := ⟨_, rfl⟩
          obtain ⟨y, hy⟩ : ∃ y, y = vl B k := ⟨_, rfl⟩
          rw [← hz] at c1
          rw [← hy] at c2
          have hzs : z.size ≤ 2 ^ 63 - 1 := by rw [hz]; exact (HSB.out k hlt).1
          have hys : y.size ≤ 2 ^ 63 - 1 := by rw [hy]; exact (HSB.out k hlt).2
          have HZ : Hid (z = nm B k) := hz
          have HY : Hid (y = vl B k) := hy
          clear hz hy hcell
          by_cases g1 : z.size ≤ 1048576
          · by_cases g2 : x + z.size ≤ 1048576
            · by_cases g3 : y.size ≤ 1048576
              · by_cases g4 : x + z.size + y.size ≤ 1048576
                · go_wp2
                  go_round
                  case rel =>
                    refine ⟨k + 1, x + z.size + y.size, by omega, by go_num, by go_num, g4, fun i hi => ?_⟩
                    by_cases e : i = k
                    · subst e; rw [← HZ.out, ← HY.out]; exact ⟨g1, g3⟩
                    · exact hallB i (by omega)
                  case measure => simp [intOf]; omega
                · go_wp2
                  go_ret
                  exact ⟨⟨false, rfl, fun h => by cases h⟩, rfl⟩
              · go_wp2
                go_ret
                exact ⟨⟨false, rfl, fun h => by cases h⟩, rfl⟩
            · go_wp2
              go_ret
              exact ⟨⟨false, rfl, fun h => by cases h⟩, rfl⟩
          · go_wp2
            go_ret
            exact ⟨⟨false, rfl, fun h => by cases h⟩, rfl⟩
        · have hkn : k = m := by omega
          subst hkn
          go_wp2
          go_ret
          exact ⟨⟨true, rfl, fun _ => ⟨⟨h1, HAall.out⟩, ⟨h2, hallB⟩⟩⟩, rfl⟩
end Go.Proofs.Qxb6616369a
