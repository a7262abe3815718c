/-
  The proof of Rows.FnSortByNameMergesSortedPartsSaid.
-/
import Derived.Test.Qxb6616369aRows
import Derived.Test.Qxb6616369aParts
import Derived.WalkKit
import Derived.ProofKit
import Derived.OpenShut
import Derived.ShutString
import Derived.ChangeOld
import Derived.Below
import Derived.Deep.SlicePairs
namespace Go.Proofs.Qxb6616369a.fnSortParts
open Go.ChangeShapes Go.WideShapes Go.ChangeAt Go.RowKit Plain

theorem own : ownKnob Try.prog.godebug = none := by kernel_rfl
theorem laidOut : laidOutB Try.prog = true := by kernel_rfl
theorem cells46 : Try.prog.cellsOf 46 = 2 := by kernel_rfl
theorem cells9 : Try.prog.cellsOf 9 = 1 := by kernel_rfl

/-- The string in a cell. -/
def strOf : Value → ByteArray | .string s => s | _ => ByteArray.empty

/-- A slice of pairs of strings that came in. -/
theorem pairsOf {H : Type} {enc : TypeId × Value → H} {W : World} {base : Nat} {sp : Nat → Bool} {hd : Bool} {fuel : Nat} {a : Option Addr} {len cap : Nat} {x : DataW H × List MemPlace}
    (h : DataW.trod enc Try.prog W base sp hd fuel 22 [.slice a len cap] = some x) :
    ∃ L : List NV, RP W a L ∧ L.length = len ∧ len ≤ maxLen ∧ (a = none → len = 0 ∧ cap = 0) ∧ ∀ i, i < len → (nm L i).size ≤ maxLen ∧ (vl L i).size ≤ maxLen := by
  rcases Deep.open_slice_pairs Try.underlying22 Try.underlying46 cells46 rfl rfl cells9 cells9 h with ⟨hc, _⟩ | ⟨y, l, cp, m, k, V0, V1, D0, D1, P0, P1, hc, _, hl, hm, hmm, _, hall⟩
  · simp at hc
    obtain ⟨rfl, rfl, rfl⟩ := hc
    exact ⟨[], RP.nil _ _, rfl, Nat.zero_le _, fun _ => ⟨rfl, rfl⟩, fun i h => by omega⟩
  · simp at hc
    obtain ⟨rfl, rfl, rfl⟩ := hc
    have hlm : len ≤ m := by rw [hmm]; split <;> omega
    have each : ∀ i, i < len → ∃ s z, V0 i = .string s ∧ V1 i = .string z ∧ s.size ≤ maxLen ∧ z.size ≤ maxLen := by
      intro i hi
      obtain ⟨_, _, t0, t1⟩ := hall i (by omega)
      obtain ⟨s, e0, _, hs⟩ := DataW.trod_string Try.underlying9 t0
      obtain ⟨z, e1, _, hz⟩ := DataW.trod_string Try.underlying9 t1
      simp at e0 e1
      exact ⟨s, z, e0, e1, hs, hz⟩
    have hlen : ((List.range len).map (fun i => (strOf (V0 i), strOf (V1 i)))).length = len := by simp
    have hn : ∀ i, i < len → nm ((List.range len).map (fun i => (strOf (V0 i), strOf (V1 i)))) i = strOf (V0 i) := fun i hi => by simp [nm, hi]
    have hv : ∀ i, i < len → vl ((List.range len).map (fun i => (strOf (V0 i), strOf (V1 i)))) i = strOf (V1 i) := fun i hi => by simp [vl, hi]
    refine ⟨(List.range len).map (fun i => (strOf (V0 i), strOf (V1 i))), fun hp => ?_, hlen, by omega, fun h => (by cases h), fun i hi => ?_⟩
    · rw [hlen] at hp ⊢
      obtain ⟨b, off, spot⟩ := y
      have c0 := (hall 0 (by omega)).1
      have hs : spot = none := by simpa [Addr.add] using World.cell?_spot c0
      subst hs
      refine ⟨b, off, rfl, World.block_lt_of_cell? W _ c0, fun i hi => ?_⟩
      obtain ⟨s, z, e0, e1, _⟩ := each i hi
      obtain ⟨t0, t1, _, _⟩ := hall i (by omega)
      rw [add_plain] at t0 t1
      rw [hn i hi, hv i hi]
      refine ⟨?_, ?_⟩
      · rw [t0, e0]; rfl
      · rw [Nat.add_assoc, t1, e1]; rfl
    · obtain ⟨s, z, e0, e1, hs, hz⟩ := each i hi
      rw [hn i hi, hv i hi]
      exact ⟨by simpa [e0, strOf] using hs, by simpa [e1, strOf] using hz⟩

set_option maxRecDepth 100000 in
theorem lifted (os : Os) (started : os.Started) (H : Type) (enc : TypeId × Value → H) :
    ReturnsInHanded {} Try.checked os 4 .any (Rows.fnSortByNameMergesSortedPartsSpec.pre6 enc Try.prog Try.f4 Rows.fnSortByNameMergesSortedPartsRow.domain false) (Rows.fnSortByNameMergesSortedPartsSpec.post enc Try.prog Try.f4 false true false false) := by
  refine returnsInHanded_of_change (C := Try.checked) own started (by kernel_rfl) Try.func4
    (ChangeSpec.witness6 (enc := enc) (C := Try.checked) false ⟨#[], #[.slice none 0 0, .slice none 0 0], []⟩ 8 (by kernel_rfl) (by kernel_rfl) (by kernel_rfl) (by kernel_rfl)) ?_
  intro W base args ds gs before hval0 hW hcnd _
  have hval : ∀ (j : Nat) t v, Try.f4.params[j]? = some t → args[j]? = some v → Value.okWide Try.prog W .any base t v := hval0
  have hW' := hW
  obtain ⟨p, q, hA0, hV, rfl, hfz, hnd⟩ := hW
  have hA : DataW.TrodAll enc Try.prog W 0 (fun _ => true) true Try.f4.params.toList args.toList ds p := hA0
  rw [Try.params4] at hA hval
  obtain ⟨v0, vs0, d0, ds0, p0, q0, hargs, rfl, rfl, h0, r0⟩ := trodAll_cons hA
  obtain ⟨v1, vs1, d1, ds1, p1, q1, rfl, rfl, rfl, h1, r1⟩ := trodAll_cons r0
  obtain ⟨rfl, rfl, rfl⟩ := trodAll_nil r1
  obtain rfl : args = #[v0, v1] := by cases args; simp_all
  obtain ⟨rfl, rfl⟩ := trodVars_none hV
  obtain ⟨a0, len0, cap0, rfl⟩ := okWide_slice Try.underlying22 (hval 0 22 v0 rfl rfl)
  obtain ⟨a1, len1, cap1, rfl⟩ := okWide_slice Try.underlying22 (hval 1 22 v1 rfl rfl)
  have k0 := h0
  have k1 := h1
  have lt0 : ∀ x ∈ p0, x.block < W.heap.size := by obtain ⟨m, hm⟩ := k0; exact DataW.trod_lt m _ _ _ hm
  have lt1 : ∀ x ∈ p1, x.block < W.heap.size := by obtain ⟨m, hm⟩ := k1; exact DataW.trod_lt m _ _ _ hm
  obtain ⟨A, hRA, hLA, hmA, hnA, hsA⟩ : ∃ L : List NV, RP W a0 L ∧ L.length = len0 ∧ len0 ≤ maxLen ∧ (a0 = none → len0 = 0 ∧ cap0 = 0) ∧ ∀ i, i < len0 → (nm L i).size ≤ maxLen ∧ (vl L i).size ≤ maxLen := by
    obtain ⟨fuel, hf⟩ := h0
    exact pairsOf hf
  obtain ⟨B, hRB, hLB, hmB, hnB, hsB⟩ : ∃ L : List NV, RP W a1 L ∧ L.length = len1 ∧ len1 ≤ maxLen ∧ (a1 = none → len1 = 0 ∧ cap1 = 0) ∧ ∀ i, i < len1 → (nm L i).size ≤ maxLen ∧ (vl L i).size ≤ maxLen := by
    obtain ⟨fuel, hf⟩ := h1
    exact pairsOf hf
  clear hA0 hval0
  refine (parts_walk a0 a1 len0 cap0 len1 cap1 A B W hRA hLA hRB hLB hmA hmB hnA hnB hsA hsB).mono fun e W' ⟨he, bel⟩ => ?_
  subst he
  exact ⟨_, rfl, _, _, _, [], _, [], hW', trodAll_mk1 (shut_bool Try.underlying4 _), (trodAll_cons_mk (Below.trod laidOut (by kernel_rfl) (of_decide_eq_true (by kernel_rfl)) k0 bel lt0) (trodAll_mk1 (Below.trod laidOut (by kernel_rfl) (of_decide_eq_true (by kernel_rfl)) k1 bel lt1))), rfl, bel.frame _, fun h => by cases h⟩

theorem over : Rows.fnSortByNameMergesSortedPartsRow.holds Try.pinned (OpenSpec.ofChange Rows.fnSortByNameMergesSortedPartsSpec) :=
  OpenClaim.holds_of_wide 4 Try.f4 rfl rfl rfl rfl rfl rfl rfl ⟨rfl, rfl, rfl, rfl, rfl⟩ rfl rfl rfl rfl rfl (by kernel_rfl) Try.func4 (by kernel_rfl)
    (of_decide_eq_true (by kernel_rfl)) (by unfold Func.isWrapper; first | (rw [if_pos (by decide +kernel)]; kernel_rfl) | (rw [if_neg (by decide +kernel)]; exact ⟨rfl, rfl⟩))
    (fun os started H enc _ => lifted os started H enc)
end Go.Proofs.Qxb6616369a.fnSortParts
namespace Go.Proofs.Qxb6616369a
/-- The statement. -/
theorem fnSortByNameMergesSortedParts_holds : Rows.FnSortByNameMergesSortedPartsSaid := fnSortParts.over
end Go.Proofs.Qxb6616369a
