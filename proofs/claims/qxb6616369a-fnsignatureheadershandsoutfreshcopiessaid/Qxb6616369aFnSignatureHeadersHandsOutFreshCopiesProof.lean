/-
  The proof of Rows.FnSignatureHeadersHandsOutFreshCopiesSaid.
-/
import Derived.Test.Qxb6616369aRows
import Derived.Test.Qxb6616369aHdr
import Derived.WalkKit
import Derived.ProofKit
import Derived.OpenShut
import Derived.ShutString
import Derived.ChangeOld
import Derived.Below
import Derived.Deep.SlicePairs
namespace Go.Proofs.Qxb6616369a.fnSignatureHeaders
open Go.ChangeShapes Go.WideShapes Go.ChangeAt Go.RowKit

theorem own : ownKnob Try.prog.godebug = none := by kernel_rfl
theorem laidOut : laidOutB Try.prog = true := by kernel_rfl
theorem cells52 : Try.prog.cellsOf 52 = 2 := by kernel_rfl
theorem cells9 : Try.prog.cellsOf 9 = 1 := by kernel_rfl
theorem cells3 : Try.prog.cellsOf 3 = 1 := by kernel_rfl

/-- The string in a cell. -/
def strOf : Value → ByteArray | .string s => s | _ => ByteArray.empty

theorem rulesOf {H : Type} {enc : TypeId × Value → H} {W : World} {base : Nat} {sp : Nat → Bool} {hd : Bool} {fuel : Nat} {a : Option Addr} {len cap : Nat} {x : DataW H × List MemPlace}
    (h : DataW.trod enc Try.prog W base sp hd fuel 34 [.slice a len cap] = some x) :
    ∃ N C, InRules W a len cap N C ∧ len ≤ maxLen ∧ ∀ i, i < len → (N i).size ≤ maxLen := by
  rcases Deep.open_slice_pairs Try.underlying34 Try.underlying52 cells52 rfl rfl cells9 cells3 h with ⟨hc, _⟩ | ⟨y, l, cp, m, k, V0, V1, D0, D1, P0, P1, hc, _, hl, hm, hmm, _, hall⟩
  · simp at hc
    obtain ⟨rfl, rfl, rfl⟩ := hc
    exact ⟨fun _ => ByteArray.empty, fun _ => 0, .inl ⟨rfl, rfl, rfl⟩, Nat.zero_le _, fun i h => by omega⟩
  · simp at hc
    obtain ⟨rfl, rfl, rfl⟩ := hc
    have hlm : len ≤ m := by rw [hmm]; split <;> omega
    have each : ∀ i, i < len → ∃ s z, V0 i = .string s ∧ V1 i = .int .i64 z ∧ s.size ≤ maxLen := by
      intro i hi
      obtain ⟨_, _, t0, t1⟩ := hall i (by omega)
      obtain ⟨s, e0, _, hs⟩ := DataW.trod_string Try.underlying9 t0
      obtain ⟨z, e1, _, _⟩ := DataW.trod_int Try.underlying3 t1
      simp at e0 e1
      exact ⟨s, z, e0, e1, hs⟩
    refine ⟨fun i => strOf (V0 i), fun i => intOf (V1 i), .inr ⟨y, rfl, fun hn => ?_⟩, by omega, fun i hi => ?_⟩
    · obtain ⟨b, off, spot⟩ := y
      have c0 := (hall 0 (by omega)).1
      have hs : spot = none := by simpa [Addr.add] using World.cell?_spot c0
      subst hs
      refine ⟨b, off, rfl, World.block_lt_of_cell? W _ c0, fun i hi => ?_⟩
      obtain ⟨s, z, e0, e1, _⟩ := each i hi
      obtain ⟨t0, t1, _, _⟩ := hall i (by omega)
      rw [add_plain] at t0 t1
      refine ⟨?_, ?_⟩
      · show _ = some (Value.string (strOf (V0 i)))
        rw [t0, e0]; rfl
      · show _ = some (Value.int .i64 (intOf (V1 i)))
        rw [Nat.add_assoc, t1, e1]; rfl
    · obtain ⟨s, z, e0, e1, hs⟩ := each i hi
      simpa [e0, strOf] using hs

set_option maxRecDepth 100000 in
theorem lifted (os : Os) (started : os.Started) (H : Type) (enc : TypeId × Value → H) :
    ReturnsInHanded {} Try.checked os 5 .any (Rows.fnSignatureHeadersHandsOutFreshCopiesSpec.pre6 enc Try.prog Try.f5 Rows.fnSignatureHeadersHandsOutFreshCopiesRow.domain false) (Rows.fnSignatureHeadersHandsOutFreshCopiesSpec.post enc Try.prog Try.f5 false true false false) := by
  refine returnsInHanded_of_change (C := Try.checked) own started (by kernel_rfl) Try.func5
    (ChangeSpec.witness6 (enc := enc) (C := Try.checked) false ⟨#[], #[.slice none 0 0, .bool false], []⟩ 8 (by kernel_rfl) (by kernel_rfl) (by kernel_rfl) (by kernel_rfl)) ?_
  intro W base args ds gs before hval0 hW hcnd _
  have hval : ∀ (j : Nat) t v, Try.f5.params[j]? = some t → args[j]? = some v → Value.okWide Try.prog W .any base t v := hval0
  have hW' := hW
  obtain ⟨p, q, hA0, hV, rfl, hfz, hnd⟩ := hW
  have hA : DataW.TrodAll enc Try.prog W 0 (fun _ => true) true Try.f5.params.toList args.toList ds p := hA0
  rw [Try.params5] at hA hval
  obtain ⟨v0, vs0, d0, ds0, p0, q0, hargs, rfl, rfl, h0, r0⟩ := trodAll_cons hA
  obtain ⟨v1, vs1, d1, ds1, p1, q1, rfl, rfl, rfl, h1, r1⟩ := trodAll_cons r0
  obtain ⟨rfl, rfl, rfl⟩ := trodAll_nil r1
  obtain rfl : args = #[v0, v1] := by cases args; simp_all
  obtain ⟨rfl, rfl⟩ := trodVars_none hV
  obtain ⟨a0, len0, cap0, rfl⟩ := okWide_slice Try.underlying34 (hval 0 34 v0 rfl rfl)
  have k0 := h0
  have lt0 : ∀ x ∈ p0, x.block < W.heap.size := by obtain ⟨m, hm⟩ := k0; exact DataW.trod_lt m _ _ _ hm
  obtain ⟨N, C, hR, hm, hs⟩ : ∃ N C, InRules W a0 len0 cap0 N C ∧ len0 ≤ maxLen ∧ ∀ i, i < len0 → (N i).size ≤ maxLen := by
    obtain ⟨fuel, hf⟩ := h0
    exact rulesOf hf
  obtain ⟨a1, rfl, rfl, rfl⟩ := open_bool Try.underlying4 (hval 1 4 v1 rfl rfl) h1
  clear hA0 hval0
  refine (hdr_walk a0 len0 cap0 a1 N C W hR hm hs).mono fun e W' ⟨he, bel⟩ => ?_
  subst he
  exact ⟨_, rfl, _, _, _, [], _, [], hW', trodAll_mk1 (shut_bool Try.underlying4 _), (trodAll_cons_mk (Below.trod laidOut (by kernel_rfl) (of_decide_eq_true (by kernel_rfl)) k0 bel lt0) (trodAll_cons_mk (shut_bool Try.underlying4 _) trodAll_mk0)), rfl, bel.frame _, fun h => by cases h⟩

theorem over : Rows.fnSignatureHeadersHandsOutFreshCopiesRow.holds Try.pinned (OpenSpec.ofChange Rows.fnSignatureHeadersHandsOutFreshCopiesSpec) :=
  OpenClaim.holds_of_wide 5 Try.f5 rfl rfl rfl rfl rfl rfl rfl ⟨rfl, rfl, rfl, rfl, rfl⟩ rfl rfl rfl rfl rfl (by kernel_rfl) Try.func5 (by kernel_rfl)
    (of_decide_eq_true (by kernel_rfl)) (by unfold Func.isWrapper; first | (rw [if_pos (by decide +kernel)]; kernel_rfl) | (rw [if_neg (by decide +kernel)]; exact ⟨rfl, rfl⟩))
    (fun os started H enc _ => lifted os started H enc)
end Go.Proofs.Qxb6616369a.fnSignatureHeaders
namespace Go.Proofs.Qxb6616369a
/-- The statement. -/
theorem fnSignatureHeadersHandsOutFreshCopies_holds : Rows.FnSignatureHeadersHandsOutFreshCopiesSaid := fnSignatureHeaders.over
end Go.Proofs.Qxb6616369a
