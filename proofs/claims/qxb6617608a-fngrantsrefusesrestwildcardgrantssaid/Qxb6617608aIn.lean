/-
  From the form's reading of a slice of strings to the walks' own.
-/
import Derived.Test.Qxb6617608aLeaves
import Derived.ProofKit
import Derived.OpenShut
import Derived.ShutString
import Derived.ChangeOld
import Derived.SliceStrings
namespace Go.Proofs.Qxb6617608a
open Go.ChangeShapes Go.WideShapes Go.ChangeAt Go.RowKit

theorem own : ownKnob Try.prog.godebug = none := by kernel_rfl
theorem laidOut : laidOutB Try.prog = true := by kernel_rfl
theorem cells9 : Try.prog.cellsOf 9 = 1 := by kernel_rfl

theorem stringsOf {H : Type} {enc : TypeId × Value → H} {W : World} {base : Nat} {sp : Nat → Bool} {hd : Bool} {fuel : Nat} {a : Option Addr} {len cap : Nat} {x : DataW H × List MemPlace}
    (h : DataW.trod enc Try.prog W base sp hd fuel 22 [.slice a len cap] = some x) :
    ∃ N, Hid (a = none → len = 0 ∧ cap = 0) ∧ ReadsS W a len N ∧ len ≤ maxLen ∧ ∀ i, i < len → (N i).size ≤ maxLen := by
  rcases open_strings Try.underlying22 Try.underlying9 cells9 h with ⟨hcs, _⟩ | ⟨y, l, c, ss, hcs, _, hl, hm, hz, _, hcell, hws⟩
  · simp at hcs
    obtain ⟨rfl, rfl, rfl⟩ := hcs
    exact ⟨fun _ => ByteArray.empty, fun _ => ⟨rfl, rfl⟩, fun h => by omega, Nat.zero_le _, fun i h => by omega⟩
  · simp at hcs
    obtain ⟨rfl, rfl, rfl⟩ := hcs
    have hlz : len ≤ ss.length := by rw [hz]; split <;> omega
    refine ⟨fun i => ss.getD i ByteArray.empty, (fun h => by cases h), fun hn => ?_, by omega, fun i hi => ?_⟩
    · obtain ⟨b, off, spot⟩ := y
      have c0 := hcell 0 (by omega)
      have hs : spot = none := by simpa [Addr.add] using World.cell?_spot c0
      subst hs
      refine ⟨b, off, rfl, World.block_lt_of_cell? W _ c0, fun i hi => ?_⟩
      have := hcell i (by omega)
      rwa [add_plain] at this
    · have hi' : i < ss.length := by omega
      simpa [hi'] using hws ss[i] (List.getElem_mem hi')
end Go.Proofs.Qxb6617608a
