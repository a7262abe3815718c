/-
  No cell of these rows narrows 'for every input' (looked for: loops, veiled, ifaces, maps, wideKeys, modest, calm, conditions, laid).
  DERIVED. THE GIVEN ROWS OF THIS SEAT. 3 by the template 'for every input the law returns true; each argument reads behind the call as it read before'; 0 by the template 'total and deterministic' (their statements: Qxb6616369aTotals.lean).
  GIVEN WITH THE SEED: the statements are not yours to turn. If you find one false, say at which input.
  Laid BY PROGRAM, IN A SANDBOX (cutbox-rows.mjs): the forced cells as the released guide's own fill.sh prints them over the translation e3516dfc01e6175d… (all of the seat's roots in one cut). By AI agents, Wed Nov 11 2026. No macro, syntax, notation, axiom, sorry.
-/
import Derived.Test.Qxb6616369aChecked
import GoSem.Claim
import GoSem.ClaimJoined
import GoSem.ClaimMapViews
import Derived.JoinedTies
import Derived.KernelRfl
namespace Go.Proofs.Qxb6616369a
/- THE CELL 'sum', in the pinned program and in every row, IS THE sha256 OF THE DUMP (.gsa) THAT Qxb6616369aProg.lean LOADS. Nothing in Lean hashes anything: it is a label: what it is worth is what the hold of that sum in a sandbox is worth. -/
noncomputable def Try.pinned : Pinned := { name := "qxb6616369a", sum := "e3516dfc01e6175d89256ca3b5ddca4201836b6ef1975eca2616b6108fd84985", checked := Try.checked }
namespace Rows
def none {H : Type} : Left H := { results := [], args := [] }

/-- 'zzlaws_root_b1.FnSortByNameSortsEveryOrderAlike': WHATEVER THE INPUT: true; the input reads as it did. -/
def fnSortByNameSortsEveryOrderAlikeSpec : ChangeSpec := { name := "fnSortByNameSortsEveryOrderAlike", fn := fun _ => fun
  | [d] => { results := [.lit (.bool true)], args := [d] }
  | _ => none }
def fnSortByNameSortsEveryOrderAlikeRow : OpenClaim := { program := "qxb6616369a", sum := "e3516dfc01e6175d89256ca3b5ddca4201836b6ef1975eca2616b6108fd84985", func := "example.com/countersign/countersign/zzlaws_root_b1.FnSortByNameSortsEveryOrderAlike", spec := "fnSortByNameSortsEveryOrderAlike", inPlace := ["internal/bytealg.abigen_runtime_cmpstring"], unfollowed := true, recurses := true, apart := false }
def FnSortByNameSortsEveryOrderAlikeSaid : Prop := fnSortByNameSortsEveryOrderAlikeRow.holds Try.pinned (OpenSpec.ofChange fnSortByNameSortsEveryOrderAlikeSpec)

/-- ITS FALSE NEIGHBOUR: 'it returns false'. Refute it at one input. -/
def fnSortByNameSortsEveryOrderAlikeWrong : ChangeSpec := { name := "fnSortByNameSortsEveryOrderAlike", fn := fun _ => fun
  | [d] => { results := [.lit (.bool false)], args := [d] }
  | _ => none }
def FnSortByNameSortsEveryOrderAlikeWrongFalsely : Prop := fnSortByNameSortsEveryOrderAlikeRow.holds Try.pinned (OpenSpec.ofChange fnSortByNameSortsEveryOrderAlikeWrong)

/-- 'zzlaws_root_b1.FnSortByNameMergesSortedParts': WHATEVER THE INPUT: true; the input reads as it did. -/
def fnSortByNameMergesSortedPartsSpec : ChangeSpec := { name := "fnSortByNameMergesSortedParts", fn := fun _ => fun
  | [d1, d2] => { results := [.lit (.bool true)], args := [d1, d2] }
  | _ => none }
def fnSortByNameMergesSortedPartsRow : OpenClaim := { program := "qxb6616369a", sum := "e3516dfc01e6175d89256ca3b5ddca4201836b6ef1975eca2616b6108fd84985", func := "example.com/countersign/countersign/zzlaws_root_b1.FnSortByNameMergesSortedParts", spec := "fnSortByNameMergesSortedParts", inPlace := ["internal/bytealg.abigen_runtime_cmpstring"], unfollowed := true, recurses := true, apart := false }
def FnSortByNameMergesSortedPartsSaid : Prop := fnSortByNameMergesSortedPartsRow.holds Try.pinned (OpenSpec.ofChange fnSortByNameMergesSortedPartsSpec)

/-- ITS FALSE NEIGHBOUR: 'it returns false'. Refute it at one input. -/
def fnSortByNameMergesSortedPartsWrong : ChangeSpec := { name := "fnSortByNameMergesSortedParts", fn := fun _ => fun
  | [d1, d2] => { results := [.lit (.bool false)], args := [d1, d2] }
  | _ => none }
def FnSortByNameMergesSortedPartsWrongFalsely : Prop := fnSortByNameMergesSortedPartsRow.holds Try.pinned (OpenSpec.ofChange fnSortByNameMergesSortedPartsWrong)

/-- 'zzlaws_root_b1.FnSignatureHeadersHandsOutFreshCopies': WHATEVER THE INPUT: true; the input reads as it did. -/
def fnSignatureHeadersHandsOutFreshCopiesSpec : ChangeSpec := { name := "fnSignatureHeadersHandsOutFreshCopies", fn := fun _ => fun
  | [d1, d2] => { results := [.lit (.bool true)], args := [d1, d2] }
  | _ => none }
def fnSignatureHeadersHandsOutFreshCopiesRow : OpenClaim := { program := "qxb6616369a", sum := "e3516dfc01e6175d89256ca3b5ddca4201836b6ef1975eca2616b6108fd84985", func := "example.com/countersign/countersign/zzlaws_root_b1.FnSignatureHeadersHandsOutFreshCopies", spec := "fnSignatureHeadersHandsOutFreshCopies", apart := false }
def FnSignatureHeadersHandsOutFreshCopiesSaid : Prop := fnSignatureHeadersHandsOutFreshCopiesRow.holds Try.pinned (OpenSpec.ofChange fnSignatureHeadersHandsOutFreshCopiesSpec)

/-- ITS FALSE NEIGHBOUR: 'it returns false'. Refute it at one input. -/
def fnSignatureHeadersHandsOutFreshCopiesWrong : ChangeSpec := { name := "fnSignatureHeadersHandsOutFreshCopies", fn := fun _ => fun
  | [d1, d2] => { results := [.lit (.bool false)], args := [d1, d2] }
  | _ => none }
def FnSignatureHeadersHandsOutFreshCopiesWrongFalsely : Prop := fnSignatureHeadersHandsOutFreshCopiesRow.holds Try.pinned (OpenSpec.ofChange fnSignatureHeadersHandsOutFreshCopiesWrong)

end Rows
end Go.Proofs.Qxb6616369a
