/-
  No cell of these rows narrows 'for every input' (looked for: loops, veiled, ifaces, maps, wideKeys, modest, calm, conditions, laid).
  DERIVED. THE GIVEN ROWS OF THIS SEAT. 2 by the template 'for every input the law returns true; each argument reads behind the call as it read before'; 0 by the template 'total and deterministic' (their statements: Qxb6617608aTotals.lean).
  GIVEN WITH THE SEED: the statements are not yours to turn. If you find one false, say at which input.
  Laid BY PROGRAM, IN A SANDBOX (cutbox-rows.mjs): the forced cells as the released guide's own fill.sh prints them over the translation ae1b2a4ddf68a575… (all of the seat's roots in one cut). By AI agents, Wed Nov 11 2026. No macro, syntax, notation, axiom, sorry.
-/
import Derived.Test.Qxb6617608aChecked
import GoSem.Claim
import GoSem.ClaimJoined
import GoSem.ClaimMapViews
import Derived.JoinedTies
import Derived.KernelRfl
namespace Go.Proofs.Qxb6617608a
/- THE CELL 'sum', in the pinned program and in every row, IS THE sha256 OF THE DUMP (.gsa) THAT Qxb6617608aProg.lean LOADS. Nothing in Lean hashes anything: it is a label: what it is worth is what the hold of that sum in a sandbox is worth. -/
noncomputable def Try.pinned : Pinned := { name := "qxb6617608a", sum := "ae1b2a4ddf68a575cf3887164940f62504a5d313d8a22a23f3805f2a2a2190a1", checked := Try.checked }
namespace Rows
def none {H : Type} : Left H := { results := [], args := [] }

/-- 'zzlaws_internal_rbac_b1.FnGrantsSplitAndInsertedPerm': WHATEVER THE INPUT: true; the input reads as it did. -/
def fnGrantsSplitAndInsertedPermSpec : ChangeSpec := { name := "fnGrantsSplitAndInsertedPerm", fn := fun _ => fun
  | [d1, d2, d3] => { results := [.lit (.bool true)], args := [d1, d2, d3] }
  | _ => none }
def fnGrantsSplitAndInsertedPermRow : OpenClaim := { program := "qxb6617608a", sum := "ae1b2a4ddf68a575cf3887164940f62504a5d313d8a22a23f3805f2a2a2190a1", func := "example.com/vrfy/vrfy/zzlaws_internal_rbac_b1.FnGrantsSplitAndInsertedPerm", spec := "fnGrantsSplitAndInsertedPerm", unfollowed := true, recurses := true, apart := false }
def FnGrantsSplitAndInsertedPermSaid : Prop := fnGrantsSplitAndInsertedPermRow.holds Try.pinned (OpenSpec.ofChange fnGrantsSplitAndInsertedPermSpec)

/-- ITS FALSE NEIGHBOUR: 'it returns false'. Refute it at one input. -/
def fnGrantsSplitAndInsertedPermWrong : ChangeSpec := { name := "fnGrantsSplitAndInsertedPerm", fn := fun _ => fun
  | [d1, d2, d3] => { results := [.lit (.bool false)], args := [d1, d2, d3] }
  | _ => none }
def FnGrantsSplitAndInsertedPermWrongFalsely : Prop := fnGrantsSplitAndInsertedPermRow.holds Try.pinned (OpenSpec.ofChange fnGrantsSplitAndInsertedPermWrong)

/-- 'zzlaws_internal_rbac_b1.FnGrantsRefusesRestWildcardGrants': WHATEVER THE INPUT: true; the input reads as it did. -/
def fnGrantsRefusesRestWildcardGrantsSpec : ChangeSpec := { name := "fnGrantsRefusesRestWildcardGrants", fn := fun _ => fun
  | [d1, d2, d3] => { results := [.lit (.bool true)], args := [d1, d2, d3] }
  | _ => none }
def fnGrantsRefusesRestWildcardGrantsRow : OpenClaim := { program := "qxb6617608a", sum := "ae1b2a4ddf68a575cf3887164940f62504a5d313d8a22a23f3805f2a2a2190a1", func := "example.com/vrfy/vrfy/zzlaws_internal_rbac_b1.FnGrantsRefusesRestWildcardGrants", spec := "fnGrantsRefusesRestWildcardGrants", unfollowed := true, recurses := true, apart := false }
def FnGrantsRefusesRestWildcardGrantsSaid : Prop := fnGrantsRefusesRestWildcardGrantsRow.holds Try.pinned (OpenSpec.ofChange fnGrantsRefusesRestWildcardGrantsSpec)

/-- ITS FALSE NEIGHBOUR: 'it returns false'. Refute it at one input. -/
def fnGrantsRefusesRestWildcardGrantsWrong : ChangeSpec := { name := "fnGrantsRefusesRestWildcardGrants", fn := fun _ => fun
  | [d1, d2, d3] => { results := [.lit (.bool false)], args := [d1, d2, d3] }
  | _ => none }
def FnGrantsRefusesRestWildcardGrantsWrongFalsely : Prop := fnGrantsRefusesRestWildcardGrantsRow.holds Try.pinned (OpenSpec.ofChange fnGrantsRefusesRestWildcardGrantsWrong)

end Rows
end Go.Proofs.Qxb6617608a
