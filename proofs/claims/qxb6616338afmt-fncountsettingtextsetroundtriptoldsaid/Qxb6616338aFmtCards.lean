/-
  DERIVED. GIVEN WITH THE SEED: THE CARDS: each row of Qxb6616338aFmtRows.lean that lists a variable, with what it lists TIED to the program's text (the seventh form; the later family's looks); each row that meets fmt, with fmt's text TOLD by the authors' own Lean function (tested against real Go, not proved from fmt's source: count such statements apart). THE CARD IS WHAT COUNTS. Prove the row's statement (the work); the ties are given (Qxb6616338aFmtTie.lean); close each card by the builder's one call (the guide's Derived/Test/ToyasCard.lean, 'card_holds'). Laid BY PROGRAM, IN A SANDBOX (cutbox-door.mjs). By AI agents, Wed Nov 11 2026. No macro, syntax, notation, axiom, sorry.
-/
import Derived.Test.Qxb6616338aFmtRows
import GoSem.ClaimSeven
namespace Go.Proofs.Qxb6616338aFmt
namespace Rows

/-- THE TOLD AND TIED CARD OF 'zzlaws_chain_b1.FnCountSettingTextSetRoundTrip'. -/
def fnCountSettingTextSetRoundTripCard : Claim7 := { stood := { row := fnCountSettingTextSetRoundTripRow, standIns := [], harness := (true, "3cbaf960429146ee569f2c2185e451b6d69b58a6b25680ae836f5118b98cb15b"), looks := true }, told := true, laidByText := true, laidKinds := [.data, .data, .data, .sentinel, .sentinel], laidTests := true, laidLooks := .later, goes := false }
def FnCountSettingTextSetRoundTripToldSaid : Prop := Claim7.holds Tryf.pinned (.plain (OpenSpec.ofChange fnCountSettingTextSetRoundTripSpec)) fnCountSettingTextSetRoundTripCard
/-- ITS FALSE NEIGHBOUR. Refute it at one input. -/
def FnCountSettingTextSetRoundTripToldWrongFalsely : Prop := Claim7.holds Tryf.pinned (.plain (OpenSpec.ofChange fnCountSettingTextSetRoundTripWrong)) fnCountSettingTextSetRoundTripCard
end Rows
end Go.Proofs.Qxb6616338aFmt
