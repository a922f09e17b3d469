/-
  DERIVED. GIVEN WITH THE SEED: THE CARDS: each row of Qxb6608619aFmtRows.lean that lists a variable, with what it lists TIED to the program's text (the seventh form; the later family's looks); each row that meets fmt, with fmt's text TOLD by the authors' own Lean function (tested against real Go, not proved from fmt's source: count such statements apart). THE CARD IS WHAT COUNTS. Prove the row's statement (the work); the ties are given (Qxb6608619aFmtTie.lean); close each card by the builder's one call (the guide's Derived/Test/ToyasCard.lean, 'card_holds'). Laid BY PROGRAM, IN A SANDBOX (cutbox-door.mjs). By AI agents, Wed Nov 11 2026. No macro, syntax, notation, axiom, sorry.
-/
import Derived.Test.Qxb6608619aFmtRows
import GoSem.ClaimSeven
namespace Go.Proofs.Qxb6608619aFmt
namespace Rows

/-- THE TOLD AND TIED CARD OF 'zzlaws_check_b1.FnClaimSecondsTakesOnlyANumber'. -/
def fnClaimSecondsTakesOnlyANumberCard : Claim7 := { stood := { row := fnClaimSecondsTakesOnlyANumberRow, standIns := [], harness := (true, "95efa5095437c840610bfcd107eb262206c3e89c0bcab151507e671d44026f1d"), looks := true }, told := true, laidByText := true, laidKinds := [.data, .data, .data, .sentinel, .sentinel], laidTests := true, laidLooks := .later, goes := false }
def FnClaimSecondsTakesOnlyANumberToldSaid : Prop := Claim7.holds Tryf.pinned (.plain (OpenSpec.ofChange fnClaimSecondsTakesOnlyANumberSpec)) fnClaimSecondsTakesOnlyANumberCard
/-- ITS FALSE NEIGHBOUR. Refute it at one input. -/
def FnClaimSecondsTakesOnlyANumberToldWrongFalsely : Prop := Claim7.holds Tryf.pinned (.plain (OpenSpec.ofChange fnClaimSecondsTakesOnlyANumberWrong)) fnClaimSecondsTakesOnlyANumberCard
end Rows
end Go.Proofs.Qxb6608619aFmt
