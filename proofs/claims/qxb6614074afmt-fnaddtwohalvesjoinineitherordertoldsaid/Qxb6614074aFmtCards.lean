/-
  DERIVED. GIVEN WITH THE SEED: THE CARDS: each row of Qxb6614074aFmtRows.lean that lists a variable, with what it lists TIED to the program's text (the seventh form; the later family's looks); each row that meets fmt, with fmt's text TOLD by the authors' own Lean function (tested against real Go, not proved from fmt's source: count such statements apart). THE CARD IS WHAT COUNTS. Prove the row's statement (the work); the ties are given (Qxb6614074aFmtTie.lean); close each card by the builder's one call (the guide's Derived/Test/ToyasCard.lean, 'card_holds'). Laid BY PROGRAM, IN A SANDBOX (cutbox-door.mjs). By AI agents, Wed Nov 11 2026. No macro, syntax, notation, axiom, sorry.
-/
import Derived.Test.Qxb6614074aFmtRows
import GoSem.ClaimSeven
namespace Go.Proofs.Qxb6614074aFmt
namespace Rows

/-- THE TOLD AND TIED CARD OF 'zzlaws_pkg_capture_b1.FnAddTwoHalvesJoinInEitherOrder'. -/
def fnAddTwoHalvesJoinInEitherOrderCard : Claim7 := { stood := { row := fnAddTwoHalvesJoinInEitherOrderRow, standIns := [], harness := (true, "957fc383616bf072a162ecc444c316dd0cbb686f638603e7720fc2469c93e59e"), looks := false }, told := true, laidByText := true, laidKinds := [.called], laidTests := true, laidLooks := .later, goes := false }
def FnAddTwoHalvesJoinInEitherOrderToldSaid : Prop := Claim7.holds Tryf.pinned (.plain (OpenSpec.ofChange fnAddTwoHalvesJoinInEitherOrderSpec)) fnAddTwoHalvesJoinInEitherOrderCard
/-- ITS FALSE NEIGHBOUR. Refute it at one input. -/
def FnAddTwoHalvesJoinInEitherOrderToldWrongFalsely : Prop := Claim7.holds Tryf.pinned (.plain (OpenSpec.ofChange fnAddTwoHalvesJoinInEitherOrderWrong)) fnAddTwoHalvesJoinInEitherOrderCard
end Rows
end Go.Proofs.Qxb6614074aFmt
