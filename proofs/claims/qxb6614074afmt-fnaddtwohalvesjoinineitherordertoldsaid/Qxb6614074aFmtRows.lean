/-
  NARROWER THAN 'FOR EVERY INPUT', by the rows' own cells (each row's printed sentence says how): FnAddTwoHalvesJoinInEitherOrder: laid.
  DERIVED. THE GIVEN ROWS OF THIS SEAT. 1 by the template 'for every input the law returns true; each argument reads behind the call as it read before'; 0 by the template 'total and deterministic' (their statements: Qxb6614074aFmtTotals.lean).
  GIVEN WITH THE SEED: the statements are not yours to turn. If you find one false, say at which input.
  Laid BY PROGRAM, IN A SANDBOX (cutbox-rows.mjs): the forced cells as the released guide's own fill.sh prints them over the translation 7080e2ecf99c87e0… (all of the seat's roots in one cut). By AI agents, Wed Nov 11 2026. No macro, syntax, notation, axiom, sorry.
-/
import Derived.Test.Qxb6614074aFmtChecked
import GoSem.Claim
import GoSem.ClaimJoined
import GoSem.ClaimMapViews
import Derived.JoinedTies
import Derived.KernelRfl
namespace Go.Proofs.Qxb6614074aFmt
/- THE CELL 'sum', in the pinned program and in every row, IS THE sha256 OF THE DUMP (.gsa) THAT Qxb6614074aFmtProg.lean LOADS. Nothing in Lean hashes anything: it is a label: what it is worth is what the hold of that sum in a sandbox is worth. -/
noncomputable def Tryf.pinned : Pinned := { name := "qxb6614074afmt", sum := "7080e2ecf99c87e02838fe9b72ae903c886a53a99695d12e90d314f4ddf57b89", checked := Tryf.checked }
namespace Rows
def none {H : Type} : Left H := { results := [], args := [] }

/- WHAT THE LISTED PACKAGE-LEVEL VARIABLES READ AS WHEN THE CALL BEGINS. Each datum BY PROGRAM (the guide's laid-datum.mjs) off the statement by which the dump's own 'gosem.cut.vars' lays the variable. In a bare row this is a premise. The card (Qxb6614074aFmtCards.lean) ties it to the program's text. -/
def laid_net_netip_z6noz {H : Type} : DataW H := .agg [.ptr (.agg [.lit (.bool true), .lit (.string [])])]

/-- 'zzlaws_pkg_capture_b1.FnAddTwoHalvesJoinInEitherOrder': WHATEVER THE INPUT: true; the input reads as it did. -/
def fnAddTwoHalvesJoinInEitherOrderSpec : ChangeSpec := { name := "fnAddTwoHalvesJoinInEitherOrder", fn := fun _ => fun
  | [d1, d2, d3, d4] => { results := [.lit (.bool true)], args := [d1, d2, d3, d4] }
  | _ => none }
def fnAddTwoHalvesJoinInEitherOrderRow : OpenClaim := { program := "qxb6614074afmt", sum := "7080e2ecf99c87e02838fe9b72ae903c886a53a99695d12e90d314f4ddf57b89", func := "example.com/hearthmesh/hearthmesh/zzlaws_pkg_capture_b1.FnAddTwoHalvesJoinInEitherOrder", spec := "fnAddTwoHalvesJoinInEitherOrder", stops := ["fmt.errorf"], inPlace := ["fmt.errorf", "slices.overlaps[example.com/hearthmesh/hearthmesh/pkg/capture.span]"], unfollowed := true, recurses := true, named := ["net/netip.z6noz", "encoding/binary.BigEndian"], apart := false, laid := [("net/netip.z6noz", laid_net_netip_z6noz)] }
/-- NO THEOREM (fmt's text is open here; it may be false): for the released tool's asking of the row's closed facts alone. THE STATEMENT IS 'FnAddTwoHalvesJoinInEitherOrderToldSaid' (Qxb6614074aFmtCards.lean). -/
def FnAddTwoHalvesJoinInEitherOrderFormAsk : Prop := fnAddTwoHalvesJoinInEitherOrderRow.holds Tryf.pinned (OpenSpec.ofChange fnAddTwoHalvesJoinInEitherOrderSpec)

/-- ITS FALSE NEIGHBOUR: 'it returns false'. Refute it at one input. -/
def fnAddTwoHalvesJoinInEitherOrderWrong : ChangeSpec := { name := "fnAddTwoHalvesJoinInEitherOrder", fn := fun _ => fun
  | [d1, d2, d3, d4] => { results := [.lit (.bool false)], args := [d1, d2, d3, d4] }
  | _ => none }
def FnAddTwoHalvesJoinInEitherOrderWrongFormAsk : Prop := fnAddTwoHalvesJoinInEitherOrderRow.holds Tryf.pinned (OpenSpec.ofChange fnAddTwoHalvesJoinInEitherOrderWrong)

end Rows
end Go.Proofs.Qxb6614074aFmt
