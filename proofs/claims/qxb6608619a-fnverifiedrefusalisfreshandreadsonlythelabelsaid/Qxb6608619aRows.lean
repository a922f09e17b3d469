/-
  No cell of these rows narrows 'for every input' (looked for: loops, veiled, ifaces, maps, wideKeys, modest, calm, conditions, laid).
  DERIVED. THE GIVEN ROWS OF THIS SEAT. 1 by the template 'for every input the law returns true; each argument reads behind the call as it read before'; 0 by the template 'total and deterministic' (their statements: Qxb6608619aTotals.lean).
  GIVEN WITH THE SEED: the statements are not yours to turn. If you find one false, say at which input.
  Laid BY PROGRAM, IN A SANDBOX (cutbox-rows.mjs): the forced cells as the released guide's own fill.sh prints them over the translation 36eda235c55a9b6f… (all of the seat's roots in one cut). By AI agents, Wed Nov 11 2026. No macro, syntax, notation, axiom, sorry.
-/
import Derived.Test.Qxb6608619aChecked
import GoSem.Claim
import GoSem.ClaimJoined
import GoSem.ClaimMapViews
import Derived.JoinedTies
import Derived.KernelRfl
namespace Go.Proofs.Qxb6608619a
/- THE CELL 'sum', in the pinned program and in every row, IS THE sha256 OF THE DUMP (.gsa) THAT Qxb6608619aProg.lean LOADS. Nothing in Lean hashes anything: it is a label: what it is worth is what the hold of that sum in a sandbox is worth. -/
noncomputable def Try.pinned : Pinned := { name := "qxb6608619a", sum := "36eda235c55a9b6fc789601051046ce616ae171ec478f8e8c767389cea7de33d", checked := Try.checked }
namespace Rows
def none {H : Type} : Left H := { results := [], args := [] }

/-- 'zzlaws_check_b1.FnVerifiedRefusalIsFreshAndReadsOnlyTheLabel': WHATEVER THE INPUT: true; the input reads as it did. -/
def fnVerifiedRefusalIsFreshAndReadsOnlyTheLabelSpec : ChangeSpec := { name := "fnVerifiedRefusalIsFreshAndReadsOnlyTheLabel", fn := fun _ => fun
  | [d1, d2, d3, d4, d5, d6, d7, d8, d9, d10] => { results := [.lit (.bool true)], args := [d1, d2, d3, d4, d5, d6, d7, d8, d9, d10] }
  | _ => none }
def fnVerifiedRefusalIsFreshAndReadsOnlyTheLabelRow : OpenClaim := { program := "qxb6608619a", sum := "36eda235c55a9b6fc789601051046ce616ae171ec478f8e8c767389cea7de33d", func := "example.com/warrant/warrant/zzlaws_check_b1.FnVerifiedRefusalIsFreshAndReadsOnlyTheLabel", spec := "fnVerifiedRefusalIsFreshAndReadsOnlyTheLabel", apart := false }
def FnVerifiedRefusalIsFreshAndReadsOnlyTheLabelSaid : Prop := fnVerifiedRefusalIsFreshAndReadsOnlyTheLabelRow.holds Try.pinned (OpenSpec.ofChange fnVerifiedRefusalIsFreshAndReadsOnlyTheLabelSpec)

/-- ITS FALSE NEIGHBOUR: 'it returns false'. Refute it at one input. -/
def fnVerifiedRefusalIsFreshAndReadsOnlyTheLabelWrong : ChangeSpec := { name := "fnVerifiedRefusalIsFreshAndReadsOnlyTheLabel", fn := fun _ => fun
  | [d1, d2, d3, d4, d5, d6, d7, d8, d9, d10] => { results := [.lit (.bool false)], args := [d1, d2, d3, d4, d5, d6, d7, d8, d9, d10] }
  | _ => none }
def FnVerifiedRefusalIsFreshAndReadsOnlyTheLabelWrongFalsely : Prop := fnVerifiedRefusalIsFreshAndReadsOnlyTheLabelRow.holds Try.pinned (OpenSpec.ofChange fnVerifiedRefusalIsFreshAndReadsOnlyTheLabelWrong)

end Rows
end Go.Proofs.Qxb6608619a
