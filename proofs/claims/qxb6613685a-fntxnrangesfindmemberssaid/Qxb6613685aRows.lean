/-
  No cell of these rows narrows 'for every input' (looked for: loops, veiled, ifaces, maps, wideKeys, modest, calm, conditions, laid).
  DERIVED. THE GIVEN ROWS OF THIS SEAT. 2 by the template 'for every input the law returns true; each argument reads behind the call as it read before'; 0 by the template 'total and deterministic' (their statements: Qxb6613685aTotals.lean).
  GIVEN WITH THE SEED: the statements are not yours to turn. If you find one false, say at which input.
  Laid BY PROGRAM, IN A SANDBOX (cutbox-rows.mjs): the forced cells as the released guide's own fill.sh prints them over the translation c8b88701635c3841… (all of the seat's roots in one cut). By AI agents, Wed Nov 11 2026. No macro, syntax, notation, axiom, sorry.
-/
import Derived.Test.Qxb6613685aChecked
import GoSem.Claim
import GoSem.ClaimJoined
import GoSem.ClaimMapViews
import Derived.JoinedTies
import Derived.KernelRfl
namespace Go.Proofs.Qxb6613685a
/- THE CELL 'sum', in the pinned program and in every row, IS THE sha256 OF THE DUMP (.gsa) THAT Qxb6613685aProg.lean LOADS. Nothing in Lean hashes anything: it is a label: what it is worth is what the hold of that sum in a sandbox is worth. -/
noncomputable def Try.pinned : Pinned := { name := "qxb6613685a", sum := "c8b88701635c3841cf3baf8e6bca7c74b37fa00cc29e678bbbd2fd51c800f252", checked := Try.checked }
namespace Rows
def none {H : Type} : Left H := { results := [], args := [] }

/-- 'zzlaws_root_b1.FnTxnRangesFindCount': WHATEVER THE INPUT: true; the input reads as it did. -/
def fnTxnRangesFindCountSpec : ChangeSpec := { name := "fnTxnRangesFindCount", fn := fun _ => fun
  | [d1, d2, d3, d4] => { results := [.lit (.bool true)], args := [d1, d2, d3, d4] }
  | _ => none }
def fnTxnRangesFindCountRow : OpenClaim := { program := "qxb6613685a", sum := "c8b88701635c3841cf3baf8e6bca7c74b37fa00cc29e678bbbd2fd51c800f252", func := "example.com/serialis/serialis/zzlaws_root_b1.FnTxnRangesFindCount", spec := "fnTxnRangesFindCount", unfollowed := true, recurses := true, apart := false }
def FnTxnRangesFindCountSaid : Prop := fnTxnRangesFindCountRow.holds Try.pinned (OpenSpec.ofChange fnTxnRangesFindCountSpec)

/-- ITS FALSE NEIGHBOUR: 'it returns false'. Refute it at one input. -/
def fnTxnRangesFindCountWrong : ChangeSpec := { name := "fnTxnRangesFindCount", fn := fun _ => fun
  | [d1, d2, d3, d4] => { results := [.lit (.bool false)], args := [d1, d2, d3, d4] }
  | _ => none }
def FnTxnRangesFindCountWrongFalsely : Prop := fnTxnRangesFindCountRow.holds Try.pinned (OpenSpec.ofChange fnTxnRangesFindCountWrong)

/-- 'zzlaws_root_b1.FnTxnRangesFindMembers': WHATEVER THE INPUT: true; the input reads as it did. -/
def fnTxnRangesFindMembersSpec : ChangeSpec := { name := "fnTxnRangesFindMembers", fn := fun _ => fun
  | [d1, d2, d3, d4] => { results := [.lit (.bool true)], args := [d1, d2, d3, d4] }
  | _ => none }
def fnTxnRangesFindMembersRow : OpenClaim := { program := "qxb6613685a", sum := "c8b88701635c3841cf3baf8e6bca7c74b37fa00cc29e678bbbd2fd51c800f252", func := "example.com/serialis/serialis/zzlaws_root_b1.FnTxnRangesFindMembers", spec := "fnTxnRangesFindMembers", unfollowed := true, recurses := true, apart := false }
def FnTxnRangesFindMembersSaid : Prop := fnTxnRangesFindMembersRow.holds Try.pinned (OpenSpec.ofChange fnTxnRangesFindMembersSpec)

/-- ITS FALSE NEIGHBOUR: 'it returns false'. Refute it at one input. -/
def fnTxnRangesFindMembersWrong : ChangeSpec := { name := "fnTxnRangesFindMembers", fn := fun _ => fun
  | [d1, d2, d3, d4] => { results := [.lit (.bool false)], args := [d1, d2, d3, d4] }
  | _ => none }
def FnTxnRangesFindMembersWrongFalsely : Prop := fnTxnRangesFindMembersRow.holds Try.pinned (OpenSpec.ofChange fnTxnRangesFindMembersWrong)

end Rows
end Go.Proofs.Qxb6613685a
