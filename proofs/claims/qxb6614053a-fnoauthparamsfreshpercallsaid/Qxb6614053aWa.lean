/-
  Maps whose keys are three constant texts: what an update and a look-up do to the entries, written out.
-/
import Derived.Test.Qxb6614053aProg
import Derived.WalkKit
import Derived.WalkSpells
import Derived.Outline
import Derived.Maps.OwnSet
namespace Go.Proofs.Qxb6614053a
open Go.RowKit Go.ChangeMaps Go.MapKept

abbrev errK : ByteArray := ⟨#[101, 114, 114, 111, 114]⟩
abbrev descK : ByteArray := ⟨#[101, 114, 114, 111, 114, 95, 100, 101, 115, 99, 114, 105, 112, 116, 105, 111, 110]⟩
abbrev stateK : ByteArray := ⟨#[115, 116, 97, 116, 101]⟩

theorem check_key (b : Bool) (s : ByteArray) (hs : s = errK ∨ s = descK ∨ s = stateK) (w : World) : (Instr.checkKey b 10000 9 (.string s)).run Try.prog w = .ok () w := by
  rcases hs with rfl | rfl | rfl <;> cases b <;> kernel_rfl

theorem find_nil (s : ByteArray) (w : World) : (Instr.findKey 9 (.string s) []).run Try.prog w = .ok none w := by kernel_rfl

theorem upd_push {W : World} {M : Nat} {es : Array MapEntry} {c : Nat} (hb : W.heap[M]? = some (.map es c)) (s : ByteArray) (hs : s = errK ∨ s = descK ∨ s = stateK) (v : Value)
    (hf : (Instr.findKey 9 (.string s) es.toList).run Try.prog W = .ok none W) :
    (Instr.mapUpdate 39 (.map (some M)) (.string s) v).run Try.prog W = .ok () (setBlock W M (.map (es.push ⟨.string s, v, c⟩) (c + 1))) := by
  simp [Instr.mapUpdate, run_underlying Try.underlying39, MapKept.run_getObj_map hb, check_key false s hs W, hf, MapKept.run_setObj_map _ hb, Result.andThen, setBlock]
end Go.Proofs.Qxb6614053a
