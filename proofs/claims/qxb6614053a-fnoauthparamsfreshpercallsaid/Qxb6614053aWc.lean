/-
  zzHasExactly; the law's own walk.
-/
import Derived.Test.Qxb6614053aWb
import Derived.WalkSmall
namespace Go.Proofs.Qxb6614053a
open Go.RowKit Go.ChangeMaps Go.MapKept
set_option linter.unusedVariables false

theorem find_e0 (v1 v2 : Value) (w : World) : (Instr.findKey 9 (.string errK) [⟨.string errK, v1, 0⟩, ⟨.string descK, v2, 1⟩]).run Try.prog w = .ok (some (0, v1)) w := by kernel_rfl
theorem find_e1 (v1 v2 : Value) (w : World) : (Instr.findKey 9 (.string errK) [⟨.string descK, v2, 0⟩, ⟨.string errK, v1, 1⟩]).run Try.prog w = .ok (some (1, v1)) w := by kernel_rfl
theorem find_d0 (v1 v2 : Value) (w : World) : (Instr.findKey 9 (.string descK) [⟨.string errK, v1, 0⟩, ⟨.string descK, v2, 1⟩]).run Try.prog w = .ok (some (1, v2)) w := by kernel_rfl
theorem find_d1 (v1 v2 : Value) (w : World) : (Instr.findKey 9 (.string descK) [⟨.string descK, v2, 0⟩, ⟨.string errK, v1, 1⟩]).run Try.prog w = .ok (some (0, v2)) w := by kernel_rfl

theorem look_of {W : World} {M : Nat} {es : Array MapEntry} {c : Nat} (t : TypeId) (ht : Try.prog.underlying t = some (.map 9 42)) (hb : W.heap[M]? = some (.map es c)) (s : ByteArray) (hs : s = errK ∨ s = descK ∨ s = stateK) (i : Nat) (v : Value) (ok : Bool)
    (hf : (Instr.findKey 9 (.string s) es.toList).run Try.prog W = .ok (some (i, v)) W) :
    (Instr.lookup t (.map (some M)) (.string s) ok).run Try.prog W = .ok (if ok then .tuple #[v, .bool true] else v) W := by
  simp [Instr.lookup, run_underlying ht, MapKept.run_getObj_map hb, check_key es.isEmpty s hs W, hf, Result.andThen]

theorem IsPar.look_err {W : World} {M b1 b2 : Nat} {code desc : ByteArray} (h : IsPar W M b1 b2 code desc) : (Instr.lookup 38 (.map (some M)) (.string errK) true).run Try.prog W = .ok (.tuple #[.slice (some ⟨b1, 0, none⟩) 1 1, .bool true]) W := by
  rcases h.1 with hb | hb
  · exact look_of 38 Try.underlying38 hb errK (.inl rfl) 0 _ true (find_e0 _ _ _)
  · exact look_of 38 Try.underlying38 hb errK (.inl rfl) 1 _ true (find_e1 _ _ _)
theorem IsPar.look_desc {W : World} {M b1 b2 : Nat} {code desc : ByteArray} (h : IsPar W M b1 b2 code desc) : (Instr.lookup 38 (.map (some M)) (.string descK) true).run Try.prog W = .ok (.tuple #[.slice (some ⟨b2, 0, none⟩) 1 1, .bool true]) W := by
  rcases h.1 with hb | hb
  · exact look_of 38 Try.underlying38 hb descK (.inr (.inl rfl)) 1 _ true (find_d0 _ _ _)
  · exact look_of 38 Try.underlying38 hb descK (.inr (.inl rfl)) 0 _ true (find_d1 _ _ _)
theorem IsPar.len {W : World} {M b1 b2 : Nat} {code desc : ByteArray} (h : IsPar W M b1 b2 code desc) (ty : TypeId) : (Builtin.len_ #[38] ty #[.map (some M)]).run Try.prog W = .ok (.int .i64 2) W := by
  rcases h.1 with hb | hb
  · simp [Builtin.len_, run_underlying Try.underlying38, MapKept.run_getObj_map hb, goInt, Result.andThen]
  · simp [Builtin.len_, run_underlying Try.underlying38, MapKept.run_getObj_map hb, goInt, Result.andThen]
theorem cell_of {W : World} {b : Nat} {v : Value} {t : TypeId} (h : W.heap[b]? = some (.cells #[v] t (0, 0))) : W.cell? ⟨b, 0, none⟩ = some v := by simp [World.cell?, h]

set_option maxHeartbeats 1000000 in
theorem has_any (M b1 b2 : Nat) (code desc : ByteArray) (w : World) (h : IsPar w M b1 b2 code desc) :
    Calls Try.prog 15 #[.map (some M), .string code, .string desc] w fun e w' => e = .returned (.bool true) ∧ w' = w := by
  have l0 := h.len
  have l1 := h.look_err
  have l2 := h.look_desc
  have d1 := cell_of h.2.1
  have d2 := cell_of h.2.2
  clear h
  go_enter Try.func15, Try.ntmps15
  go_wp2
  go_ret
  exact ⟨rfl, rfl⟩
end Go.Proofs.Qxb6614053a
