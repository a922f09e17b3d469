/-
  FnTxnRangesFindMembers: the lengths that the law passes by; the whole.
-/
import Derived.Test.Qxb6613685aWg
namespace Go.Proofs.Qxb6613685a
open Go.RowKit
set_option linter.unusedVariables false

set_option maxHeartbeats 1000000 in
theorem members_out (a0 a1 a2 : Option Addr) (n0 c0 n1 c1 n2 c2 : Nat) (t : Int) (w : World) (h : ¬ n0 ≤ 32768 ∨ (n0 ≤ 32768 ∧ ¬ n1 ≤ 32768) ∨ (n0 ≤ 32768 ∧ n1 ≤ 32768 ∧ ¬ n2 ≤ 32768)) :
    Calls Try.prog 4 #[.slice a0 n0 c0, .slice a1 n1 c1, .slice a2 n2 c2, .int .u64 t] w fun e w' => e = .returned (.bool true) ∧ Below w.heap.size w w' := by
  rcases h with h0 | ⟨h0, h1⟩ | ⟨h0, h1, h2⟩
  all_goals
    go_enter Try.func4, Try.ntmps4
    go_wp2_with (go_at_call 9; refine (bytes9 _ _ _ _ _ _ _ _ _ _ _).mono ?_; rintro e w' ⟨⟨b, rfl⟩, rfl⟩)
    all_goals
      go_ret
      exact ⟨rfl, Below.refl _ _⟩

theorem members_any (a0 a1 a2 : Option Addr) (n0 c0 n1 c1 n2 c2 : Nat) (los his ads : Nat → Int) (t : Int) (w : World)
    (h0 : RowAt .u64 w a0 n0 los) (h1 : RowAt .u64 w a1 n1 his) (h2 : RowAt .i64 w a2 n2 ads) (z0 : a0 = none → n0 = 0) (z1 : a1 = none → n1 = 0) (z2 : a2 = none → n2 = 0) (ht : (Lit.int .u64 t).wf = true) :
    Calls Try.prog 4 #[.slice a0 n0 c0, .slice a1 n1 c1, .slice a2 n2 c2, .int .u64 t] w fun e w' => e = .returned (.bool true) ∧ Below w.heap.size w w' := by
  obtain ⟨t0, t1⟩ := wf_u64 ht
  by_cases p0 : n0 ≤ 32768
  · by_cases p1 : n1 ≤ 32768
    · by_cases p2 : n2 ≤ 32768
      · exact members_in a0 a1 a2 n0 c0 n1 c1 n2 c2 los his ads t w p0 p1 p2 h0 h1 h2 z0 z1 z2 t0 t1
      · exact members_out a0 a1 a2 n0 c0 n1 c1 n2 c2 t w (by simp [p0, p1, p2])
    · exact members_out a0 a1 a2 n0 c0 n1 c1 n2 c2 t w (by simp [p0, p1])
  · exact members_out a0 a1 a2 n0 c0 n1 c1 n2 c2 t w (by simp [p0])
end Go.Proofs.Qxb6613685a
