/-
  The lengths that the laws pass by; what a slice that came in is to the walks.
-/
import Derived.Test.Qxb6613685aWe
import Derived.OpenShut
namespace Go.Proofs.Qxb6613685a
open Go.RowKit
set_option linter.unusedVariables false

theorem rowAt_of {k : IntKind} {w : World} {a : Option Addr} {len cap : Nat} {zs : List Int}
    (h : (a = none ∧ len = 0 ∧ cap = 0 ∧ zs = []) ∨ ∃ x, a = some x ∧ len ≤ cap ∧ cap ≤ maxLen ∧ zs.length = cap ∧ (∀ i, i < zs.length → w.cell? (x.add i) = some (.int k (zs.getD i 0))) ∧ ∀ n ∈ zs, (Lit.int k n).wf = true) :
    RowAt k w a len (fun j => zs.getD j 0) ∧ (a = none → len = 0) := by
  rcases h with ⟨rfl, rfl, rfl, rfl⟩ | ⟨x, rfl, hl, hm, hz, hc, _⟩
  · exact ⟨fun j hj => absurd hj (Nat.not_lt_zero _), fun _ => rfl⟩
  · refine ⟨fun j hj => ?_, fun h => by cases h⟩
    obtain ⟨b, off, rfl, hcell⟩ := ints_at hc (by omega)
    exact ⟨b, off, rfl, hcell j (by omega)⟩

theorem wf_u64 {t : Int} (h : (Lit.int .u64 t).wf = true) : 0 ≤ t ∧ t ≤ 18446744073709551615 := by
  have e1 : IntKind.u64.min = 0 := rfl
  have e2 : IntKind.u64.max = 18446744073709551615 := rfl
  simp [Lit.wf, e1, e2] at h
  exact h

set_option maxHeartbeats 1000000 in
theorem count_out (a0 a1 a2 : Option Addr) (n0 c0 n1 c1 n2 c2 : Nat) (t : Int) (w : World) (h : ¬ n0 ≤ 32768 ∨ (n0 ≤ 32768 ∧ ¬ n1 ≤ 32768) ∨ (n0 ≤ 32768 ∧ n1 ≤ 32768 ∧ ¬ n2 ≤ 32768)) :
    Calls Try.prog 3 #[.slice a0 n0 c0, .slice a1 n1 c1, .slice a2 n2 c2, .int .u64 t] w fun e w' => e = .returned (.bool true) ∧ Below w.heap.size w w' := by
  rcases h with h0 | ⟨h0, h1⟩ | ⟨h0, h1, h2⟩
  all_goals
    go_enter Try.func3, Try.ntmps3
    go_wp2_with (go_at_call 5; refine (bytes5 _ _ _ _ _ _ _ _ _ _ _).mono ?_; rintro e w' ⟨⟨b, rfl⟩, rfl⟩)
    all_goals
      go_ret
      exact ⟨rfl, Below.refl _ _⟩

theorem count_any (a0 a1 a2 : Option Addr) (n0 c0 n1 c1 n2 c2 : Nat) (los his ads : Nat → Int) (t : Int) (w : World)
    (h0 : RowAt .u64 w a0 n0 los) (h1 : RowAt .u64 w a1 n1 his) (h2 : RowAt .i64 w a2 n2 ads) (z0 : a0 = none → n0 = 0) (z1 : a1 = none → n1 = 0) (z2 : a2 = none → n2 = 0) (ht : (Lit.int .u64 t).wf = true) :
    Calls Try.prog 3 #[.slice a0 n0 c0, .slice a1 n1 c1, .slice a2 n2 c2, .int .u64 t] w fun e w' => e = .returned (.bool true) ∧ Below w.heap.size w w' := by
  obtain ⟨t0, t1⟩ := wf_u64 ht
  by_cases p0 : n0 ≤ 32768
  · by_cases p1 : n1 ≤ 32768
    · by_cases p2 : n2 ≤ 32768
      · exact count_in a0 a1 a2 n0 c0 n1 c1 n2 c2 los his ads t w p0 p1 p2 h0 h1 h2 z0 z1 z2 t0 t1
      · exact count_out a0 a1 a2 n0 c0 n1 c1 n2 c2 t w (by simp [p0, p1, p2])
    · exact count_out a0 a1 a2 n0 c0 n1 c1 n2 c2 t w (by simp [p0, p1])
  · exact count_out a0 a1 a2 n0 c0 n1 c1 n2 c2 t w (by simp [p0])
end Go.Proofs.Qxb6613685a
