/-
  The law's walk at every input.
-/
import Derived.Test.Qxb6614074aFmtWl
namespace Go.Proofs.Qxb6614074aFmt
open Go.RowKit Go.Lib
set_option linter.unusedVariables false

/-- A slice of n bytes at a: element j is f j. -/
def Bytes (w : World) (a : Option Addr) (n : Nat) (f : Nat → Int) : Prop :=
  ∀ j, j < n → ∃ b off, a = some ⟨b, off, none⟩ ∧ w.cell? ⟨b, off + j, none⟩ = some (.int .u8 (f j))

set_option maxRecDepth 100000 in
set_option maxHeartbeats 2000000 in
theorem law_out (before k : Int) (a : Option Addr) (n c : Nat) (swap : Bool) (w : World)
    (h : (1048576 : Int) < n ∨ (¬ (1048576 : Int) < n ∧ (before < 0 ∨ (¬ before < 0 ∧ 65536 < before) ∨ (¬ before < 0 ∧ ¬ 65536 < before ∧
      (k < 8 ∨ (¬ k < 8 ∧ (n : Int) ≤ k) ∨ (¬ k < 8 ∧ ¬ (n : Int) ≤ k ∧ k % 8 ≠ 0) ∨ (¬ k < 8 ∧ ¬ (n : Int) ≤ k ∧ k % 8 = 0 ∧ 65535 < before + n)))))) :
    Calls Tryf.prog 3 #[.int .i64 before, .slice a n c, .int .i64 k, .bool swap] w fun e w' => e = .returned (.bool true) ∧ Below w.heap.size w w' := by
  rcases h with h | ⟨h1, h | ⟨h2, h3⟩ | ⟨h2, h3, h | ⟨h4, h5⟩ | ⟨h4, h5, h6⟩ | ⟨h4, h5, h6, h7⟩⟩⟩
  case inr.inr.inr.inr.inr.inl =>
    have h6' : (k % 8 == 0) = false := by simpa using h6
    have h6'' : (k % 8 != 0) = true := by simpa using h6
    clear h6
    go_enter Tryf.func3, Tryf.ntmps3
    go_wp2_with (go_at_call 4; refine (bytes_any _ _ _ _ _ _ _).mono ?_; rintro e w' ⟨⟨b, rfl⟩, rfl⟩)
    all_goals
      go_ret
      exact ⟨rfl, Below.refl _ _⟩
  case inr.inr.inr.inr.inr.inr =>
    have hw : IntKind.i64.wrap (before + (n : Int)) = before + n := by rw [IntKind.wrap_i64]; omega
    go_enter Tryf.func3, Tryf.ntmps3
    go_wp2_with (go_at_call 4; refine (bytes_any _ _ _ _ _ _ _).mono ?_; rintro e w' ⟨⟨b, rfl⟩, rfl⟩)
    all_goals
      go_ret
      exact ⟨rfl, Below.refl _ _⟩
  all_goals
    go_enter Tryf.func3, Tryf.ntmps3
    go_wp2_with (go_at_call 4; refine (bytes_any _ _ _ _ _ _ _).mono ?_; rintro e w' ⟨⟨b, rfl⟩, rfl⟩)
    all_goals
      go_ret
      exact ⟨rfl, Below.refl _ _⟩

theorem law_any (before k : Int) (a : Option Addr) (n c : Nat) (swap : Bool) (z : Option Addr) (f : Nat → Int) (w : World) (hz : w.cell? ⟨0, 0, none⟩ = some (.pointer z)) (hD : Bytes w a n f) (hnc : n ≤ c) :
    Calls Tryf.prog 3 #[.int .i64 before, .slice a n c, .int .i64 k, .bool swap] w fun e w' => e = .returned (.bool true) ∧ Below w.heap.size w w' := by
  by_cases h1 : (1048576 : Int) < n
  · exact law_out _ _ _ _ _ _ _ (.inl h1)
  by_cases h2 : before < 0
  · exact law_out _ _ _ _ _ _ _ (.inr ⟨h1, .inl h2⟩)
  by_cases h3 : 65536 < before
  · exact law_out _ _ _ _ _ _ _ (.inr ⟨h1, .inr (.inl ⟨h2, h3⟩)⟩)
  by_cases h4 : k < 8
  · exact law_out _ _ _ _ _ _ _ (.inr ⟨h1, .inr (.inr ⟨h2, h3, .inl h4⟩)⟩)
  by_cases h5 : (n : Int) ≤ k
  · exact law_out _ _ _ _ _ _ _ (.inr ⟨h1, .inr (.inr ⟨h2, h3, .inr (.inl ⟨h4, h5⟩)⟩)⟩)
  by_cases h6 : k % 8 = 0
  case neg => exact law_out _ _ _ _ _ _ _ (.inr ⟨h1, .inr (.inr ⟨h2, h3, .inr (.inr (.inl ⟨h4, h5, h6⟩))⟩)⟩)
  by_cases h7 : 65535 < before + n
  · exact law_out _ _ _ _ _ _ _ (.inr ⟨h1, .inr (.inr ⟨h2, h3, .inr (.inr (.inr ⟨h4, h5, h6, h7⟩))⟩)⟩)
  obtain ⟨kk, rfl⟩ : ∃ kk : Nat, k = kk := ⟨k.toNat, by omega⟩
  obtain ⟨m, rfl⟩ : ∃ m : Nat, n = kk + m := ⟨n - kk, by omega⟩
  obtain ⟨pb, po, rfl, _⟩ := hD 0 (by omega)
  exact law_good pb po kk m c before swap z f w hz (fun j hj => by
    obtain ⟨b', o', e, hc⟩ := hD j hj
    simp only [Option.some.injEq, Addr.mk.injEq] at e
    obtain ⟨rfl, rfl, _⟩ := e
    exact hc) (by omega) (by omega) (by omega) hnc (by omega) (by omega)
end Go.Proofs.Qxb6614074aFmt
