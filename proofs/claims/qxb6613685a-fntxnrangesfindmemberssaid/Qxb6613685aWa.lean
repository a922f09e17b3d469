/-
  The walks of the shared functions: cmp.isNaN, cmp.Compare, the comparing closure, slices.BinarySearchFunc at this instance, (*txnRanges).find.
-/
import Derived.Test.Qxb6613685aProg
import Derived.WalkKit
import Derived.WalkSpells
import Derived.Outline
import Derived.Deep.LoopGhost
namespace Go.Proofs.Qxb6613685a
open Go.RowKit

/-- cmp.Compare's answer. -/
def cmpI (x y : Int) : Int := if x < y then -1 else if y < x then 1 else 0
theorem cmpI_lt {x y : Int} (h : x < y) : cmpI x y = -1 := by simp [cmpI, h]
theorem cmpI_gt {x y : Int} (h : y < x) : cmpI x y = 1 := by unfold cmpI; rw [if_neg (by omega), if_pos h]
theorem cmpI_eq (x : Int) : cmpI x x = 0 := by simp [cmpI]
theorem cmpI_neg {x y : Int} : cmpI x y < 0 ↔ x < y := by
  unfold cmpI; split
  · simp [*]
  · split <;> simp_all <;> omega

theorem isNaN_any (x : Int) (w : World) : Calls Try.prog 14 #[.int .u64 x] w fun e w' => e = .returned (.bool false) ∧ w' = w := by
  go_enter Try.func14, Try.ntmps14
  go_wp2
  go_ret
  exact ⟨rfl, rfl⟩

theorem cmp_any (x y : Int) (w : World) : Calls Try.prog 13 #[.int .u64 x, .int .u64 y] w fun e w' => e = .returned (.int .i64 (cmpI x y)) ∧ w' = w := by
  rcases Int.lt_trichotomy x y with h | h | h
  · rw [cmpI_lt h]
    go_enter Try.func13, Try.ntmps13
    go_wp2_with (go_at_call 14; refine (isNaN_any _ _).mono ?_; rintro e w' ⟨rfl, rfl⟩)
    go_ret
    exact ⟨rfl, rfl⟩
  · subst h
    rw [cmpI_eq]
    go_enter Try.func13, Try.ntmps13
    go_wp2_with (go_at_call 14; refine (isNaN_any _ _).mono ?_; rintro e w' ⟨rfl, rfl⟩)
    go_ret
    exact ⟨rfl, rfl⟩
  · rw [cmpI_gt h]
    have h2 : ¬ x < y := by omega
    go_enter Try.func13, Try.ntmps13
    go_wp2_with (go_at_call 14; refine (isNaN_any _ _).mono ?_; rintro e w' ⟨rfl, rfl⟩)
    go_ret
    exact ⟨rfl, rfl⟩

theorem clo_any (l h a t : Int) (w : World) :
    Calls Try.prog 12 #[.agg #[.int .u64 l, .int .u64 h, .int .i64 a], .int .u64 t] w fun e w' => e = .returned (.int .i64 (cmpI h t)) ∧ w' = w.alloc (.cells #[.int .u64 l, .int .u64 h, .int .i64 a] 33) := by
  go_enter Try.func12, Try.ntmps12
  go_wp2_with (go_at_call 13; refine (cmp_any _ _ _).mono ?_; rintro e w' ⟨rfl, rfl⟩)
  go_ret
  exact ⟨rfl, rfl⟩
end Go.Proofs.Qxb6613685a
