/-
  The walks of the shared functions: cmp.isNaN, cmp.Compare, the comparing closure, slices.BinarySearchFunc over spans, (*pending).find.
-/
import Derived.Test.Qxb6614074aFmtProg
import Derived.WalkKit
import Derived.WalkSpells
import Derived.Outline
import Derived.Deep.LoopGhost
import Derived.Deep.OwnRows
namespace Go.Proofs.Qxb6614074aFmt
open Go.RowKit

/-- cmp.Compare's answer. -/
def cmpI (x y : Int) : Int := if x < y then -1 else if y < x then 1 else 0
theorem cmpI_lt {x y : Int} (h : x < y) : cmpI x y = -1 := by simp [cmpI, h]
theorem cmpI_gt {x y : Int} (h : y < x) : cmpI x y = 1 := by unfold cmpI; rw [if_neg (by omega), if_pos h]
theorem cmpI_eq (x : Int) : cmpI x x = 0 := by simp [cmpI]

theorem isNaN_any (x : Int) (w : World) : Calls Tryf.prog 31 #[.int .i64 x] w fun e w' => e = .returned (.bool false) ∧ w' = w := by
  go_enter Tryf.func31, Tryf.ntmps31
  go_wp2
  go_ret
  exact ⟨rfl, rfl⟩

theorem cmp_any (x y : Int) (w : World) : Calls Tryf.prog 28 #[.int .i64 x, .int .i64 y] w fun e w' => e = .returned (.int .i64 (cmpI x y)) ∧ w' = w := by
  rcases Int.lt_trichotomy x y with h | h | h
  · rw [cmpI_lt h]
    go_enter Tryf.func28, Tryf.ntmps28
    go_wp2_with (go_at_call 31; refine (isNaN_any _ _).mono ?_; rintro e w' ⟨rfl, rfl⟩)
    go_ret
    exact ⟨rfl, rfl⟩
  · subst h
    rw [cmpI_eq]
    go_enter Tryf.func28, Tryf.ntmps28
    go_wp2_with (go_at_call 31; refine (isNaN_any _ _).mono ?_; rintro e w' ⟨rfl, rfl⟩)
    go_ret
    exact ⟨rfl, rfl⟩
  · rw [cmpI_gt h]
    have h2 : ¬ x < y := by omega
    go_enter Tryf.func28, Tryf.ntmps28
    go_wp2_with (go_at_call 31; refine (isNaN_any _ _).mono ?_; rintro e w' ⟨rfl, rfl⟩)
    go_ret
    exact ⟨rfl, rfl⟩

theorem clo_any (l h a t : Int) (w : World) :
    Calls Tryf.prog 27 #[.agg #[.int .i64 l, .int .i64 h, .int .i64 a], .int .i64 t] w fun e w' => e = .returned (.int .i64 (cmpI l t)) ∧ w' = w.alloc (.cells #[.int .i64 l, .int .i64 h, .int .i64 a] 64) := by
  go_enter Tryf.func27, Tryf.ntmps27
  go_wp2_with (go_at_call 28; refine (cmp_any _ _ _).mono ?_; rintro e w' ⟨rfl, rfl⟩)
  go_ret
  exact ⟨rfl, rfl⟩

theorem clo_lt (l h a t : Int) (w : World) (hlt : l < t) :
    Calls Tryf.prog 27 #[.agg #[.int .i64 l, .int .i64 h, .int .i64 a], .int .i64 t] w fun e w' => e = .returned (.int .i64 (-1)) ∧ Below w.heap.size w w' :=
  (clo_any l h a t w).mono fun e w' ⟨he, hw⟩ => ⟨by rw [he, cmpI_lt hlt], by rw [hw]; exact (Below.refl _ _).alloc (Nat.le_refl _) _⟩
theorem clo_gt (l h a t : Int) (w : World) (hgt : t < l) :
    Calls Tryf.prog 27 #[.agg #[.int .i64 l, .int .i64 h, .int .i64 a], .int .i64 t] w fun e w' => e = .returned (.int .i64 1) ∧ Below w.heap.size w w' :=
  (clo_any l h a t w).mono fun e w' ⟨he, hw⟩ => ⟨by rw [he, cmpI_gt hgt], by rw [hw]; exact (Below.refl _ _).alloc (Nat.le_refl _) _⟩

/-- No span is held: the place is 0, nothing is found. -/
theorem search0 (a : Option Addr) (c : Nat) (t : Int) (w : World) :
    Calls Tryf.prog 26 #[.slice a 0 c, .int .i64 t, .func (.func 27) #[] #[]] w fun e w' => e = .returned (.tuple #[.int .i64 0, .bool false]) ∧ Below w.heap.size w w' := by
  go_enter Tryf.func26, Tryf.ntmps26
  go_wp2
  go_loopg [9, 10] 0 (fun kx s9 s10 wr => s9 = .int .i64 0 ∧ s10 = .int .i64 0 ∧ Below w.heap.size w wr)
  case atStart => exact ⟨rfl, rfl, Below.refl _ _⟩
  case round =>
    obtain ⟨rfl, rfl, hB⟩ := hrel
    go_wp2
    go_ret2
    exact ⟨rfl, hB⟩

set_option maxHeartbeats 1000000 in
/-- One span is held, and it starts ahead of t: the place is 1. -/
theorem search1_lt (b c : Nat) (l h a t : Int) (w : World) (hlt : l < t) (c0 : w.cell? ⟨b, 0, none⟩ = some (.int .i64 l)) (c1 : w.cell? ⟨b, 1, none⟩ = some (.int .i64 h)) (c2 : w.cell? ⟨b, 2, none⟩ = some (.int .i64 a)) :
    Calls Tryf.prog 26 #[.slice (some ⟨b, 0, none⟩) 1 c, .int .i64 t, .func (.func 27) #[] #[]] w fun e w' => e = .returned (.tuple #[.int .i64 1, .bool false]) ∧ Below w.heap.size w w' := by
  go_enter Tryf.func26, Tryf.ntmps26
  go_wp2
  go_loopg [9, 10] 1 (fun kx s9 s10 wr => ((s9 = .int .i64 0 ∧ s10 = .int .i64 1 ∧ kx = 1 ∧ wr = w) ∨ (s9 = .int .i64 1 ∧ s10 = .int .i64 1)) ∧ Below w.heap.size w wr)
  case atStart => exact ⟨.inl ⟨rfl, rfl, rfl, rfl⟩, Below.refl _ _⟩
  case round =>
    obtain ⟨⟨rfl, rfl, rfl, rfl⟩ | ⟨rfl, rfl⟩, hB⟩ := hrel
    · go_wp2_with (go_at_call 27; refine (clo_lt _ _ _ _ _ hlt).mono ?_; rintro e w1 ⟨rfl, hw1⟩)
      go_roundg 0
      case measure => omega
      case rel => exact ⟨.inr ⟨rfl, rfl⟩, hw1⟩
    · go_wp2
      go_ret2
      exact ⟨rfl, hB⟩

set_option maxHeartbeats 1000000 in
/-- One span is held, and it starts behind t: the place is 0. -/
theorem search1_gt (b c : Nat) (l h a t : Int) (w : World) (hgt : t < l) (c0 : w.cell? ⟨b, 0, none⟩ = some (.int .i64 l)) (c1 : w.cell? ⟨b, 1, none⟩ = some (.int .i64 h)) (c2 : w.cell? ⟨b, 2, none⟩ = some (.int .i64 a)) :
    Calls Tryf.prog 26 #[.slice (some ⟨b, 0, none⟩) 1 c, .int .i64 t, .func (.func 27) #[] #[]] w fun e w' => e = .returned (.tuple #[.int .i64 0, .bool false]) ∧ Below w.heap.size w w' := by
  have hb : b < w.heap.size := by simpa using World.block_lt_of_cell? _ _ c0
  go_enter Tryf.func26, Tryf.ntmps26
  go_wp2
  go_loopg [9, 10] 1 (fun kx s9 s10 wr => ((s9 = .int .i64 0 ∧ s10 = .int .i64 1 ∧ kx = 1) ∨ (s9 = .int .i64 0 ∧ s10 = .int .i64 0)) ∧ Below w.heap.size w wr)
  case atStart => exact ⟨.inl ⟨rfl, rfl, rfl⟩, Below.refl _ _⟩
  case round =>
    obtain ⟨hh, hB⟩ := hrel
    have d0 := (hB.cell (p := ⟨b, 0, none⟩) hb).trans c0
    have d1 := (hB.cell (p := ⟨b, 1, none⟩) hb).trans c1
    have d2 := (hB.cell (p := ⟨b, 2, none⟩) hb).trans c2
    obtain ⟨rfl, rfl, rfl⟩ | ⟨rfl, rfl⟩ := hh
    · go_wp2_with (go_at_call 27; refine (clo_gt _ _ _ _ _ hgt).mono ?_; rintro e w1 ⟨rfl, hw1⟩)
      go_roundg 0
      case measure => omega
      case rel => exact ⟨.inr ⟨rfl, rfl⟩, hB.trans (hw1.mono hB.size)⟩
    · go_wp2_with (go_at_call 27; refine (clo_gt _ _ _ _ _ hgt).mono ?_; rintro e w1 ⟨rfl, hw1⟩)
      go_ret2
      exact ⟨rfl, hB.trans (hw1.mono hB.size)⟩

theorem find0 (p : Nat) (a : Option Addr) (c : Nat) (t : Int) (w : World) (h : w.cell? ⟨p, 23, none⟩ = some (.slice a 0 c)) :
    Calls Tryf.prog 20 #[.pointer (some ⟨p, 0, none⟩), .int .i64 t] w fun e w' => e = .returned (.tuple #[.int .i64 0, .bool false]) ∧ Below w.heap.size w w' := by
  go_enter Tryf.func20, Tryf.ntmps20
  go_wp2_with (go_at_call 26; refine (search0 _ _ _ _).mono ?_; rintro e w1 ⟨rfl, hw1⟩)
  go_ret2
  exact ⟨rfl, hw1⟩

theorem find1_lt (p b c : Nat) (l h a t : Int) (w : World) (hlt : l < t) (hs : w.cell? ⟨p, 23, none⟩ = some (.slice (some ⟨b, 0, none⟩) 1 c)) (c0 : w.cell? ⟨b, 0, none⟩ = some (.int .i64 l)) (c1 : w.cell? ⟨b, 1, none⟩ = some (.int .i64 h)) (c2 : w.cell? ⟨b, 2, none⟩ = some (.int .i64 a)) :
    Calls Tryf.prog 20 #[.pointer (some ⟨p, 0, none⟩), .int .i64 t] w fun e w' => e = .returned (.tuple #[.int .i64 1, .bool false]) ∧ Below w.heap.size w w' := by
  go_enter Tryf.func20, Tryf.ntmps20
  go_wp2_with (go_at_call 26; refine (search1_lt _ _ _ _ _ _ _ hlt c0 c1 c2).mono ?_; rintro e w1 ⟨rfl, hw1⟩)
  go_ret2
  exact ⟨rfl, hw1⟩

theorem find1_gt (p b c : Nat) (l h a t : Int) (w : World) (hgt : t < l) (hs : w.cell? ⟨p, 23, none⟩ = some (.slice (some ⟨b, 0, none⟩) 1 c)) (c0 : w.cell? ⟨b, 0, none⟩ = some (.int .i64 l)) (c1 : w.cell? ⟨b, 1, none⟩ = some (.int .i64 h)) (c2 : w.cell? ⟨b, 2, none⟩ = some (.int .i64 a)) :
    Calls Tryf.prog 20 #[.pointer (some ⟨p, 0, none⟩), .int .i64 t] w fun e w' => e = .returned (.tuple #[.int .i64 0, .bool false]) ∧ Below w.heap.size w w' := by
  go_enter Tryf.func20, Tryf.ntmps20
  go_wp2_with (go_at_call 26; refine (search1_gt _ _ _ _ _ _ _ hgt c0 c1 c2).mono ?_; rintro e w1 ⟨rfl, hw1⟩)
  go_ret2
  exact ⟨rfl, hw1⟩
end Go.Proofs.Qxb6614074aFmt
