/-
  ZZpendingView, at every order.
-/
import Derived.Test.Qxb6614074aFmtWc
namespace Go.Proofs.Qxb6614074aFmt
open Go.RowKit
set_option linter.unusedVariables false

theorem cellD {W : World} {a : Addr} {v : Value} (h : W.cell? a = some v) : W.drew.cell? a = some v := h

theorem port_at (a b : Int) (c : Option Addr) (p : Int) (w : World) :
    Calls Tryf.prog 12 #[.agg #[.int .u64 a, .int .u64 b, .pointer c, .int .u16 p]] w fun e w' => e = .returned (.int .u16 p) ∧ w' = w.alloc (.cells #[.int .u64 a, .int .u64 b, .pointer c, .int .u16 p] 53) := by
  go_enter Tryf.func12, Tryf.ntmps12
  go_wp2
  go_ret
  exact ⟨rfl, rfl⟩

set_option maxRecDepth 100000 in
set_option maxHeartbeats 4000000 in
theorem view_any (p : Nat) (z hz : Option Addr) (sp dp : Int) (ports : Bool) (nx : Int) (ba : Option Addr) (bn bc : Nat) (sa : Option Addr) (sn sc : Nat) (held len ahead : Int) (w : World)
    (hP : Own w p 58 (pdA z hz sp dp ports nx (.slice ba bn bc) (.slice sa sn sc) held len ahead)) :
    Calls Tryf.prog 7 #[.pointer (some ⟨p, 0, none⟩)] w fun e w' => e = .returned (.tuple #[.bool ports, .int .u16 sp, .int .u16 dp, .slice ba bn bc, .int .i64 sn, .int .i64 held, .int .i64 len, .int .i64 0, .int .i64 ahead, .bool false]) ∧ Below w.heap.size w w' := by
  have d11 := hP.cell (i := 11) (v := .int .u64 0) rfl
  have d12 := hP.cell (i := 12) (v := .int .u64 0) rfl
  have d13 := hP.cell (i := 13) (v := .pointer hz) rfl
  have d14 := hP.cell (i := 14) (v := .int .u16 sp) rfl
  have d15 := hP.cell (i := 15) (v := .int .u64 0) rfl
  have d16 := hP.cell (i := 16) (v := .int .u64 0) rfl
  have d17 := hP.cell (i := 17) (v := .pointer hz) rfl
  have d18 := hP.cell (i := 18) (v := .int .u16 dp) rfl
  have d20 := hP.cell (i := 20) (v := .bool ports) rfl
  have d22 := hP.cell (i := 22) (v := .slice ba bn bc) rfl
  have d23 := hP.cell (i := 23) (v := .slice sa sn sc) rfl
  have d24 := hP.cell (i := 24) (v := .int .i64 held) rfl
  have d25 := hP.cell (i := 25) (v := .int .i64 len) rfl
  have d26 := hP.cell (i := 26) (v := .int .i64 0) rfl
  have d27 := hP.cell (i := 27) (v := .int .i64 ahead) rfl
  have d28 := hP.cell (i := 28) (v := .bool false) rfl
  clear hP
  go_enter Tryf.func7, Tryf.ntmps7
  go_wp2
  go_region_held3 (fun w' => w'.cell? ⟨p, 11, none⟩ = some (.int .u64 0) ∧ w'.cell? ⟨p, 12, none⟩ = some (.int .u64 0) ∧ w'.cell? ⟨p, 13, none⟩ = some (.pointer hz) ∧ w'.cell? ⟨p, 14, none⟩ = some (.int .u16 sp) ∧ w'.cell? ⟨p, 15, none⟩ = some (.int .u64 0) ∧ w'.cell? ⟨p, 16, none⟩ = some (.int .u64 0) ∧ w'.cell? ⟨p, 17, none⟩ = some (.pointer hz) ∧ w'.cell? ⟨p, 18, none⟩ = some (.int .u16 dp) ∧ w'.cell? ⟨p, 20, none⟩ = some (.bool ports) ∧ w'.cell? ⟨p, 22, none⟩ = some (.slice ba bn bc) ∧ w'.cell? ⟨p, 23, none⟩ = some (.slice sa sn sc) ∧ w'.cell? ⟨p, 24, none⟩ = some (.int .i64 held) ∧ w'.cell? ⟨p, 25, none⟩ = some (.int .i64 len) ∧ w'.cell? ⟨p, 26, none⟩ = some (.int .i64 0) ∧ w'.cell? ⟨p, 27, none⟩ = some (.int .i64 ahead) ∧ w'.cell? ⟨p, 28, none⟩ = some (.bool false))
    (refine ⟨?_, ?_, ?_, ?_, ?_, ?_, ?_, ?_, ?_, ?_, ?_, ?_, ?_, ?_, ?_, ?_⟩ <;> (repeat (first | exact d11 | exact d12 | exact d13 | exact d14 | exact d15 | exact d16 | exact d17 | exact d18 | exact d20 | exact d22 | exact d23 | exact d24 | exact d25 | exact d26 | exact d27 | exact d28 | refine cellD ?_ | refine cellA ?_ _)))
    (first | (go_at_call 12; refine (port_at _ _ _ _ _).mono ?_; rintro e w1 ⟨rfl, rfl⟩))
  go_wp2_with fail
  go_returns
  exact ⟨rfl, (((Below.refl _ _).alloc (Nat.le_refl _) _).alloc (by simp) _).drew⟩
end Go.Proofs.Qxb6614074aFmt
