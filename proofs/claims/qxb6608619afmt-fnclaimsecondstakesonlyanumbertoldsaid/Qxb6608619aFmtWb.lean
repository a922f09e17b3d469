/-
  The law's own walk.
-/
import Derived.Test.Qxb6608619aFmtWa
import Derived.Deep.QuietTactic
import Derived.BigQuiet
namespace Go.Proofs.Qxb6608619aFmt
open Go.RowKit Go.Extern.Stop Go.Stop Go.Extern
set_option linter.unusedVariables false

theorem g0 : Tryf.prog.globalNamed "strconv.ErrSyntax" = some 0 := by kernel_rfl
theorem g1 : Tryf.prog.globalNamed "strconv.ErrRange" = some 1 := by kernel_rfl

theorem Vars.below {w w' : World} (h : Vars w) (hb : Below w.heap.size w w') : Vars w' := by
  obtain ⟨t0, t1, p0, p1, v0, v1⟩ := h
  have c0 := World.var?_cell g0 v0 0
  have c1 := World.var?_cell g1 v1 0
  have l0 : 0 < w.heap.size := by simpa using World.block_lt_of_cell? _ _ (by simpa using c0)
  have l1 : 1 < w.heap.size := by simpa using World.block_lt_of_cell? _ _ (by simpa using c1)
  exact ⟨t0, t1, p0, p1, var?_below hb g0 l0 v0, var?_below hb g1 l1 v1⟩
theorem ans_below {F : Interp} {w w' : World} (h : F.answers w.tape) (hb : Below w.heap.size w w') : F.answers w'.tape := by rw [hb.tape]; exact h

theorem bytes_any (a0 a1 a2 : ByteArray) (u : Value) (w : World) :
    Calls Tryf.prog 4 #[.string a0, .string a1, .string a2, u] w fun e w' => (∃ b, e = .returned (.bool b)) ∧ w' = w := by
  go_enter Tryf.func4, Tryf.ntmps4
  go_wp2
  all_goals (go_ret; exact ⟨⟨_, rfl⟩, rfl⟩)

set_option maxRecDepth 100000 in
set_option maxHeartbeats 1000000 in
theorem main_ok (F : Interp) (a0 a1 a2 : ByteArray) (u : Value) (w : World) (hu : ∃ x, u = .float .f64 x) (hF : F.answers w.tape) (hv : Vars w) (h0 : a0.size ≤ 65536) (h1 : a1.size ≤ 65536) (h2 : a2.size ≤ 65536) (v : Int) (hp : parsed a2 = some v) :
    Calls Tryf.prog 3 #[.string a0, .string a1, .string a2, u] w fun e w' => e = .returned (.bool true) ∧ Below w.heap.size w w' := by
  go_enter Tryf.func3, Tryf.ntmps3
  go_wp2_with (go_at_call 4; refine (bytes_any _ _ _ _ _).mono ?_; rintro e w' ⟨⟨b, rfl⟩, rfl⟩)
  · go_ret
    exact ⟨rfl, Below.refl _ _⟩
  refine (front_number_ok a0 a2 _ h2 v hp).mono ?_
  rintro e w1 ⟨rfl, hb1⟩
  go_wp2_with fail
  refine (front_number_ok a1 a2 _ h2 v hp).mono ?_
  rintro e w2 ⟨rfl, hb2⟩
  have hc2 := hb1.trans (hb2.mono hb1.size)
  clear hb1 hb2
  go_wp2_with fail
  refine (front_string F a0 a2 _ (ans_below hF hc2) (hv.below hc2)).mono ?_
  rintro e w3 ⟨⟨p3, rfl⟩, hb3⟩
  have hc3 := hc2.trans (hb3.mono hc2.size)
  clear hb3
  go_wp2_with fail
  refine (front_float F a0 u _ hu (ans_below hF hc3) (hv.below hc3)).mono ?_
  rintro e w4 ⟨⟨p4, rfl⟩, hb4⟩
  have hc4 := hc3.trans (hb4.mono hc3.size)
  clear hb4
  go_wp2_with fail
  refine (front_nil F a0 _ (ans_below hF hc4) (hv.below hc4)).mono ?_
  rintro e w5 ⟨⟨p5, rfl⟩, hb5⟩
  have hc5 := hc4.trans (hb5.mono hc4.size)
  clear hb5
  go_wp2_with fail
  go_quiet (fail)
  go_wp2
  go_ret
  exact ⟨rfl, below_drewN hc5 _⟩

set_option maxRecDepth 100000 in
set_option maxHeartbeats 1000000 in
theorem main_bad (F : Interp) (a0 a1 a2 : ByteArray) (u : Value) (w : World) (hu : ∃ x, u = .float .f64 x) (hF : F.answers w.tape) (hv : Vars w) (h0 : a0.size ≤ 65536) (h1 : a1.size ≤ 65536) (h2 : a2.size ≤ 65536) (hp : parsed a2 = none) :
    Calls Tryf.prog 3 #[.string a0, .string a1, .string a2, u] w fun e w' => e = .returned (.bool true) ∧ Below w.heap.size w w' := by
  go_enter Tryf.func3, Tryf.ntmps3
  go_wp2_with (go_at_call 4; refine (bytes_any _ _ _ _ _).mono ?_; rintro e w' ⟨⟨b, rfl⟩, rfl⟩)
  · go_ret
    exact ⟨rfl, Below.refl _ _⟩
  refine (front_number_bad F a0 a2 _ hF hv h2 hp).mono ?_
  rintro e w1 ⟨⟨p1, rfl⟩, hb1⟩
  go_wp2_with fail
  refine (front_number_bad F a1 a2 _ (ans_below hF hb1) (hv.below hb1) h2 hp).mono ?_
  rintro e w2 ⟨⟨p2, rfl⟩, hb2⟩
  have hc2 := hb1.trans (hb2.mono hb1.size)
  clear hb1 hb2
  go_wp2_with fail
  refine (front_string F a0 a2 _ (ans_below hF hc2) (hv.below hc2)).mono ?_
  rintro e w3 ⟨⟨p3, rfl⟩, hb3⟩
  have hc3 := hc2.trans (hb3.mono hc2.size)
  clear hb3
  go_wp2_with fail
  refine (front_float F a0 u _ hu (ans_below hF hc3) (hv.below hc3)).mono ?_
  rintro e w4 ⟨⟨p4, rfl⟩, hb4⟩
  have hc4 := hc3.trans (hb4.mono hc3.size)
  clear hb4
  go_wp2_with fail
  refine (front_nil F a0 _ (ans_below hF hc4) (hv.below hc4)).mono ?_
  rintro e w5 ⟨⟨p5, rfl⟩, hb5⟩
  have hc5 := hc4.trans (hb5.mono hc4.size)
  clear hb5
  go_wp2_with fail
  go_quiet (fail)
  go_wp2
  go_ret
  exact ⟨rfl, below_drewN hc5 _⟩

set_option maxRecDepth 100000 in
set_option maxHeartbeats 1000000 in
theorem main_out (a0 a1 a2 : ByteArray) (u : Value) (w : World) (h : ¬ a0.size ≤ 65536 ∨ (a0.size ≤ 65536 ∧ ¬ a1.size ≤ 65536) ∨ (a0.size ≤ 65536 ∧ a1.size ≤ 65536 ∧ ¬ a2.size ≤ 65536)) :
    Calls Tryf.prog 3 #[.string a0, .string a1, .string a2, u] w fun e w' => e = .returned (.bool true) ∧ Below w.heap.size w w' := by
  rcases h with h0 | ⟨h0, h1⟩ | ⟨h0, h1, h2⟩
  all_goals
    go_enter Tryf.func3, Tryf.ntmps3
    go_wp2_with (go_at_call 4; refine (bytes_any _ _ _ _ _).mono ?_; rintro e w' ⟨⟨b, rfl⟩, rfl⟩)
    all_goals
      go_ret
      exact ⟨rfl, Below.refl _ _⟩

theorem main_any (F : Interp) (a0 a1 a2 : ByteArray) (u : Value) (w : World) (hu : ∃ x, u = .float .f64 x) (hF : F.answers w.tape) (hv : Vars w) :
    Calls Tryf.prog 3 #[.string a0, .string a1, .string a2, u] w fun e w' => e = .returned (.bool true) ∧ Below w.heap.size w w' := by
  by_cases h0 : a0.size ≤ 65536
  · by_cases h1 : a1.size ≤ 65536
    · by_cases h2 : a2.size ≤ 65536
      · cases hp : parsed a2 with
        | none => exact main_bad F a0 a1 a2 u w hu hF hv h0 h1 h2 hp
        | some v => exact main_ok F a0 a1 a2 u w hu hF hv h0 h1 h2 v hp
      · exact main_out a0 a1 a2 u w (by simp [h0, h1, h2])
    · exact main_out a0 a1 a2 u w (by simp [h0, h1])
  · exact main_out a0 a1 a2 u w (by simp [h0])
end Go.Proofs.Qxb6608619aFmt
