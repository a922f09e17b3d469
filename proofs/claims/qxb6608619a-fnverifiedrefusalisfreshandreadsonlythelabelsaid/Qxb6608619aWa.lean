import Derived.Test.Qxb6608619aProg
import Derived.WalkKit
import Derived.Outline
import Derived.LaidEqlPtr
import Derived.Deep.QuietTactic
import Derived.BigQuiet
namespace Go.Proofs.Qxb6608619a
open Go.RowKit
set_option linter.unusedVariables false

/-- The bound on the total length: whatever it answers, it returns a bool and the world stands. -/
theorem bytes_any (a0 : ByteArray) (a1 a2 a3 : Int) (a4 a5 a6 a7 a8 a9 : ByteArray) (w : World) :
    Calls Try.prog 4 #[.string a0, .int .i64 a1, .int .i64 a2, .int .i64 a3, .string a4, .string a5, .string a6, .string a7, .string a8, .string a9] w fun e w' => (∃ b, e = .returned (.bool b)) ∧ w' = w := by
  go_enter Try.func4, Try.ntmps4
  go_wp2
  all_goals (go_ret; exact ⟨⟨_, rfl⟩, rfl⟩)

theorem new_any (a0 : ByteArray) (a1 a2 a3 : Int) (a4 a5 a6 a7 : ByteArray) (w : World) :
    Calls Try.prog 5 #[.string a0, .int .i64 a1, .int .i64 a2, .int .i64 a3, .string a4, .string a5, .string a6, .string a7] w fun e w' => e = .returned (.pointer (some ⟨w.heap.size, 0, none⟩)) ∧ w' = w.alloc (.cells #[.string a0, .int .i64 a1, .int .i64 a2, .int .i64 a3, .string a4, .string a5, .string a6, .string a7, .map none, .int .u64 0, .int .u64 0, .pointer none, .slice none 0 0] 44) := by
  go_enter Try.func5, Try.ntmps5
  go_wp2
  go_ret
  exact ⟨rfl, rfl⟩
theorem ref_any (b : Nat) (r f l : ByteArray) (w : World) (hl : w.cell? ⟨b, 7, none⟩ = some (.string l)) :
    Calls Try.prog 6 #[.pointer (some ⟨b, 0, none⟩), .string r, .string f] w fun e w' => e = .returned (.pointer (some ⟨w.heap.size, 0, none⟩)) ∧ w' = w.alloc (.cells #[.string r, .string f, .string l, .string ⟨#[]⟩] 30) := by
  go_enter Try.func6, Try.ntmps6
  go_wp2
  go_ret
  exact ⟨rfl, rfl⟩

theorem info30 : (Try.prog.info? 30).map (fun i => i.size) = some 4 := by kernel_rfl
theorem eql_new (w u : World) (a b : Addr) (ca cb : Array Value) (hne : a ≠ b) (ha : w.heap[a.block]? = some (.cells ca 30 (0, 0))) (hb : w.heap[b.block]? = some (.cells cb 30 (0, 0))) :
    (binOp .eql 26 (.pointer (some a)) (.pointer (some b))).run Try.prog w = .ok (.bool false) w := by
  have h := info30
  cases hj : Try.prog.info? 30 with
  | none => rw [hj] at h; simp at h
  | some j =>
    rw [hj] at h
    simp at h
    exact run_eql_ptr_other w Try.underlying26 hj (by omega) hne ha hb
theorem eql_a_a2 (w : World) (o1 o2 : Obj) (c3 c4 c5 : Array Value) :
    (binOp .eql 26 (.pointer (some ⟨w.heap.size + 1 + 1, 0, none⟩)) (.pointer (some ⟨w.heap.size + 1 + 1 + 1, 0, none⟩))).run Try.prog (((((w.alloc o1).alloc o2).alloc (.cells c3 30)).alloc (.cells c4 30)).alloc (.cells c5 30))
      = .ok (.bool false) (((((w.alloc o1).alloc o2).alloc (.cells c3 30)).alloc (.cells c4 30)).alloc (.cells c5 30)) :=
  eql_new _ w _ _ c3 c4 (by simp) (by show (((((w.heap.push _).push _).push _).push _).push _)[_]? = _; simp only [Array.getElem?_push, Array.size_push]; repeat (first | rw [if_neg (by omega)] | rw [if_pos trivial])) (by show (((((w.heap.push _).push _).push _).push _).push _)[_]? = _; simp only [Array.getElem?_push, Array.size_push]; repeat (first | rw [if_neg (by omega)] | rw [if_pos trivial]))
theorem eql_a_b (w : World) (o1 o2 : Obj) (c3 c4 c5 : Array Value) :
    (binOp .eql 26 (.pointer (some ⟨w.heap.size + 1 + 1, 0, none⟩)) (.pointer (some ⟨w.heap.size + 1 + 1 + 1 + 1, 0, none⟩))).run Try.prog (((((w.alloc o1).alloc o2).alloc (.cells c3 30)).alloc (.cells c4 30)).alloc (.cells c5 30))
      = .ok (.bool false) (((((w.alloc o1).alloc o2).alloc (.cells c3 30)).alloc (.cells c4 30)).alloc (.cells c5 30)) :=
  eql_new _ w _ _ c3 c5 (by simp) (by show (((((w.heap.push _).push _).push _).push _).push _)[_]? = _; simp only [Array.getElem?_push, Array.size_push]; repeat (first | rw [if_neg (by omega)] | rw [if_pos trivial])) (by show (((((w.heap.push _).push _).push _).push _).push _)[_]? = _; simp only [Array.getElem?_push, Array.size_push]; repeat (first | rw [if_neg (by omega)] | rw [if_pos trivial]))

theorem grown_drewN {W w' : World} {n : Nat} (h : Grown W w') : Grown W (w'.drewN n) := h

set_option maxRecDepth 100000 in
set_option maxHeartbeats 1000000 in
theorem main_in (a0 : ByteArray) (a1 a2 a3 : Int) (a4 a5 a6 a7 a8 a9 : ByteArray) (w : World) (h0 : a0.size ≤ 65536) (h4 : a4.size ≤ 65536) (h5 : a5.size ≤ 65536) (h6 : a6.size ≤ 65536) (h7 : a7.size ≤ 65536) (h8 : a8.size ≤ 65536) (h9 : a9.size ≤ 65536) :
    Calls Try.prog 3 #[.string a0, .int .i64 a1, .int .i64 a2, .int .i64 a3, .string a4, .string a5, .string a6, .string a7, .string a8, .string a9] w fun e w' => e = .returned (.bool true) ∧ Grown w w' := by
  have e1 := eql_a_a2 w
  have e2 := eql_a_b w
  go_enter Try.func3, Try.ntmps3
  go_wp2_with (first
    | (go_at_call 4; refine (bytes_any _ _ _ _ _ _ _ _ _ _ _).mono ?_; rintro e w' ⟨⟨b, rfl⟩, rfl⟩)
    | (go_at_call 5; refine (new_any _ _ _ _ _ _ _ _ _).mono ?_; rintro e w' ⟨rfl, rfl⟩)
    | (go_at_call 6; refine (ref_any _ _ _ a7 _ ?_).mono ?_; (· go_simp); rintro e w' ⟨rfl, rfl⟩))
  · go_ret
    exact ⟨rfl, Grown.refl _⟩
  go_quiet (fail)
  go_wp2
  go_quiet (fail)
  go_wp2
  go_ret
  exact ⟨rfl, grown_drewN (grown_drewN (((((Grown.refl _).alloc _ _).alloc _ _).alloc _ _).alloc _ _ |>.alloc _ _))⟩

set_option maxRecDepth 100000 in
set_option maxHeartbeats 1000000 in
theorem main_out (a0 : ByteArray) (a1 a2 a3 : Int) (a4 a5 a6 a7 a8 a9 : ByteArray) (w : World)
    (h : ¬ a0.size ≤ 65536 ∨ (a0.size ≤ 65536 ∧ ¬ a4.size ≤ 65536) ∨ (a0.size ≤ 65536 ∧ a4.size ≤ 65536 ∧ ¬ a5.size ≤ 65536) ∨ (a0.size ≤ 65536 ∧ a4.size ≤ 65536 ∧ a5.size ≤ 65536 ∧ ¬ a6.size ≤ 65536)
      ∨ (a0.size ≤ 65536 ∧ a4.size ≤ 65536 ∧ a5.size ≤ 65536 ∧ a6.size ≤ 65536 ∧ ¬ a7.size ≤ 65536) ∨ (a0.size ≤ 65536 ∧ a4.size ≤ 65536 ∧ a5.size ≤ 65536 ∧ a6.size ≤ 65536 ∧ a7.size ≤ 65536 ∧ ¬ a8.size ≤ 65536)
      ∨ (a0.size ≤ 65536 ∧ a4.size ≤ 65536 ∧ a5.size ≤ 65536 ∧ a6.size ≤ 65536 ∧ a7.size ≤ 65536 ∧ a8.size ≤ 65536 ∧ ¬ a9.size ≤ 65536)) :
    Calls Try.prog 3 #[.string a0, .int .i64 a1, .int .i64 a2, .int .i64 a3, .string a4, .string a5, .string a6, .string a7, .string a8, .string a9] w fun e w' => e = .returned (.bool true) ∧ Grown w w' := by
  rcases h with h0 | ⟨h0, h4⟩ | ⟨h0, h4, h5⟩ | ⟨h0, h4, h5, h6⟩ | ⟨h0, h4, h5, h6, h7⟩ | ⟨h0, h4, h5, h6, h7, h8⟩ | ⟨h0, h4, h5, h6, h7, h8, h9⟩
  all_goals
    go_enter Try.func3, Try.ntmps3
    go_wp2_with (go_at_call 4; refine (bytes_any _ _ _ _ _ _ _ _ _ _ _).mono ?_; rintro e w' ⟨⟨b, rfl⟩, rfl⟩)
    all_goals
      go_ret
      exact ⟨rfl, Grown.refl _⟩

theorem main_any (a0 : ByteArray) (a1 a2 a3 : Int) (a4 a5 a6 a7 a8 a9 : ByteArray) (w : World) :
    Calls Try.prog 3 #[.string a0, .int .i64 a1, .int .i64 a2, .int .i64 a3, .string a4, .string a5, .string a6, .string a7, .string a8, .string a9] w fun e w' => e = .returned (.bool true) ∧ Grown w w' := by
  by_cases h0 : a0.size ≤ 65536
  · by_cases h4 : a4.size ≤ 65536
    · by_cases h5 : a5.size ≤ 65536
      · by_cases h6 : a6.size ≤ 65536
        · by_cases h7 : a7.size ≤ 65536
          · by_cases h8 : a8.size ≤ 65536
            · by_cases h9 : a9.size ≤ 65536
              · exact main_in a0 a1 a2 a3 a4 a5 a6 a7 a8 a9 w h0 h4 h5 h6 h7 h8 h9
              · exact main_out a0 a1 a2 a3 a4 a5 a6 a7 a8 a9 w (by simp [h0, h4, h5, h6, h7, h8, h9])
            · exact main_out a0 a1 a2 a3 a4 a5 a6 a7 a8 a9 w (by simp [h0, h4, h5, h6, h7, h8])
          · exact main_out a0 a1 a2 a3 a4 a5 a6 a7 a8 a9 w (by simp [h0, h4, h5, h6, h7])
        · exact main_out a0 a1 a2 a3 a4 a5 a6 a7 a8 a9 w (by simp [h0, h4, h5, h6])
      · exact main_out a0 a1 a2 a3 a4 a5 a6 a7 a8 a9 w (by simp [h0, h4, h5])
    · exact main_out a0 a1 a2 a3 a4 a5 a6 a7 a8 a9 w (by simp [h0, h4])
  · exact main_out a0 a1 a2 a3 a4 a5 a6 a7 a8 a9 w (by simp [h0])
end Go.Proofs.Qxb6608619a
