/-
  udpHeader at every order; capBytesEqual; ZZspanAt; ZZpendingView.
-/
import Derived.Test.Qxb6614074aFmtWb
namespace Go.Proofs.Qxb6614074aFmt
open Go.RowKit
set_option linter.unusedVariables false

set_option maxRecDepth 100000 in
set_option maxHeartbeats 2000000 in
theorem udp_any (z : Option Addr) (b o n c : Nat) (x0 x1 x2 x3 : Int) (w : World) (hn : 8 ≤ n) (hc : n ≤ c) (c0 : w.cell? ⟨b, o, none⟩ = some (.int .u8 x0)) (c1 : w.cell? ⟨b, o + 1, none⟩ = some (.int .u8 x1)) (c2 : w.cell? ⟨b, o + 2, none⟩ = some (.int .u8 x2)) (c3 : w.cell? ⟨b, o + 2 + 1, none⟩ = some (.int .u8 x3)) :
    Calls Tryf.prog 17 #[.agg #[.int .u64 0, .int .u64 0, .pointer z], .agg #[.int .u64 0, .int .u64 0, .pointer z], .slice (some ⟨b, o, none⟩) n c] w fun e w' =>
      e = .returned (.tuple #[.agg #[.int .u64 0, .int .u64 0, .pointer z, .int .u16 (be16 x0 x1), .int .u64 0, .int .u64 0, .pointer z, .int .u16 (be16 x2 x3), .slice none 0 0], .bool true]) ∧ Below w.heap.size w w' := by
  have h0 : ¬ (c = 0) := by omega
  have h2 : ¬ (c = 2) := by omega
  have h3 : (2 : Int) ≤ (n : Int) := by omega
  go_enter Tryf.func17, Tryf.ntmps17
  go_wp2_with fail
  go_region_held3 (fun w' => w'.cell? ⟨w.heap.size, 0, none⟩ = some (.int .u64 0) ∧ w'.cell? ⟨w.heap.size, 1, none⟩ = some (.int .u64 0) ∧ w'.cell? ⟨w.heap.size, 2, none⟩ = some (.pointer z) ∧ w'.cell? ⟨w.heap.size + 1, 0, none⟩ = some (.int .u64 0) ∧ w'.cell? ⟨w.heap.size + 1, 1, none⟩ = some (.int .u64 0) ∧ w'.cell? ⟨w.heap.size + 1, 2, none⟩ = some (.pointer z))
    (refine ⟨?_, ?_, ?_, ?_, ?_, ?_⟩ <;> go_simp)
    (first
    | (go_at_call 23; refine (from_any _ _ _ _ _).mono ?_; rintro e w1 ⟨rfl, rfl⟩)
    | (go_at_call 24; refine (be16_any _ _ _ _ x0 x1 _ ?_ ?_ ?_).mono ?_; omega; (repeat (first | exact c0 | refine cellN ?_ _ | refine cellA ?_ _)); (repeat (first | exact c1 | refine cellN ?_ _ | refine cellA ?_ _)); rintro e w1 ⟨rfl, q, rfl⟩)
    | (go_at_call 24; refine (be16_any _ _ _ _ x2 x3 _ ?_ ?_ ?_).mono ?_; omega; (repeat (first | exact c2 | refine cellN ?_ _ | refine cellA ?_ _)); (repeat (first | exact c3 | refine cellN ?_ _ | refine cellA ?_ _)); rintro e w1 ⟨rfl, q, rfl⟩))
  go_wp2_with fail
  go_returns
  refine ⟨rfl, ?_⟩
  repeat' (first | with_reducible exact Below.refl _ _ | with_reducible refine Below.alloc ?_ ?_ _ | with_reducible refine Below.setCell ?_ ?_ _ | with_reducible refine below_drewN ?_ _)
  all_goals (simp; try omega)

set_option maxHeartbeats 1000000 in
/-- capBytesEqual over two slices that hold the same. -/
theorem equal_any (b1 b2 o2 n k1 k2 : Nat) (f : Nat → Int) (w : World) (hn : n ≤ 65535) (h1 : ∀ j, j < n → w.cell? ⟨b1, j, none⟩ = some (.int .u8 (f j))) (h2 : ∀ j, j < n → w.cell? ⟨b2, o2 + j, none⟩ = some (.int .u8 (f j))) :
    Calls Tryf.prog 8 #[.slice (some ⟨b1, 0, none⟩) n k1, .slice (some ⟨b2, o2, none⟩) n k2] w fun e w' => e = .returned (.bool true) ∧ Below w.heap.size w w' := by
  go_enter Tryf.func8, Tryf.ntmps8
  go_wp2
  go_loopg [5] n (fun kx s5 wr => ∃ k : Nat, s5 = .int .i64 k ∧ k ≤ n ∧ n - k ≤ kx ∧ ∃ q, wr = w.drewN q)
  case atStart => exact ⟨0, rfl, Nat.zero_le _, by omega, 0, rfl⟩
  case round =>
    obtain ⟨k, rfl, hk, hm, q, rfl⟩ := hrel
    by_cases hlt : k < n
    · have d1 := h1 k hlt
      have d2 := h2 k hlt
      have i0 : (0 : Int) ≤ (k : Int) := by omega
      have i1 : (k : Int) < (n : Int) := by omega
      go_wp2
      go_quiet (fail)
      go_wp2
      go_roundg (n - (k + 1))
      case measure => omega
      case rel => exact ⟨k + 1, by go_num, by omega, Nat.le_refl _, _, rfl⟩
    · obtain rfl : k = n := by omega
      go_wp2
      go_ret
      exact ⟨rfl, below_drewN (Below.refl _ _) _⟩

theorem span_any (p b c : Nat) (i : Nat) (l h a : Int) (w : World) (hi : i < 2) (hs : w.cell? ⟨p, 23, none⟩ = some (.slice (some ⟨b, 0, none⟩) 2 c)) (c0 : w.cell? ⟨b, i * 3, none⟩ = some (.int .i64 l)) (c1 : w.cell? ⟨b, i * 3 + 1, none⟩ = some (.int .i64 h)) (c2 : w.cell? ⟨b, i * 3 + 2, none⟩ = some (.int .i64 a)) :
    Calls Tryf.prog 9 #[.pointer (some ⟨p, 0, none⟩), .int .i64 i] w fun e w' => e = .returned (.tuple #[.int .i64 l, .int .i64 h, .int .i64 a]) ∧ Below w.heap.size w w' := by
  have i0 : (0 : Int) ≤ (i : Int) := by omega
  have i1 : (i : Int) < 2 := by omega
  go_enter Tryf.func9, Tryf.ntmps9
  go_wp2
  go_quiet (fail)
  go_wp2
  go_returns
  exact ⟨rfl, below_drewN ((Below.refl _ _).alloc (Nat.le_refl _) _) _⟩
end Go.Proofs.Qxb6614074aFmt
