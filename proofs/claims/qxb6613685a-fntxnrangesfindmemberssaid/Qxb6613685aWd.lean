/-
  The law's own helpers: the bound on lengths, the premise.
-/
import Derived.Test.Qxb6613685aWc
import Derived.Test.Qxb6613685aPl
import Derived.Deep.QuietTactic
import Derived.BigQuiet
import Derived.WalkSmall
namespace Go.Proofs.Qxb6613685a
open Go.RowKit
set_option linter.unusedVariables false

theorem bytes5 (a0 a1 a2 : Option Addr) (n0 c0 n1 c1 n2 c2 : Nat) (t : Int) (w : World) :
    Calls Try.prog 5 #[.slice a0 n0 c0, .slice a1 n1 c1, .slice a2 n2 c2, .int .u64 t] w fun e w' => (∃ b, e = .returned (.bool b)) ∧ w' = w := by
  go_enter Try.func5, Try.ntmps5
  go_wp2
  all_goals (go_ret; exact ⟨⟨_, rfl⟩, rfl⟩)
theorem bytes9 (a0 a1 a2 : Option Addr) (n0 c0 n1 c1 n2 c2 : Nat) (t : Int) (w : World) :
    Calls Try.prog 9 #[.slice a0 n0 c0, .slice a1 n1 c1, .slice a2 n2 c2, .int .u64 t] w fun e w' => (∃ b, e = .returned (.bool b)) ∧ w' = w := by
  go_enter Try.func9, Try.ntmps9
  go_wp2
  all_goals (go_ret; exact ⟨⟨_, rfl⟩, rfl⟩)

theorem find_any (r b n cap : Nat) (los his ads : Nat → Int) (t : Int) (w : World) (hn : n ≤ 1000000) (hc : w.cell? ⟨r, 0, none⟩ = some (.slice (some ⟨b, 0, none⟩) n cap)) (hR : Rng w b los his ads n) (hb : b < w.heap.size)
    (i : Nat) (hi : i ≤ n) (hlo : ∀ j, j < i → his j < t) (hup : ∀ j, i ≤ j → j < n → t ≤ his j) :
    Calls Try.prog 8 #[.pointer (some ⟨r, 0, none⟩), .int .u64 t] w fun e w' => e = .returned (.int .i64 i) ∧ Below w.heap.size w w' := by
  have hs := search_any b n cap los his ads t w hn hR hb i hi hlo hup
  clear hlo hup
  go_enter Try.func8, Try.ntmps8
  go_wp2_with (first | (go_at_call 11; refine hs.mono ?_; rintro e w1 ⟨⟨c, rfl⟩, hb1⟩) | go_in)
  go_ret
  exact ⟨rfl, hb1⟩

set_option maxHeartbeats 1000000 in
theorem prem_eq (a0 a1 a2 : Option Addr) (n c0 c1 c2 : Nat) (los his : Nat → Int) (w : World) (hn : n ≤ 1000000) (h0 : RowAt .u64 w a0 n los) (h1 : RowAt .u64 w a1 n his) :
    Calls Try.prog 6 #[.slice a0 n c0, .slice a1 n c1, .slice a2 n c2] w fun e w' => (∃ r, e = .returned (.bool r) ∧ (r = true → Ord los his n)) ∧ Below w.heap.size w w' := by
  go_enter Try.func6, Try.ntmps6
  go_wp2
  go_loopg [7] n (fun kx s7 wr => ∃ k : Nat, s7 = .int .i64 k ∧ k ≤ n ∧ n - k ≤ kx ∧ Below w.heap.size w wr ∧ Hid (Ord los his k))
  case atStart => exact ⟨0, rfl, Nat.zero_le _, by omega, Below.refl _ _, fun j hj => absurd hj (Nat.not_lt_zero _)⟩
  case round =>
    obtain ⟨k, rfl, hk, hm, hB, HO⟩ := hrel
    by_cases hlt : k < n
    · obtain ⟨b0, o0, rfl, d0⟩ := h0.below hB k hlt
      obtain ⟨b1, o1, rfl, d1⟩ := h1.below hB k hlt
      have i0 : (0 : Int) ≤ (k : Int) := by omega
      have i1 : (k : Int) < (n : Int) := by omega
      by_cases p1 : los k < 1
      · go_wp2
        go_quiet (fail)
        go_wp2
        go_ret
        exact ⟨⟨_, rfl, fun h => by cases h⟩, below_drewN hB _⟩
      by_cases p2 : his k < los k
      · go_wp2
        go_quiet (fail)
        go_wp2
        go_ret
        exact ⟨⟨_, rfl, fun h => by cases h⟩, below_drewN hB _⟩
      by_cases p3 : 0 < k
      · obtain ⟨b1', o1', e1, d1'⟩ := h1.below hB (k - 1) (by omega)
        simp only [Option.some.injEq, Addr.mk.injEq] at e1
        obtain ⟨rfl, rfl, _⟩ := e1
        have j0 : (0 : Int) < (k : Int) := by omega
        have j1 : (0 : Int) ≤ (k : Int) - 1 := by omega
        have j2 : (k : Int) - 1 < (n : Int) := by omega
        have j4 : (1 : Int) ≤ (k : Int) := by omega
        have j3 : IntKind.i64.wrap ((k : Int) - 1) = (k : Int) - 1 := by rw [IntKind.wrap_i64]; omega
        generalize hx : his (k - 1) = x at d1'
        have HX : Hid (his (k - 1) = x) := hx
        clear hx
        rcases Int.lt_or_le x (los k) with p4 | p4
        rotate_left
        · go_wp2
          go_quiet (fail)
          go_wp2
          go_quiet (fail)
          go_wp2
          go_ret
          exact ⟨⟨_, rfl, fun h => by cases h⟩, below_drewN (below_drewN hB _) _⟩
        · go_wp2
          go_quiet (fail)
          go_wp2
          go_quiet (fail)
          go_wp2
          · go_ret
            exact ⟨⟨_, rfl, fun h => by cases h⟩, below_drewN (below_drewN hB _) _⟩
          · go_roundg (n - (k + 1))
            case measure => omega
            case rel => exact ⟨k + 1, by go_num, by omega, Nat.le_refl _, below_drewN hB _, fun j hj => if e : j < k then HO.out j e else by obtain rfl : j = k := (by omega); exact ⟨by omega, fun _ => by rw [HX.out]; exact p4⟩⟩
      · have p4 : decide ((0 : Int) < (k : Int)) = false := by simpa using p3
        go_wp2
        go_quiet (fail)
        go_wp2
        go_quiet (fail)
        go_wp2
        go_roundg (n - (k + 1))
        case measure => omega
        case rel => exact ⟨k + 1, by go_num, by omega, Nat.le_refl _, below_drewN hB _, fun j hj => if e : j < k then HO.out j e else by obtain rfl : j = k := (by omega); exact ⟨by omega, fun h => absurd h p3⟩⟩
    · obtain rfl : k = n := by omega
      go_wp2
      go_ret
      exact ⟨⟨_, rfl, fun _ => HO.out⟩, hB⟩

theorem prem_any (a0 a1 a2 : Option Addr) (n0 c0 n1 c1 n2 c2 : Nat) (los his : Nat → Int) (w : World) (hn : n0 ≤ 1000000) (hn1 : n1 ≤ 1000000) (hn2 : n2 ≤ 1000000) (h0 : RowAt .u64 w a0 n0 los) (h1 : RowAt .u64 w a1 n1 his) :
    Calls Try.prog 6 #[.slice a0 n0 c0, .slice a1 n1 c1, .slice a2 n2 c2] w fun e w' => (∃ r, e = .returned (.bool r) ∧ (r = true → n1 = n0 ∧ n2 = n0 ∧ Ord los his n0)) ∧ Below w.heap.size w w' := by
  by_cases e1 : n1 = n0
  · by_cases e2 : n2 = n0
    · subst e1 e2
      exact (prem_eq a0 a1 a2 n2 c0 c1 c2 los his w hn h0 h1).mono fun e w' ⟨⟨r, he, hr⟩, hb⟩ => ⟨⟨r, he, fun h => ⟨rfl, rfl, hr h⟩⟩, hb⟩
    · have p1 : ((n1 : Int) != (n0 : Int)) = false := by rw [e1]; simp
      have p2 : ((n2 : Int) != (n0 : Int)) = true := by rw [bne_iff_ne]; omega
      clear e1 e2
      go_enter Try.func6, Try.ntmps6
      go_wp2
      go_ret
      exact ⟨⟨_, rfl, fun h => by cases h⟩, Below.refl _ _⟩
  · have p1 : ((n1 : Int) != (n0 : Int)) = true := by rw [bne_iff_ne]; omega
    clear e1
    go_enter Try.func6, Try.ntmps6
    go_wp2
    go_ret
    exact ⟨⟨_, rfl, fun h => by cases h⟩, Below.refl _ _⟩
end Go.Proofs.Qxb6613685a
