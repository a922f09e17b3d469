/-
  slices.BinarySearchFunc over a row of ranges that lies in one block.
-/
import Derived.Test.Qxb6613685aWa
namespace Go.Proofs.Qxb6613685a
open Go.RowKit

/-- The block b holds n ranges: los, his, ads, three cells a range. -/
def Rng (w : World) (b : Nat) (los his ads : Nat → Int) (n : Nat) : Prop :=
  ∀ j, j < n → w.cell? ⟨b, j * 3, none⟩ = some (.int .u64 (los j)) ∧ w.cell? ⟨b, j * 3 + 1, none⟩ = some (.int .u64 (his j)) ∧ w.cell? ⟨b, j * 3 + 2, none⟩ = some (.int .i64 (ads j))

theorem Rng.below {w w' : World} {b : Nat} {los his ads : Nat → Int} {n B : Nat} (h : Rng w b los his ads n) (hb : Below B w w') (hB : b < B) : Rng w' b los his ads n := fun j hj => by
  obtain ⟨h0, h1, h2⟩ := h j hj
  exact ⟨(hb.cell (p := ⟨b, _, none⟩) hB).trans h0, (hb.cell (p := ⟨b, _, none⟩) hB).trans h1, (hb.cell (p := ⟨b, _, none⟩) hB).trans h2⟩

theorem clo_lt (l h a t : Int) (w : World) (hlt : h < t) :
    Calls Try.prog 12 #[.agg #[.int .u64 l, .int .u64 h, .int .i64 a], .int .u64 t] w fun e w' => e = .returned (.int .i64 (-1)) ∧ Below w.heap.size w w' :=
  (clo_any l h a t w).mono fun e w' ⟨he, hw⟩ => ⟨by rw [he, cmpI_lt hlt], by rw [hw]; exact (Below.refl _ _).alloc (Nat.le_refl _) _⟩
theorem clo_ge (l h a t : Int) (w : World) (hge : ¬ h < t) :
    Calls Try.prog 12 #[.agg #[.int .u64 l, .int .u64 h, .int .i64 a], .int .u64 t] w fun e w' => (∃ c : Int, 0 ≤ c ∧ e = .returned (.int .i64 c)) ∧ Below w.heap.size w w' :=
  (clo_any l h a t w).mono fun e w' ⟨he, hw⟩ => ⟨⟨cmpI h t, by have := @cmpI_neg h t; omega, he⟩, by rw [hw]; exact (Below.refl _ _).alloc (Nat.le_refl _) _⟩

set_option maxHeartbeats 1000000 in
theorem search_any (b n cap : Nat) (los his ads : Nat → Int) (t : Int) (w : World) (hn : n ≤ 1000000) (hR : Rng w b los his ads n) (hb : b < w.heap.size)
    (i : Nat) (hi : i ≤ n) (hlo : ∀ j, j < i → his j < t) (hup : ∀ j, i ≤ j → j < n → t ≤ his j) :
    Calls Try.prog 11 #[.slice (some ⟨b, 0, none⟩) n cap, .int .u64 t, .func (.func 12) #[] #[]] w fun e w' => (∃ c, e = .returned (.tuple #[.int .i64 i, .bool c])) ∧ Below w.heap.size w w' := by
  go_enter Try.func11, Try.ntmps11
  go_wp2
  go_loopg [9, 10] n (fun kx s9 s10 wr => ∃ lo hi : Nat, s9 = .int .i64 lo ∧ s10 = .int .i64 hi ∧ lo ≤ i ∧ i ≤ hi ∧ hi ≤ n ∧ hi - lo ≤ kx ∧ Below w.heap.size w wr)
  case atStart => exact ⟨0, n, rfl, rfl, Nat.zero_le _, hi, Nat.le_refl _, by omega, Below.refl _ _⟩
  case round =>
    obtain ⟨lo, hi', rfl, rfl, h1, h2, h3, h4, hB⟩ := hrel
    have hR' := hR.below hB hb
    by_cases hlt : lo < hi'
    · obtain ⟨c0, c1, c2⟩ := hR' ((lo + hi') / 2) (by omega)
      by_cases hc : his ((lo + hi') / 2) < t
      · have hm : (lo + hi') / 2 < i := Nat.lt_of_not_le fun hle => by have := hup _ hle (by omega); omega
        go_wp2_with (go_at_call 12; refine (clo_lt _ _ _ _ _ hc).mono ?_; rintro e w1 ⟨rfl, hw1⟩)
        go_roundg (hi' - ((lo + hi') / 2 + 1))
        case measure => omega
        case rel => exact ⟨(lo + hi') / 2 + 1, hi', by rw [show ((lo : Int) + (hi' : Int)) / 2 + 1 = (((lo + hi') / 2 + 1 : Nat) : Int) by omega], rfl, by omega, h2, h3, by omega, hB.trans (hw1.mono hB.size)⟩
      · have hm : i ≤ (lo + hi') / 2 := Nat.le_of_not_lt fun hle => hc (hlo _ hle)
        go_wp2_with (go_at_call 12; refine (clo_ge _ _ _ _ _ hc).mono ?_; rintro e w1 ⟨⟨c, hc0, rfl⟩, hw1⟩)
        go_roundg ((lo + hi') / 2 - lo)
        case measure => omega
        case rel => exact ⟨lo, (lo + hi') / 2, rfl, by rw [show ((lo : Int) + (hi' : Int)) / 2 = (((lo + hi') / 2 : Nat) : Int) by omega], h1, hm, by omega, by omega, hB.trans (hw1.mono hB.size)⟩
    · obtain rfl : lo = i := by omega
      by_cases hin : lo < n
      · obtain ⟨c0, c1, c2⟩ := hR' lo hin
        go_wp2_with (go_at_call 12; refine (clo_any _ _ _ _ _).mono ?_; rintro e w1 ⟨rfl, rfl⟩)
        go_ret2
        exact ⟨⟨_, rfl⟩, hB.alloc hB.size _⟩
      · go_wp2
        go_ret2
        exact ⟨⟨_, rfl⟩, hB⟩
end Go.Proofs.Qxb6613685a
