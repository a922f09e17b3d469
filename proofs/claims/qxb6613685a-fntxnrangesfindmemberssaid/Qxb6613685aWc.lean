/-
  ZZnewTxnRanges: the row of ranges is made and filled.
-/
import Derived.Test.Qxb6613685aWb
import Derived.Deep.RegionHeld3
import Derived.Deep.OwnRows
namespace Go.Proofs.Qxb6613685a
open Go.RowKit

/-- A slice of n numbers of kind k at a: element j is f j. -/
def RowAt (k : IntKind) (w : World) (a : Option Addr) (n : Nat) (f : Nat → Int) : Prop :=
  ∀ j, j < n → ∃ b off, a = some ⟨b, off, none⟩ ∧ w.cell? ⟨b, off + j, none⟩ = some (.int k (f j))

theorem RowAt.below {k : IntKind} {w w' : World} {a : Option Addr} {n : Nat} {f : Nat → Int} (h : RowAt k w a n f) (hb : Below w.heap.size w w') : RowAt k w' a n f := fun j hj => by
  obtain ⟨b, off, rfl, hc⟩ := h j hj
  exact ⟨b, off, rfl, (hb.cell (p := ⟨b, _, none⟩) (by simpa using World.block_lt_of_cell? _ _ hc)).trans hc⟩

theorem info33 : (Try.prog.info? 33).map (fun i => (i.zero, i.size, i.bytes)) = some (some (.agg #[.int .u64 0, .int .u64 0, .int .i64 0]), 3, 24) := by kernel_rfl

theorem make30 (n : Nat) (hn : n ≤ 1000000) (w : World) :
    (Instr.makeSlice 30 (.int .i64 (n : Int)) (.int .i64 (n : Int))).run Try.prog w = .ok (.slice (some ⟨w.heap.size, 0, none⟩) n n) (w.alloc (.cells (madeCells #[.int .u64 0, .int .u64 0, .int .i64 0] (n * 3)) 33)) := by
  obtain ⟨i, hi, hzz⟩ := Option.map_eq_some_iff.1 info33
  simp only [Prod.mk.injEq] at hzz
  obtain ⟨hz, hs, hb⟩ := hzz
  have hr := run_make (P := Try.prog) w 30 33 i _ Try.underlying30 hi hz .i64 .i64 n n (by omega) (Int.le_refl _) (by rw [hb]; omega) (by omega)
  simp only [Int.toNat_natCast, hs] at hr
  exact hr

/-- The row's first k ranges are filled. -/
def Filled (f : Nat → Value) (los his ads : Nat → Int) (k : Nat) : Prop :=
  ∀ j, j < k → f (j * 3) = .int .u64 (los j) ∧ f (j * 3 + 1) = .int .u64 (his j) ∧ f (j * 3 + 2) = .int .i64 (ads j)

theorem Filled.rng {w : World} {b n : Nat} {f : Nat → Value} {los his ads : Nat → Int} (h : w.rowIs b 33 (n * 3) f) (hf : Filled f los his ads n) : Rng w b los his ads n := fun j hj => by
  obtain ⟨h0, h1, h2⟩ := hf j hj
  exact ⟨(h.cell (i := j * 3) (by omega)).trans (by rw [h0]), (h.cell (i := j * 3 + 1) (by omega)).trans (by rw [h1]), (h.cell (i := j * 3 + 2) (by omega)).trans (by rw [h2])⟩

theorem Filled.step {f : Nat → Value} {los his ads : Nat → Int} {k : Nat} (h : Filled f los his ads k) :
    Filled (fun j => if j = k * 3 + 2 then .int .i64 (ads k) else if j = k * 3 + 1 then .int .u64 (his k) else if j = k * 3 then .int .u64 (los k) else f j) los his ads (k + 1) := fun j hj => by
  by_cases e : j = k
  · subst e
    refine ⟨?_, ?_, ?_⟩
    · dsimp only; rw [if_neg (by omega), if_neg (by omega), if_pos rfl]
    · dsimp only; rw [if_neg (by omega), if_pos rfl]
    · dsimp only; rw [if_pos rfl]
  · obtain ⟨h0, h1, h2⟩ := h j (by omega)
    refine ⟨?_, ?_, ?_⟩
    · dsimp only; rw [if_neg (by omega), if_neg (by omega), if_neg (by omega)]; exact h0
    · dsimp only; rw [if_neg (by omega), if_neg (by omega), if_neg (by omega)]; exact h1
    · dsimp only; rw [if_neg (by omega), if_neg (by omega), if_neg (by omega)]; exact h2

theorem row_made (w : World) (n : Nat) : ∃ f, (w.alloc (.cells (madeCells #[.int .u64 0, .int .u64 0, .int .i64 0] (n * 3)) 33)).rowIs w.heap.size 33 (n * 3) f := by
  have h := World.rowIs_alloc w (madeCells #[.int .u64 0, .int .u64 0, .int .i64 0] (n * 3)) 33 (fun i => ((madeCells #[.int .u64 0, .int .u64 0, .int .i64 0] (n * 3))[i]?).getD (.int .u64 0)) (fun i hi => by simp [hi])
  rw [size_madeCells] at h
  exact ⟨_, h⟩

set_option maxHeartbeats 1000000 in
theorem new_any (a0 a1 a2 : Option Addr) (n c0 c1 c2 : Nat) (los his ads : Nat → Int) (w : World) (hn : n ≤ 1000000) (h0 : RowAt .u64 w a0 n los) (h1 : RowAt .u64 w a1 n his) (h2 : RowAt .i64 w a2 n ads) :
    Calls Try.prog 7 #[.slice a0 n c0, .slice a1 n c1, .slice a2 n c2] w fun e w' => ∃ r b, e = .returned (.pointer (some ⟨r, 0, none⟩)) ∧ w'.cell? ⟨r, 0, none⟩ = some (.slice (some ⟨b, 0, none⟩) n n) ∧ Rng w' b los his ads n ∧ b < w'.heap.size ∧ r < w'.heap.size ∧ Below w.heap.size w w' := by
  have hmk := make30 n hn
  obtain ⟨f0, hf0⟩ := row_made w n
  have Hf0 : Hid _ := hf0
  clear hf0
  go_enter Try.func7, Try.ntmps7
  go_wp2
  go_loopg [14] n (fun kx s14 wr => ∃ k : Nat, s14 = .int .i64 k ∧ k ≤ n ∧ n - k ≤ kx ∧ Below w.heap.size w wr ∧ ∃ f, Hid (wr.rowIs w.heap.size 33 (n * 3) f ∧ Filled f los his ads k))
  case atStart => exact ⟨0, rfl, Nat.zero_le _, by omega, (Below.refl _ _).alloc (Nat.le_refl _) _, f0, (⟨Hf0.out, fun j hj => absurd hj (Nat.not_lt_zero _)⟩ : _ ∧ _)⟩
  case round =>
    clear Hf0
    obtain ⟨k, rfl, hk, hm, hB, f, HR⟩ := hrel
    by_cases hlt : k < n
    · obtain ⟨b0, o0, rfl, d0'⟩ := h0 k hlt
      have l0 : b0 < w.heap.size := by simpa using World.block_lt_of_cell? _ _ d0'
      have d0 := (hB.cell (p := ⟨b0, o0 + k, none⟩) l0).trans d0'
      have m0 := World.new_ne w ⟨b0, o0 + k, none⟩ d0'
      obtain ⟨b1, o1, rfl, d1'⟩ := h1 k hlt
      have l1 : b1 < w.heap.size := by simpa using World.block_lt_of_cell? _ _ d1'
      have d1 := (hB.cell (p := ⟨b1, o1 + k, none⟩) l1).trans d1'
      have m1 := World.new_ne w ⟨b1, o1 + k, none⟩ d1'
      obtain ⟨b2, o2, rfl, d2'⟩ := h2 k hlt
      have l2 : b2 < w.heap.size := by simpa using World.block_lt_of_cell? _ _ d2'
      have d2 := (hB.cell (p := ⟨b2, o2 + k, none⟩) l2).trans d2'
      have m2 := World.new_ne w ⟨b2, o2 + k, none⟩ d2'
      have e0 := HR.out.1.cell (i := k * 3) (by omega)
      have e1 := HR.out.1.cell (i := k * 3 + 1) (by omega)
      have e2 := HR.out.1.cell (i := k * 3 + 2) (by omega)
      have f0 := HR.out.1.frozen (k * 3)
      have f1 := HR.out.1.frozen (k * 3 + 1)
      have f2 := HR.out.1.frozen (k * 3 + 2)
      have i0 : (0 : Int) ≤ (k : Int) := by omega
      have i1 : (k : Int) < (n : Int) := by omega
      go_wp2
      go_region_held3 (fun w' => w'.cell? ⟨b0, o0 + k, none⟩ = some (.int .u64 (los k)) ∧ w'.cell? ⟨b1, o1 + k, none⟩ = some (.int .u64 (his k)) ∧ w'.cell? ⟨b2, o2 + k, none⟩ = some (.int .i64 (ads k))) (go_keep) (fail)
      go_wp2
      go_roundg (n - (k + 1))
      case measure => omega
      case rel =>
        exact ⟨k + 1, by go_num, by omega, Nat.le_refl _, (((hB.setCell (Nat.le_refl _) _).setCell (Nat.le_refl _) _).setCell (Nat.le_refl _) _).drew, _, (⟨((((HR.out.1.set (k * 3) _).set (k * 3 + 1) _).set (k * 3 + 2) _).drew), HR.out.2.step⟩ : _ ∧ _)⟩
    · obtain rfl : k = n := by omega
      go_wp2
      go_ret
      have hA := HR.out.1.alloc (.cells #[.slice (some ⟨w.heap.size, 0, none⟩) k k, .map none, .int .i64 0, .int .i64 0] 36)
      refine ⟨wr.heap.size, w.heap.size, rfl, by go_simp, Filled.rng hA HR.out.2, hA.lt, by simp, hB.alloc hB.size _⟩
end Go.Proofs.Qxb6613685a
