/-
  The small functions: zzBytes, skipOptions, BEUint64, Uint16, AddrPortFrom, Port.
-/
import Derived.Test.Qxb6614074aFmtWa
import Derived.Deep.QuietTactic
import Derived.Deep.RegionHeld3
import Derived.BigQuiet
import Derived.Deep.RegionWith
import Derived.Handy
namespace Go.Proofs.Qxb6614074aFmt
open Go.RowKit
set_option linter.unusedVariables false

theorem bytes_any (x k : Int) (a : Option Addr) (n c : Nat) (s : Value) (w : World) :
    Calls Tryf.prog 4 #[.int .i64 x, .slice a n c, .int .i64 k, s] w fun e w' => (∃ b, e = .returned (.bool b)) ∧ w' = w := by
  go_enter Tryf.func4, Tryf.ntmps4
  go_wp2
  all_goals
    go_ret
    exact ⟨⟨_, rfl⟩, rfl⟩

theorem skip_udp (a : Option Addr) (n c : Nat) (w : World) :
    Calls Tryf.prog 15 #[.int .u8 17, .slice a n c] w fun e w' => e = .returned (.tuple #[.int .u8 17, .slice a n c, .bool true]) ∧ w' = w := by
  go_enter Tryf.func15, Tryf.ntmps15
  go_wp2
  go_loop [0, 1] (fun x y => x = .int .u8 17 ∧ y = .slice a n c) (fun _ _ => 0)
  case atStart => exact ⟨rfl, rfl⟩
  case round =>
    obtain ⟨rfl, rfl⟩ := hrel
    go_wp2
    go_returns
    exact ⟨rfl, rfl⟩

theorem port_any (a b : Int) (c : Option Addr) (p : Int) (w : World) :
    Calls Tryf.prog 12 #[.agg #[.int .u64 a, .int .u64 b, .pointer c, .int .u16 p]] w fun e w' => e = .returned (.int .u16 p) ∧ Below w.heap.size w w' := by
  go_enter Tryf.func12, Tryf.ntmps12
  go_wp2
  go_ret
  exact ⟨rfl, (Below.refl _ _).alloc (Nat.le_refl _) _⟩

theorem from_any (a b : Int) (c : Option Addr) (p : Int) (w : World) :
    Calls Tryf.prog 23 #[.agg #[.int .u64 a, .int .u64 b, .pointer c], .int .u16 p] w fun e w' => e = .returned (.agg #[.int .u64 a, .int .u64 b, .pointer c, .int .u16 p]) ∧ w' = (w.alloc (.cells #[.int .u64 a, .int .u64 b, .pointer c] 44)).alloc (.cells #[.int .u64 a, .int .u64 b, .pointer c, .int .u16 p] 53) := by
  go_enter Tryf.func23, Tryf.ntmps23
  go_wp2
  go_returns
  exact ⟨rfl, rfl⟩

theorem cellA {W : World} {a : Addr} {v : Value} (h : W.cell? a = some v) (o : Obj) : (W.alloc o).cell? a = some v := by
  rw [World.cell?_alloc_some W a o (by rw [h]; rfl)]; exact h

theorem below_drewN {B : Nat} {a w : World} (h : Below B a w) (n : Nat) : Below B a (w.drewN n) := h.trans ⟨rfl, rfl, rfl, Nat.le_refl _, fun _ _ => rfl⟩

/-- What Uint16 answers at the bytes x, y. -/
def be16 (x y : Int) : Int := bits BinOp.or IntKind.u16 (IntKind.u16.wrap y) (IntKind.u16.wrap (IntKind.u16.wrap x * 256))

theorem be16_any (b o n c : Nat) (x y : Int) (w : World) (hn : 2 ≤ n) (c0 : w.cell? ⟨b, o, none⟩ = some (.int .u8 x)) (c1 : w.cell? ⟨b, o + 1, none⟩ = some (.int .u8 y)) :
    Calls Tryf.prog 24 #[.agg #[], .slice (some ⟨b, o, none⟩) n c] w fun e w' => e = .returned (.int .u16 (be16 x y)) ∧ ∃ q, w' = (w.alloc (.cells #[] 78)).drewN q := by
  have d0 := cellA c0 (.cells #[] 78)
  have d1 := cellA c1 (.cells #[] 78)
  go_enter Tryf.func24, Tryf.ntmps24
  go_wp2
  go_quiet (fail)
  go_wp2
  go_ret
  exact ⟨rfl, _, rfl⟩

set_option maxRecDepth 100000 in
set_option maxHeartbeats 2000000 in
theorem be64_zero (b o c : Nat) (w : World) (h : ∀ j, j < 8 → w.cell? ⟨b, o + j, none⟩ = some (.int .u8 0)) :
    Calls Tryf.prog 13 #[.slice (some ⟨b, o, none⟩) 8 c] w fun e w' => e = .returned (.int .u64 0) ∧ ∃ q, w' = w.drewN q := by
  have c0 : w.cell? ⟨b, o, none⟩ = some (.int .u8 0) := h 0 (by omega)
  have c1 := h 1 (by omega)
  have c2 := h 2 (by omega)
  have c3 := h 3 (by omega)
  have c4 := h 4 (by omega)
  have c5 := h 5 (by omega)
  have c6 := h 6 (by omega)
  have c7 := h 7 (by omega)
  clear h
  go_enter Tryf.func13, Tryf.ntmps13
  go_wp2
  go_quiet (fail)
  go_wp2
  go_ret
  exact ⟨by kernel_rfl, _, rfl⟩

def zero16 : Array Value := #[.int .u8 0, .int .u8 0, .int .u8 0, .int .u8 0, .int .u8 0, .int .u8 0, .int .u8 0, .int .u8 0, .int .u8 0, .int .u8 0, .int .u8 0, .int .u8 0, .int .u8 0, .int .u8 0, .int .u8 0, .int .u8 0]

set_option maxRecDepth 100000 in
set_option maxHeartbeats 2000000 in
theorem addr16_zero (z : Option Addr) (w : World) (hz : w.cell? ⟨0, 0, none⟩ = some (.pointer z)) :
    Calls Tryf.prog 10 #[.agg zero16] w fun e w' => e = .returned (.agg #[.int .u64 0, .int .u64 0, .pointer z]) ∧ Below w.heap.size w w' := by
  have d0 := cellA hz (.cells zero16 46)
  unfold zero16 at d0 ⊢
  go_enter Tryf.func10, Tryf.ntmps10
  go_wp2
  go_region_with (go_at_call 13; refine (be64_zero _ _ _ _ ?_).mono ?_; (intro j hj; obtain rfl | rfl | rfl | rfl | rfl | rfl | rfl | rfl : j = 0 ∨ j = 1 ∨ j = 2 ∨ j = 3 ∨ j = 4 ∨ j = 5 ∨ j = 6 ∨ j = 7 := (by omega)) <;> go_simp; rintro e w1 ⟨rfl, q, rfl⟩)
  all_goals
    go_wp2_with fail
    go_returns
    exact ⟨rfl, (((below_drewN (((Below.refl _ _).alloc (Nat.le_refl _) _).alloc (by simp) _) _).setCell (by simp) _).setCell (by simp) _).setCell (by simp) _⟩

/-- The cells of a pending datagram. -/
def pdA (z hz : Option Addr) (sp dp : Int) (ports : Bool) (nx : Int) (buf spans : Value) (held len ahead : Int) : Array Value :=
  #[.int .u64 0, .int .u64 0, .pointer z, .int .u64 0, .int .u64 0, .pointer z, .int .u32 0, .int .i64 0, .int .u64 0, .int .i64 0, .pointer none,
    .int .u64 0, .int .u64 0, .pointer hz, .int .u16 sp, .int .u64 0, .int .u64 0, .pointer hz, .int .u16 dp, .slice none 0 0,
    .bool ports, .int .u8 nx, buf, spans, .int .i64 held, .int .i64 len, .int .i64 0, .int .i64 ahead, .bool false]

/-- Block b holds the cells c, of type t, none frozen. -/
def Own (w : World) (b : Nat) (t : TypeId) (c : Array Value) : Prop := w.heap[b]? = some (.cells c t (0, 0))
namespace Own
variable {w w' : World} {b : Nat} {t : TypeId} {c : Array Value}
theorem cell (h : Own w b t c) {i : Nat} {v : Value} (hi : c[i]? = some v) : w.cell? ⟨b, i, none⟩ = some v := by
  unfold Own at h
  simp [World.cell?, h, hi]
theorem frozen (h : Own w b t c) (i : Nat) : w.frozen? ⟨b, i, none⟩ = false := by
  unfold Own at h
  simp [World.frozen?, h]
theorem lt (h : Own w b t c) : b < w.heap.size := (Array.getElem?_eq_some_iff.1 h).1
theorem ne {b' : Nat} {t' : TypeId} {c' : Array Value} (h : Own w b t c) (h' : Own w b' t' c') (ht : t ≠ t') : b ≠ b' := fun e => by
  subst e
  unfold Own at h h'
  rw [h] at h'
  cases h'
  exact ht rfl
theorem set (h : Own w b t c) (i : Nat) (v : Value) {d : Array Value} (hd : c.setIfInBounds i v = d) : Own (w.setCell ⟨b, i, none⟩ v) b t d := hd ▸ heap_setCell_same w b i c t v h
theorem setOther (h : Own w b t c) {a : Addr} (ha : b ≠ a.block) (v : Value) : Own (w.setCell a v) b t c := (heap_setCell_other w a b v ha).trans h
theorem of_block (h : Own w b t c) (e : w'.heap[b]? = w.heap[b]?) : Own w' b t c := e.trans h
theorem drew (h : Own w b t c) : Own w.drew b t c := h
theorem drewN (h : Own w b t c) (q : Nat) : Own (w.drewN q) b t c := h
theorem alloc (h : Own w b t c) (o : Obj) : Own (w.alloc o) b t c := by
  have := h.lt
  show (w.heap.push o)[b]? = _
  rw [Array.getElem?_push, if_neg (by omega)]
  exact h
theorem new (w : World) (c : Array Value) (t : TypeId) : Own (w.alloc (.cells c t)) w.heap.size t c := by
  show (w.heap.push _)[w.heap.size]? = _
  simp
theorem below {B : Nat} (h : Own w b t c) (hb : Below B w w') (hB : b < B) : Own w' b t c := (hb.block b hB).trans h
end Own

set_option maxRecDepth 100000 in
set_option maxHeartbeats 2000000 in
theorem newPending_any (z : Option Addr) (w : World) (hz : w.cell? ⟨0, 0, none⟩ = some (.pointer z)) :
    Calls Tryf.prog 5 #[] w fun e w' => ∃ p, e = .returned (.pointer (some ⟨p, 0, none⟩)) ∧ w.heap.size ≤ p ∧ Own w' p 58 (pdA z none 0 0 false 0 (.slice none 0 0) (.slice none 0 0) 0 (-1) 0) ∧ Below w.heap.size w w' := by
  have k1 := addr16_zero z w hz
  unfold zero16 at k1
  go_enter Tryf.func5, Tryf.ntmps5
  go_wp2_with fail
  refine k1.mono ?_
  rintro e w1 ⟨rfl, hb1⟩
  have k2 := addr16_zero z w1 ((hb1.cell (p := ⟨0, 0, none⟩) (World.block_lt_of_cell? _ _ hz)).trans hz)
  unfold zero16 at k2
  clear k1
  go_wp2_with fail
  refine k2.mono ?_
  rintro e w2 ⟨rfl, hb2⟩
  clear k2
  go_wp2_with fail
  go_returns
  have hs := hb1.size
  have hs2 := hb2.size
  exact ⟨w2.heap.size, rfl, by omega, Own.new _ _ _, (hb1.trans (hb2.mono hs)).alloc (by omega) _⟩

theorem cellN {W : World} {a : Addr} {v : Value} (h : W.cell? a = some v) (q : Nat) : (W.drewN q).cell? a = some v := h

end Go.Proofs.Qxb6614074aFmt
