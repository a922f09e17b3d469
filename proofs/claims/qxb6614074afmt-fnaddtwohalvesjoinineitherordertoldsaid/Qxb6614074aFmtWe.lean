/-
  Memory that a call leaves but for one block; the splice; copy of spans; slices.Insert over spans.
-/
import Derived.Test.Qxb6614074aFmtWb
import Derived.Shelf.Spec.SlicesInsert
import Derived.Lib.AppendZerosOnto
import Derived.Laws.CopyRow
import Derived.Laws.CopyOwn
namespace Go.Proofs.Qxb6614074aFmt
open Go.RowKit Go.Lib
set_option linter.unusedVariables false

/-- All blocks that were there are as they were, but b. -/
structure But (b : Nat) (w w' : World) : Prop where
  os : w'.os = w.os
  tape : w'.tape = w.tape
  output : w'.output = w.output
  size : w.heap.size ≤ w'.heap.size
  block : ∀ k, k < w.heap.size → k ≠ b → w'.heap[k]? = w.heap[k]?
namespace But
variable {b : Nat} {w w' w'' : World}
theorem refl (b : Nat) (w : World) : But b w w := ⟨rfl, rfl, rfl, Nat.le_refl _, fun _ _ _ => rfl⟩
theorem trans (h : But b w w') (k : But b w' w'') : But b w w'' :=
  ⟨k.os.trans h.os, k.tape.trans h.tape, k.output.trans h.output, Nat.le_trans h.size k.size, fun i hi hb => (k.block i (Nat.lt_of_lt_of_le hi h.size) hb).trans (h.block i hi hb)⟩
/-- What touches only a block that was not there. -/
theorem fresh {n : Nat} (h : But n w w') (hn : w.heap.size ≤ n) (b : Nat) : But b w w' := ⟨h.os, h.tape, h.output, h.size, fun k hk _ => h.block k hk (by omega)⟩
theorem below {B : Nat} (h : But b w w') (hb : B ≤ b) (hB : B ≤ w.heap.size) : Below B w w' := ⟨h.os, h.tape, h.output, h.size, fun k hk => h.block k (by omega) (by omega)⟩
theorem ofBelow (h : Below w.heap.size w w') (b : Nat) : But b w w' := ⟨h.os, h.tape, h.output, h.size, fun k hk _ => h.block k hk⟩
theorem drew (h : But b w w') : But b w w'.drew := ⟨h.os, h.tape, h.output, h.size, h.block⟩
theorem setRow (h : But b w w') (c : Array Value) : But b w (w'.setRow b c) := ⟨h.os, h.tape, h.output, by simpa using h.size, fun k hk hb => (setRow_other w' b k c hb).trans (h.block k hk hb)⟩
theorem setCell (h : But b w w') (i : Nat) (v : Value) : But b w (w'.setCell ⟨b, i, none⟩ v) := ⟨h.os, h.tape, h.output, by simpa using h.size, fun k hk hb => (heap_setCell_other w' ⟨b, i, none⟩ k v hb).trans (h.block k hk hb)⟩
theorem alloc (h : But b w w') (o : Obj) : But b w (w'.alloc o) := ⟨h.os, h.tape, h.output, by simp; have := h.size; omega, fun k hk hb => by
  have := h.size
  rw [← h.block k hk hb]
  show (w'.heap.push o)[k]? = _
  rw [Array.getElem?_push, if_neg (by omega)]⟩
theorem own {k : Nat} {t : TypeId} {c : Array Value} (h : But b w w') (ho : Own w k t c) (hk : k ≠ b) : Own w' k t c := (h.block k ho.lt hk).trans ho
end But
theorem Own.setRow {w : World} {b : Nat} {t : TypeId} {c : Array Value} (h : Own w b t c) (d : Array Value) : Own (w.setRow b d) b t d := setRow_heap w b c d t (0, 0) h

/-- The row with cs laid over it from o on. -/
def spl (cur : Array Value) (o : Nat) (cs : List Value) : Array Value := (cur.toList.take o ++ cs ++ cur.toList.drop (o + cs.length)).toArray
theorem spl_size {cur : Array Value} {o : Nat} {cs : List Value} (h : o + cs.length ≤ cur.size) : (spl cur o cs).size = cur.size := by
  simp [spl]; omega
theorem spl_lo {cur : Array Value} {o : Nat} {cs : List Value} (h : o + cs.length ≤ cur.size) {j : Nat} (hj : j < o) : (spl cur o cs)[j]? = cur[j]? := by
  simp only [spl, List.getElem?_toArray, List.append_assoc]
  rw [List.getElem?_append_left (by simp; omega), List.getElem?_take, if_pos hj]
  simp
theorem spl_in {cur : Array Value} {o : Nat} {cs : List Value} (h : o + cs.length ≤ cur.size) {j : Nat} (hj : j < cs.length) : (spl cur o cs)[o + j]? = cs[j]? := by
  simp only [spl, List.getElem?_toArray]
  rw [List.getElem?_append_left (by simp; omega), List.getElem?_append_right (by simp; omega)]
  congr 1
  simp; omega
theorem spl_hi {cur : Array Value} {o : Nat} {cs : List Value} (h : o + cs.length ≤ cur.size) {j : Nat} (hj : o + cs.length ≤ j) : (spl cur o cs)[j]? = cur[j]? := by
  simp only [spl, List.getElem?_toArray]
  rw [List.getElem?_append_right (by simp; omega), List.getElem?_drop]
  simp
  congr 1
  omega

theorem info64 : (Tryf.prog.info? 64).map (fun i => (i.zero, i.size, i.bytes)) = some (some (.agg #[.int .i64 0, .int .i64 0, .int .i64 0]), 3, 24) := by kernel_rfl
theorem info5 : (Tryf.prog.info? 5).map (fun i => (i.zero, i.size, i.bytes)) = some (some (.int .u8 0), 1, 1) := by kernel_rfl

theorem src_of {w : World} {b : Nat} {t : TypeId} {row : Array Value} {o : Nat} {cs : List Value} (h : Own w b t row) (hr : ∀ j v, cs[j]? = some v → row[o + j]? = some v) : ∀ j v, cs[j]? = some v → w.cell? ((⟨b, o, none⟩ : Addr).add j) = some v := fun j v hj => by
  rw [Addr.add_lit]
  exact h.cell (hr j v hj)

/-- copy between rows of spans. -/
theorem copy3 (w : World) (g o dLen dCap sb so sLen sCap : Nat) (cur srow : Array Value) (cs : List Value) (hg : Own w g 64 cur) (hs : Own w sb 64 srow) (hn : cs.length = Nat.min sLen dLen * 3)
    (hsrc : ∀ j v, cs[j]? = some v → srow[so + j]? = some v) (hfit : o + cs.length ≤ cur.size) (h1 : ∀ v ∈ cs, v.oneCell' = true) :
    ∃ W, (∀ ty, (Builtin.copy_ #[56, 56] ty #[.slice (some ⟨g, o, none⟩) dLen dCap, .slice (some ⟨sb, so, none⟩) sLen sCap]).run Tryf.prog w = .ok (goInt (Nat.min sLen dLen)) W) ∧ Own W g 64 (spl cur o cs) ∧ But g w W := by
  obtain ⟨i, hi, hzz⟩ := Option.map_eq_some_iff.1 info64
  simp only [Prod.mk.injEq] at hzz
  obtain ⟨hz, hsz, hb⟩ := hzz
  have hf := run_firstCells_some (P := Tryf.prog) w 3 (Nat.min sLen dLen) ⟨sb, so, none⟩ sLen sCap cs hn (src_of hs hsrc)
  have hst := run_storeCells_at Tryf.prog g o 64 cs 0 cur w hg (by simpa using hfit) h1
  refine ⟨w.setRow g (spl cur o cs), fun ty => ?_, hg.setRow _, (But.refl _ _).setRow _⟩
  simp only [Nat.add_zero] at hst
  simp [Builtin.copy_, run_underlying Tryf.underlying56, Builtin.lenOf, sizeOf, typeInfo, hi, hsz, hf, hst, spl]

/-- Block b holds a row of C spans, which begins with the cells l. -/
def Sp (w : World) (b C : Nat) (l : List Value) : Prop := ∃ row, Own w b 64 row ∧ row.size = C * 3 ∧ ∀ (j : Nat) (v : Value), l[j]? = some v → row[j]? = some v
def sp3 (s e : Int) : List Value := [.int .i64 s, .int .i64 e, .int .i64 1]
theorem sp3_one (s e : Int) : ∀ v ∈ sp3 s e, v.oneCell' = true := by
  intro v hv
  simp [sp3] at hv
  rcases hv with rfl | rfl | rfl <;> rfl
theorem Sp.but {w w' : World} {b C x : Nat} {l : List Value} (h : Sp w b C l) (hb : But x w w') (hx : b ≠ x) : Sp w' b C l := by
  obtain ⟨row, ho, hr⟩ := h
  exact ⟨row, hb.own ho hx, hr⟩
theorem Sp.below {w w' : World} {b C : Nat} {l : List Value} (h : Sp w b C l) (hb : Below w.heap.size w w') : Sp w' b C l := by
  obtain ⟨row, ho, hr⟩ := h
  exact ⟨row, ho.below hb ho.lt, hr⟩
theorem zero_size (n : Nat) : (Builtin.zeroCells (Value.agg #[.int .i64 0, .int .i64 0, .int .i64 0]).cells n).size = n * 3 := by
  simp [Builtin.zeroCells, Value.cells]

set_option maxRecDepth 100000 in
set_option maxHeartbeats 2000000 in
/-- Insert into no spans. -/
theorem insert0 (vb : Nat) (s e : Int) (w : World) (hv : Own w vb 64 (sp3 s e).toArray) :
    Calls Tryf.prog 21 #[.slice none 0 0, .int .i64 0, .slice (some ⟨vb, 0, none⟩) 1 1] w fun x w' =>
      ∃ sb C, x = .returned (.slice (some ⟨sb, 0, none⟩) 1 C) ∧ 1 ≤ C ∧ w.heap.size ≤ sb ∧ Sp w' sb C (sp3 s e) ∧ Below w.heap.size w w' := by
  obtain ⟨i, hi, hzz⟩ := Option.map_eq_some_iff.1 info64
  simp only [Prod.mk.injEq] at hzz
  obtain ⟨hz, hsz, hb⟩ := hzz
  have hr : ∀ ty, (Builtin.append_ #[56, 56] ty #[.slice none 0 0, .slice (some ⟨vb, 0, none⟩) 1 1]).run Tryf.prog w = _ := fun ty => run_append_nil (P := Tryf.prog) w 56 ty 64 i _ Tryf.underlying56 hi hz ⟨vb, 0, none⟩ 1 1 (sp3 s e) (by rw [hsz]; rfl)
    (src_of hv (fun j v hj => by simpa using hj)) (by omega) (by omega) (by rw [hb]; omega)
  obtain ⟨W, hW⟩ : ∃ W, W = w.drew.alloc (.cells ((sp3 s e).toArray ++ Builtin.zeroCells (Value.agg #[.int .i64 0, .int .i64 0, .int .i64 0]).cells (grownCap w 1 0 64 - 1)) 64) := ⟨_, rfl⟩
  have hge := grownCap_ge w 1 0 64
  rw [← hW] at hr
  have hfin : 1 ≤ grownCap w 1 0 64 ∧ w.heap.size ≤ w.heap.size ∧ Sp W w.heap.size (grownCap w 1 0 64) (sp3 s e) ∧ Below w.heap.size w W := by
    refine ⟨hge, Nat.le_refl _, ⟨_, hW ▸ Own.new w.drew _ _, ?_, fun j v hj => ?_⟩, hW ▸ Below.alloc (Below.drew (Below.refl _ _)) (Nat.le_refl _) _⟩
    · rw [Array.size_append, zero_size]; simp [sp3]; omega
    · have hlt := (List.getElem?_eq_some_iff.1 hj).1
      rw [Array.getElem?_append_left (by simpa using hlt)]
      simpa using hj
  clear hW
  generalize grownCap w 1 0 64 = G at hr hfin hge
  have HF : Hid _ := hfin
  clear hfin hge
  go_enter Tryf.func21, Tryf.ntmps21
  go_wp2_with (at_builtin; refine Lib.wpList_append_run _ rfl _ _ _ _ rfl _ _ rfl rfl _ _ (hr _) ?_)
  go_ret
  exact ⟨_, _, rfl, HF.out⟩
end Go.Proofs.Qxb6614074aFmt
