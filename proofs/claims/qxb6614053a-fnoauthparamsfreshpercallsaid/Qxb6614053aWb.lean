/-
  params: the region that makes the map, at every order.
-/
import Derived.Test.Qxb6614053aWa
import Derived.Deep.RegionHeld3
namespace Go.Proofs.Qxb6614053a
open Go.RowKit Go.ChangeMaps Go.MapKept

theorem push_set (a : Array Obj) (o X : Obj) : (a.push o).setIfInBounds a.size X = a.push X := by
  apply Array.ext_getElem?
  intro i
  rw [Array.getElem?_setIfInBounds, Array.getElem?_push, Array.getElem?_push]
  by_cases h : a.size = i
  · subst h; simp
  · rw [if_neg h, if_neg (fun e => h e.symm), if_neg (fun e => h e.symm)]
theorem push_set_lt (a : Array Obj) (M : Nat) (o X : Obj) (h : M < a.size) : (a.push o).setIfInBounds M X = (a.setIfInBounds M X).push o := by
  apply Array.ext_getElem?
  intro i
  rw [Array.getElem?_setIfInBounds, Array.getElem?_push, Array.getElem?_push, Array.getElem?_setIfInBounds, Array.size_push, Array.size_setIfInBounds]
  by_cases e : M = i
  · subst e
    rw [if_pos rfl, if_pos (by omega), if_neg (by omega), if_pos rfl, if_pos h]
  · rw [if_neg e, if_neg e]
theorem setBlock_alloc0 (u : World) (o X : Obj) : setBlock (u.alloc o) u.heap.size X = u.alloc X :=
  congrArg (fun h => ({ u with heap := h } : World)) (push_set u.heap o X)
theorem setBlock_alloc1 (u : World) (M : Nat) (o X : Obj) (h : M < u.heap.size) : setBlock (u.alloc o) M X = (setBlock u M X).alloc o :=
  congrArg (fun h => ({ u with heap := h } : World)) (push_set_lt u.heap M o X h)
theorem setBlock_drew (u : World) (M : Nat) (X : Obj) : setBlock u.drew M X = (setBlock u M X).drew := rfl

theorem heap0 (u : World) (o : Obj) : (u.alloc o).heap[u.heap.size]? = some o := by
  show (u.heap.push o)[u.heap.size]? = _
  simp
theorem heap1 (u : World) (o : Obj) {M : Nat} {X : Obj} (h : u.heap[M]? = some X) : (u.alloc o).heap[M]? = some X := by
  have hl : M < u.heap.size := (Array.getElem?_eq_some_iff.1 h).1
  show (u.heap.push o)[M]? = _
  rw [Array.getElem?_push, if_neg (by omega)]
  exact h

/-- What the two inserts meet: an empty map, or one with the other key alone. -/
def Fits (es : Array MapEntry) (s : ByteArray) : Prop :=
  (es = #[] ∧ (s = errK ∨ s = descK)) ∨ (∃ v, es = #[⟨.string errK, v, 0⟩] ∧ s = descK) ∨ (∃ v, es = #[⟨.string descK, v, 0⟩] ∧ s = errK)
theorem Fits.key {es : Array MapEntry} {s : ByteArray} (h : Fits es s) : s = errK ∨ s = descK ∨ s = stateK := by
  rcases h with ⟨_, h | h⟩ | ⟨_, _, h⟩ | ⟨_, _, h⟩ <;> simp [h]
theorem Fits.find {es : Array MapEntry} {s : ByteArray} (h : Fits es s) (W : World) : (Instr.findKey 9 (.string s) es.toList).run Try.prog W = .ok none W := by
  rcases h with ⟨rfl, rfl | rfl⟩ | ⟨v, rfl, rfl⟩ | ⟨v, rfl, rfl⟩ <;> kernel_rfl

/-- The update of the map in block M of W, and what it leaves. -/
def Upd (W : World) (M : Nat) (s : ByteArray) (v : Value) (W' : World) : Prop :=
  ∃ es c, W.heap[M]? = some (.map es c) ∧ Fits es s ∧ setBlock W M (.map (es.push ⟨.string s, v, c⟩) (c + 1)) = W'
theorem Upd.run {W W' : World} {M : Nat} {s : ByteArray} {v : Value} (h : Upd W M s v W') : (Instr.mapUpdate 39 (.map (some M)) (.string s) v).run Try.prog W = .ok () W' := by
  obtain ⟨es, c, hb, hf, rfl⟩ := h
  exact upd_push hb s hf.key v (hf.find _)
theorem Upd.run_drew {W W' : World} {M : Nat} {s : ByteArray} {v : Value} (h : Upd W M s v W') : (Instr.mapUpdate 39 (.map (some M)) (.string s) v).run Try.prog W.drew = .ok () W'.drew := by
  obtain ⟨es, c, hb, hf, rfl⟩ := h
  exact upd_push (W := W.drew) hb s hf.key v (hf.find _)

theorem upd0 (u : World) (es : Array MapEntry) (c : Nat) (s : ByteArray) (v : Value) (M : Nat) (hM : M = u.heap.size) (h : Fits es s) :
    Upd (u.alloc (.map es c)) M s v (u.alloc (.map (es.push ⟨.string s, v, c⟩) (c + 1))) := by
  subst hM
  exact ⟨es, c, heap0 u _, h, setBlock_alloc0 _ _ _⟩
theorem upd1 (u : World) (o : Obj) (es : Array MapEntry) (c : Nat) (s : ByteArray) (v : Value) (M : Nat) (hM : M = u.heap.size) (h : Fits es s) :
    Upd ((u.alloc (.map es c)).alloc o) M s v ((u.alloc (.map (es.push ⟨.string s, v, c⟩) (c + 1))).alloc o) := by
  subst hM
  exact ⟨es, c, heap1 _ _ (heap0 u _), h, by rw [setBlock_alloc1 _ _ _ _ (by simp), setBlock_alloc0]⟩
theorem upd2 (u : World) (o o' : Obj) (es : Array MapEntry) (c : Nat) (s : ByteArray) (v : Value) (M : Nat) (hM : M = u.heap.size) (h : Fits es s) :
    Upd (((u.alloc (.map es c)).alloc o).alloc o') M s v (((u.alloc (.map (es.push ⟨.string s, v, c⟩) (c + 1))).alloc o).alloc o') := by
  subst hM
  exact ⟨es, c, heap1 _ _ (heap1 _ _ (heap0 u _)), h, by rw [setBlock_alloc1 _ _ _ _ (by simp; omega), setBlock_alloc1 _ _ _ _ (by simp), setBlock_alloc0]⟩

theorem cellA {W : World} {a : Addr} {v : Value} (h : W.cell? a = some v) (o : Obj) : (W.alloc o).cell? a = some v := by
  rw [World.cell?_alloc_some W a o (by rw [h]; rfl)]; exact h
theorem cellD {W : World} {a : Addr} {v : Value} (h : W.cell? a = some v) : W.drew.cell? a = some v := h

theorem r_e_0 (u : World) (v : Value) (M : Nat) (hM : M = u.heap.size) : (Instr.mapUpdate 39 (.map (some M)) (.string errK) v).run Try.prog (u.alloc (.map #[] 0)) = .ok () (u.alloc (.map #[⟨.string errK, v, 0⟩] 1)) :=
  (upd0 u #[] 0 errK v M hM (.inl ⟨rfl, .inl rfl⟩)).run
theorem r_e_0d (u : World) (v : Value) (M : Nat) (hM : M = u.heap.size) : (Instr.mapUpdate 39 (.map (some M)) (.string errK) v).run Try.prog (u.alloc (.map #[] 0)).drew = .ok () (u.alloc (.map #[⟨.string errK, v, 0⟩] 1)).drew :=
  (upd0 u #[] 0 errK v M hM (.inl ⟨rfl, .inl rfl⟩)).run_drew
theorem r_e_1 (u : World) (o : Obj) (v : Value) (M : Nat) (hM : M = u.heap.size) : (Instr.mapUpdate 39 (.map (some M)) (.string errK) v).run Try.prog ((u.alloc (.map #[] 0)).alloc o) = .ok () ((u.alloc (.map #[⟨.string errK, v, 0⟩] 1)).alloc o) :=
  (upd1 u o #[] 0 errK v M hM (.inl ⟨rfl, .inl rfl⟩)).run
theorem r_e_1d (u : World) (o : Obj) (v : Value) (M : Nat) (hM : M = u.heap.size) : (Instr.mapUpdate 39 (.map (some M)) (.string errK) v).run Try.prog ((u.alloc (.map #[] 0)).alloc o).drew = .ok () ((u.alloc (.map #[⟨.string errK, v, 0⟩] 1)).alloc o).drew :=
  (upd1 u o #[] 0 errK v M hM (.inl ⟨rfl, .inl rfl⟩)).run_drew
theorem r_e_2 (u : World) (o o' : Obj) (v : Value) (M : Nat) (hM : M = u.heap.size) : (Instr.mapUpdate 39 (.map (some M)) (.string errK) v).run Try.prog (((u.alloc (.map #[] 0)).alloc o).alloc o') = .ok () (((u.alloc (.map #[⟨.string errK, v, 0⟩] 1)).alloc o).alloc o') :=
  (upd2 u o o' #[] 0 errK v M hM (.inl ⟨rfl, .inl rfl⟩)).run
theorem r_e_2d (u : World) (o o' : Obj) (v : Value) (M : Nat) (hM : M = u.heap.size) : (Instr.mapUpdate 39 (.map (some M)) (.string errK) v).run Try.prog (((u.alloc (.map #[] 0)).alloc o).alloc o').drew = .ok () (((u.alloc (.map #[⟨.string errK, v, 0⟩] 1)).alloc o).alloc o').drew :=
  (upd2 u o o' #[] 0 errK v M hM (.inl ⟨rfl, .inl rfl⟩)).run_drew
theorem r_d_0 (u : World) (v : Value) (M : Nat) (hM : M = u.heap.size) : (Instr.mapUpdate 39 (.map (some M)) (.string descK) v).run Try.prog (u.alloc (.map #[] 0)) = .ok () (u.alloc (.map #[⟨.string descK, v, 0⟩] 1)) :=
  (upd0 u #[] 0 descK v M hM (.inl ⟨rfl, .inr rfl⟩)).run
theorem r_d_0d (u : World) (v : Value) (M : Nat) (hM : M = u.heap.size) : (Instr.mapUpdate 39 (.map (some M)) (.string descK) v).run Try.prog (u.alloc (.map #[] 0)).drew = .ok () (u.alloc (.map #[⟨.string descK, v, 0⟩] 1)).drew :=
  (upd0 u #[] 0 descK v M hM (.inl ⟨rfl, .inr rfl⟩)).run_drew
theorem r_d_1 (u : World) (o : Obj) (v : Value) (M : Nat) (hM : M = u.heap.size) : (Instr.mapUpdate 39 (.map (some M)) (.string descK) v).run Try.prog ((u.alloc (.map #[] 0)).alloc o) = .ok () ((u.alloc (.map #[⟨.string descK, v, 0⟩] 1)).alloc o) :=
  (upd1 u o #[] 0 descK v M hM (.inl ⟨rfl, .inr rfl⟩)).run
theorem r_d_1d (u : World) (o : Obj) (v : Value) (M : Nat) (hM : M = u.heap.size) : (Instr.mapUpdate 39 (.map (some M)) (.string descK) v).run Try.prog ((u.alloc (.map #[] 0)).alloc o).drew = .ok () ((u.alloc (.map #[⟨.string descK, v, 0⟩] 1)).alloc o).drew :=
  (upd1 u o #[] 0 descK v M hM (.inl ⟨rfl, .inr rfl⟩)).run_drew
theorem r_d_2 (u : World) (o o' : Obj) (v : Value) (M : Nat) (hM : M = u.heap.size) : (Instr.mapUpdate 39 (.map (some M)) (.string descK) v).run Try.prog (((u.alloc (.map #[] 0)).alloc o).alloc o') = .ok () (((u.alloc (.map #[⟨.string descK, v, 0⟩] 1)).alloc o).alloc o') :=
  (upd2 u o o' #[] 0 descK v M hM (.inl ⟨rfl, .inr rfl⟩)).run
theorem r_d_2d (u : World) (o o' : Obj) (v : Value) (M : Nat) (hM : M = u.heap.size) : (Instr.mapUpdate 39 (.map (some M)) (.string descK) v).run Try.prog (((u.alloc (.map #[] 0)).alloc o).alloc o').drew = .ok () (((u.alloc (.map #[⟨.string descK, v, 0⟩] 1)).alloc o).alloc o').drew :=
  (upd2 u o o' #[] 0 descK v M hM (.inl ⟨rfl, .inr rfl⟩)).run_drew
theorem r_ed_0 (u : World) (v1 v : Value) (M : Nat) (hM : M = u.heap.size) : (Instr.mapUpdate 39 (.map (some M)) (.string descK) v).run Try.prog (u.alloc (.map #[⟨.string errK, v1, 0⟩] 1)) = .ok () (u.alloc (.map #[⟨.string errK, v1, 0⟩, ⟨.string descK, v, 1⟩] 2)) :=
  (upd0 u #[⟨.string errK, v1, 0⟩] 1 descK v M hM (.inr (.inl ⟨v1, rfl, rfl⟩))).run
theorem r_ed_0d (u : World) (v1 v : Value) (M : Nat) (hM : M = u.heap.size) : (Instr.mapUpdate 39 (.map (some M)) (.string descK) v).run Try.prog (u.alloc (.map #[⟨.string errK, v1, 0⟩] 1)).drew = .ok () (u.alloc (.map #[⟨.string errK, v1, 0⟩, ⟨.string descK, v, 1⟩] 2)).drew :=
  (upd0 u #[⟨.string errK, v1, 0⟩] 1 descK v M hM (.inr (.inl ⟨v1, rfl, rfl⟩))).run_drew
theorem r_ed_1 (u : World) (o : Obj) (v1 v : Value) (M : Nat) (hM : M = u.heap.size) : (Instr.mapUpdate 39 (.map (some M)) (.string descK) v).run Try.prog ((u.alloc (.map #[⟨.string errK, v1, 0⟩] 1)).alloc o) = .ok () ((u.alloc (.map #[⟨.string errK, v1, 0⟩, ⟨.string descK, v, 1⟩] 2)).alloc o) :=
  (upd1 u o #[⟨.string errK, v1, 0⟩] 1 descK v M hM (.inr (.inl ⟨v1, rfl, rfl⟩))).run
theorem r_ed_1d (u : World) (o : Obj) (v1 v : Value) (M : Nat) (hM : M = u.heap.size) : (Instr.mapUpdate 39 (.map (some M)) (.string descK) v).run Try.prog ((u.alloc (.map #[⟨.string errK, v1, 0⟩] 1)).alloc o).drew = .ok () ((u.alloc (.map #[⟨.string errK, v1, 0⟩, ⟨.string descK, v, 1⟩] 2)).alloc o).drew :=
  (upd1 u o #[⟨.string errK, v1, 0⟩] 1 descK v M hM (.inr (.inl ⟨v1, rfl, rfl⟩))).run_drew
theorem r_ed_2 (u : World) (o o' : Obj) (v1 v : Value) (M : Nat) (hM : M = u.heap.size) : (Instr.mapUpdate 39 (.map (some M)) (.string descK) v).run Try.prog (((u.alloc (.map #[⟨.string errK, v1, 0⟩] 1)).alloc o).alloc o') = .ok () (((u.alloc (.map #[⟨.string errK, v1, 0⟩, ⟨.string descK, v, 1⟩] 2)).alloc o).alloc o') :=
  (upd2 u o o' #[⟨.string errK, v1, 0⟩] 1 descK v M hM (.inr (.inl ⟨v1, rfl, rfl⟩))).run
theorem r_ed_2d (u : World) (o o' : Obj) (v1 v : Value) (M : Nat) (hM : M = u.heap.size) : (Instr.mapUpdate 39 (.map (some M)) (.string descK) v).run Try.prog (((u.alloc (.map #[⟨.string errK, v1, 0⟩] 1)).alloc o).alloc o').drew = .ok () (((u.alloc (.map #[⟨.string errK, v1, 0⟩, ⟨.string descK, v, 1⟩] 2)).alloc o).alloc o').drew :=
  (upd2 u o o' #[⟨.string errK, v1, 0⟩] 1 descK v M hM (.inr (.inl ⟨v1, rfl, rfl⟩))).run_drew
theorem r_de_0 (u : World) (v1 v : Value) (M : Nat) (hM : M = u.heap.size) : (Instr.mapUpdate 39 (.map (some M)) (.string errK) v).run Try.prog (u.alloc (.map #[⟨.string descK, v1, 0⟩] 1)) = .ok () (u.alloc (.map #[⟨.string descK, v1, 0⟩, ⟨.string errK, v, 1⟩] 2)) :=
  (upd0 u #[⟨.string descK, v1, 0⟩] 1 errK v M hM (.inr (.inr ⟨v1, rfl, rfl⟩))).run
theorem r_de_0d (u : World) (v1 v : Value) (M : Nat) (hM : M = u.heap.size) : (Instr.mapUpdate 39 (.map (some M)) (.string errK) v).run Try.prog (u.alloc (.map #[⟨.string descK, v1, 0⟩] 1)).drew = .ok () (u.alloc (.map #[⟨.string descK, v1, 0⟩, ⟨.string errK, v, 1⟩] 2)).drew :=
  (upd0 u #[⟨.string descK, v1, 0⟩] 1 errK v M hM (.inr (.inr ⟨v1, rfl, rfl⟩))).run_drew
theorem r_de_1 (u : World) (o : Obj) (v1 v : Value) (M : Nat) (hM : M = u.heap.size) : (Instr.mapUpdate 39 (.map (some M)) (.string errK) v).run Try.prog ((u.alloc (.map #[⟨.string descK, v1, 0⟩] 1)).alloc o) = .ok () ((u.alloc (.map #[⟨.string descK, v1, 0⟩, ⟨.string errK, v, 1⟩] 2)).alloc o) :=
  (upd1 u o #[⟨.string descK, v1, 0⟩] 1 errK v M hM (.inr (.inr ⟨v1, rfl, rfl⟩))).run
theorem r_de_1d (u : World) (o : Obj) (v1 v : Value) (M : Nat) (hM : M = u.heap.size) : (Instr.mapUpdate 39 (.map (some M)) (.string errK) v).run Try.prog ((u.alloc (.map #[⟨.string descK, v1, 0⟩] 1)).alloc o).drew = .ok () ((u.alloc (.map #[⟨.string descK, v1, 0⟩, ⟨.string errK, v, 1⟩] 2)).alloc o).drew :=
  (upd1 u o #[⟨.string descK, v1, 0⟩] 1 errK v M hM (.inr (.inr ⟨v1, rfl, rfl⟩))).run_drew
theorem r_de_2 (u : World) (o o' : Obj) (v1 v : Value) (M : Nat) (hM : M = u.heap.size) : (Instr.mapUpdate 39 (.map (some M)) (.string errK) v).run Try.prog (((u.alloc (.map #[⟨.string descK, v1, 0⟩] 1)).alloc o).alloc o') = .ok () (((u.alloc (.map #[⟨.string descK, v1, 0⟩, ⟨.string errK, v, 1⟩] 2)).alloc o).alloc o') :=
  (upd2 u o o' #[⟨.string descK, v1, 0⟩] 1 errK v M hM (.inr (.inr ⟨v1, rfl, rfl⟩))).run
theorem r_de_2d (u : World) (o o' : Obj) (v1 v : Value) (M : Nat) (hM : M = u.heap.size) : (Instr.mapUpdate 39 (.map (some M)) (.string errK) v).run Try.prog (((u.alloc (.map #[⟨.string descK, v1, 0⟩] 1)).alloc o).alloc o').drew = .ok () (((u.alloc (.map #[⟨.string descK, v1, 0⟩, ⟨.string errK, v, 1⟩] 2)).alloc o).alloc o').drew :=
  (upd2 u o o' #[⟨.string descK, v1, 0⟩] 1 errK v M hM (.inr (.inr ⟨v1, rfl, rfl⟩))).run_drew

/-- What params leaves: the map in block M, its two slices' rows in b1 and b2. -/
def IsPar (w : World) (M b1 b2 : Nat) (code desc : ByteArray) : Prop :=
  (w.heap[M]? = some (.map #[⟨.string errK, .slice (some ⟨b1, 0, none⟩) 1 1, 0⟩, ⟨.string descK, .slice (some ⟨b2, 0, none⟩) 1 1, 1⟩] 2) ∨
   w.heap[M]? = some (.map #[⟨.string descK, .slice (some ⟨b2, 0, none⟩) 1 1, 0⟩, ⟨.string errK, .slice (some ⟨b1, 0, none⟩) 1 1, 1⟩] 2)) ∧
  w.heap[b1]? = some (.cells #[.string code] 9 (0, 0)) ∧ w.heap[b2]? = some (.cells #[.string desc] 9 (0, 0))

theorem at3_0 (w : World) (A B C : Obj) : ((((w.alloc A).alloc B).alloc C).drew).heap[w.heap.size]? = some A := heap1 _ _ (heap1 _ _ (heap0 w A))
theorem at3_1 (w : World) (A B C : Obj) : ((((w.alloc A).alloc B).alloc C).drew).heap[w.heap.size + 1]? = some B := by
  have h := heap1 ((w.alloc A).alloc B) C (heap0 (w.alloc A) B)
  rw [World.size_alloc] at h
  exact h
theorem at3_2 (w : World) (A B C : Obj) : ((((w.alloc A).alloc B).alloc C).drew).heap[w.heap.size + 1 + 1]? = some C := by
  have h := heap0 ((w.alloc A).alloc B) C
  rw [World.size_alloc, World.size_alloc] at h
  exact h
theorem below3 (w : World) (A B C : Obj) : Below w.heap.size w (((w.alloc A).alloc B).alloc C).drew :=
  ((((Below.refl _ _).alloc (Nat.le_refl _) _).alloc (by simp) _).alloc (by simp; omega) _).drew

set_option maxRecDepth 100000 in
set_option maxHeartbeats 4000000 in
theorem params_any (E : Nat) (code desc : ByteArray) (w : World) (c0 : w.cell? ⟨E, 0, none⟩ = some (.string code)) (c1 : w.cell? ⟨E, 1, none⟩ = some (.string desc)) :
    Calls Try.prog 23 #[.pointer (some ⟨E, 0, none⟩)] w fun e w' => ∃ M b1 b2 : Nat, e = .returned (.map (some M)) ∧ IsPar w' M b1 b2 code desc ∧ w.heap.size ≤ M ∧ w.heap.size ≤ b1 ∧ w.heap.size ≤ b2 ∧ Below w.heap.size w w' := by
  have hmm := @run_makeMap Try.prog
  have r_e_0' := r_e_0
  have r_e_0d' := r_e_0d
  have r_e_1' := r_e_1
  have r_e_1d' := r_e_1d
  have r_e_2' := r_e_2
  have r_e_2d' := r_e_2d
  have r_d_0' := r_d_0
  have r_d_0d' := r_d_0d
  have r_d_1' := r_d_1
  have r_d_1d' := r_d_1d
  have r_d_2' := r_d_2
  have r_d_2d' := r_d_2d
  have r_ed_0' := r_ed_0
  have r_ed_0d' := r_ed_0d
  have r_ed_1' := r_ed_1
  have r_ed_1d' := r_ed_1d
  have r_ed_2' := r_ed_2
  have r_ed_2d' := r_ed_2d
  have r_de_0' := r_de_0
  have r_de_0d' := r_de_0d
  have r_de_1' := r_de_1
  have r_de_1d' := r_de_1d
  have r_de_2' := r_de_2
  have r_de_2d' := r_de_2d
  go_enter Try.func23, Try.ntmps23
  go_wp2
  go_region_held3 (fun w' => w'.cell? ⟨E, 0, none⟩ = some (.string code) ∧ w'.cell? ⟨E, 1, none⟩ = some (.string desc)) (refine ⟨?_, ?_⟩ <;> (repeat (first | exact c0 | exact c1 | refine cellD ?_ | refine cellA ?_ _))) (fail)
  all_goals
    go_wp2
    go_ret
    refine ⟨_, _, _, rfl, ⟨by first | exact Or.inl (at3_0 _ _ _ _) | exact Or.inr (at3_0 _ _ _ _) | exact Or.inl (at3_1 _ _ _ _) | exact Or.inr (at3_1 _ _ _ _) | exact Or.inl (at3_2 _ _ _ _) | exact Or.inr (at3_2 _ _ _ _), by first | exact at3_0 _ _ _ _ | exact at3_1 _ _ _ _ | exact at3_2 _ _ _ _, by first | exact at3_0 _ _ _ _ | exact at3_1 _ _ _ _ | exact at3_2 _ _ _ _⟩, by omega, by omega, by omega, below3 _ _ _ _⟩
end Go.Proofs.Qxb6614053a
