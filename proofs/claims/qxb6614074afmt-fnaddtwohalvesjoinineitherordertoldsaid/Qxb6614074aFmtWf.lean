/-
  slices.Insert into one span: behind it, ahead of it; room or none.
-/
import Derived.Test.Qxb6614074aFmtWe
namespace Go.Proofs.Qxb6614074aFmt
open Go.RowKit Go.Lib
set_option linter.unusedVariables false

/-- What leaves all blocks that were there, leaves them. -/
theorem But.fresh' {w w' : World} {b n : Nat} (h : But b w w') (hb : b ≠ n) (hs : w'.heap[b]? = w.heap[b]?) : But n w w' := ⟨h.os, h.tape, h.output, h.size, fun k hk _ => if e : k = b then e ▸ hs else h.block k hk e⟩

/-- What an Insert into one span at block sb leaves: the two spans' cells l, in place or in a new row. -/
def Ins (w : World) (sb : Nat) (l : List Value) (x : Ending) (w' : World) : Prop :=
  ∃ sb' C, x = .returned (.slice (some ⟨sb', 0, none⟩) 2 C) ∧ 2 ≤ C ∧ (sb' = sb ∨ w.heap.size ≤ sb') ∧ Sp w' sb' C l ∧ But sb w w'

theorem six (s e s0 e0 : Int) (row : Array Value) (h0 : ∀ j, j < 3 → row[j]? = (sp3 s0 e0)[j]?) (h1 : ∀ j, j < 3 → row[3 + j]? = (sp3 s e)[j]?) : ∀ (j : Nat) (v : Value), (sp3 s0 e0 ++ sp3 s e)[j]? = some v → row[j]? = some v := fun j v hj => by
  have hlt := (List.getElem?_eq_some_iff.1 hj).1
  simp [sp3] at hlt
  by_cases h : j < 3
  · rw [h0 j h, ← hj, List.getElem?_append_left (by simp [sp3]; omega)]
  · have e := h1 (j - 3) (by omega)
    rw [show 3 + (j - 3) = j by omega] at e
    rw [e, ← hj, List.getElem?_append_right (by simp [sp3]; omega)]
    rfl

set_option maxRecDepth 100000 in
set_option maxHeartbeats 2000000 in
theorem insert_end (sb C vb : Nat) (s0 e0 s e : Int) (w : World) (hC : 1 ≤ C) (hS : Sp w sb C (sp3 s0 e0)) (hv : Own w vb 64 (sp3 s e).toArray) :
    Calls Tryf.prog 21 #[.slice (some ⟨sb, 0, none⟩) 1 C, .int .i64 1, .slice (some ⟨vb, 0, none⟩) 1 1] w (Ins w sb (sp3 s0 e0 ++ sp3 s e)) := by
  obtain ⟨i, hi, hzz⟩ := Option.map_eq_some_iff.1 info64
  simp only [Prod.mk.injEq] at hzz
  obtain ⟨hz, hsz, hb⟩ := hzz
  obtain ⟨row, ho, hrs, hrow⟩ := hS
  have hvs := src_of (o := 0) (cs := sp3 s e) hv (fun j v hj => by simpa using hj)
  have hrow3 : ∀ j, j < 3 → row[j]? = (sp3 s0 e0)[j]? := fun j hj => by
    have : j < (sp3 s0 e0).length := by simpa [sp3] using hj
    rw [List.getElem?_eq_getElem this]
    exact hrow j _ (List.getElem?_eq_getElem this)
  have key : ∃ sb' C' W, (∀ ty, (Builtin.append_ #[56, 56] ty #[.slice (some ⟨sb, 0, none⟩) 1 C, .slice (some ⟨vb, 0, none⟩) 1 1]).run Tryf.prog w = .ok (.slice (some ⟨sb', 0, none⟩) 2 C') W) ∧ 2 ≤ C' ∧ (sb' = sb ∨ w.heap.size ≤ sb') ∧ Sp W sb' C' (sp3 s0 e0 ++ sp3 s e) ∧ But sb w W := by
    by_cases hroom : 2 ≤ C
    · have hfit : 3 + (sp3 s e).length ≤ row.size := by rw [hrs]; simp [sp3]; omega
      have hr := fun ty => run_append_room (P := Tryf.prog) w 56 ty 64 i Tryf.underlying56 hi sb 1 C row ho ⟨vb, 0, none⟩ 1 1 (sp3 s e) (by rw [hsz]; rfl) hvs (sp3_one _ _) hroom (by rw [hsz]; simpa using hfit)
      rw [hsz] at hr
      refine ⟨sb, C, w.setRow sb (spl row 3 (sp3 s e)), hr, hroom, .inl rfl, ⟨_, ho.setRow _, by rw [spl_size hfit]; exact hrs, six _ _ _ _ _ (fun j hj => ?_) (fun j hj => ?_)⟩, (But.refl _ _).setRow _⟩
      · rw [spl_lo hfit hj, hrow3 j hj]
      · rw [spl_in hfit (by simpa [sp3] using hj)]
    · have hC1 : C = 1 := by omega
      subst hC1
      have hr := fun ty => run_append_grow (P := Tryf.prog) w 56 ty 64 i _ Tryf.underlying56 hi hz ⟨sb, 0, none⟩ 1 1 (sp3 s0 e0) (by rw [hsz]; rfl) (src_of ho (fun j v hj => by simpa using hrow j v hj)) ⟨vb, 0, none⟩ 1 1 (sp3 s e) (by rw [hsz]; rfl) hvs (by omega) (by omega) (growslice_fits (by omega) (by rw [hb]; omega))
      have hge := grownCap_ge w (1 + 1) 1 64
      generalize grownCap w (1 + 1) 1 64 = G at hr hge
      refine ⟨_, _, _, hr, hge, .inr (Nat.le_refl _), ⟨_, Own.new w.drew _ _, ?_, six _ _ _ _ _ (fun j hj => ?_) (fun j hj => ?_)⟩, (But.refl _ _).drew.alloc _⟩
      · rw [Array.size_append, zero_size]; simp [sp3]; omega
      · rw [Array.getElem?_append_left (by simp [sp3]; omega), Array.getElem?_append_left (by simpa [sp3] using hj)]; simp
      · rw [Array.getElem?_append_left (by simp [sp3]; omega), Array.getElem?_append_right (by simp [sp3])]; simp [sp3]
  obtain ⟨sb', C', W, hr, hfin⟩ := key
  have HF : Hid _ := hfin
  clear hfin hrow hrow3 hvs hrs ho hv
  go_enter Tryf.func21, Tryf.ntmps21
  go_wp2_with (at_builtin; refine Lib.wpList_append_run _ rfl _ _ _ _ rfl _ _ rfl rfl _ _ (hr _) ?_)
  all_goals
    go_ret
    exact ⟨_, _, rfl, HF.out⟩

theorem overlaps_no (vb sb : Nat) (o : Nat) (va row : Array Value) (w : World) (hne : vb ≠ sb) (hv : Own w vb 64 va) (ho : Own w sb 64 row) (hr : row.size ≠ 0) (lb cb : Nat) :
    (callFunc 29 #[.slice (some ⟨vb, 0, none⟩) 1 1, .slice (some ⟨sb, o, none⟩) lb cb]).run Tryf.prog w = .ok (.value (.bool false)) w := by
  rw [run_callFunc_extern Tryf.func29 (by kernel_rfl) (by kernel_rfl) (by kernel_rfl) (e := Extern.SlicesOverlaps.overlaps #[56, 56] #[4]) (by kernel_rfl),
    Lib.run_overlaps_apart w 56 4 64 Tryf.underlying56 3 Tryf.sizeOf64 ⟨vb, 0, none⟩ ⟨sb, o, none⟩ 1 1 lb cb hne 64 64 va.size row.size (by unfold Own at hv; simp [World.shape?, hv]) (by unfold Own at ho; simp [World.shape?, ho]) hr (hv.frozen 0) (hv.frozen _)]
  rfl

set_option maxRecDepth 100000 in
set_option maxHeartbeats 2000000 in
/-- Ahead of the one span, there is room: in place. -/
theorem insert_front_room (sb C vb : Nat) (s0 e0 s e : Int) (w : World) (hC : 2 ≤ C) (hS : Sp w sb C (sp3 s0 e0)) (hv : Own w vb 64 (sp3 s e).toArray) (hne : vb ≠ sb) :
    Calls Tryf.prog 21 #[.slice (some ⟨sb, 0, none⟩) 1 C, .int .i64 0, .slice (some ⟨vb, 0, none⟩) 1 1] w (Ins w sb (sp3 s e ++ sp3 s0 e0)) := by
  obtain ⟨row, ho, hrs, hrow⟩ := hS
  have hov := fun lb cb => overlaps_no vb sb 3 _ row w hne hv ho (by omega) lb cb
  have l3 : (sp3 s0 e0).length = 3 := rfl
  have l3' : (sp3 s e).length = 3 := rfl
  have hf1 : 3 + (sp3 s0 e0).length ≤ row.size := by rw [hrs, l3]; omega
  have q1 := copy3 w.drew sb 3 1 (C - 1) sb 0 2 C row row (sp3 s0 e0) ho.drew ho.drew rfl (fun j v hj => by simpa using hrow j v hj) hf1 (sp3_one _ _)
  obtain ⟨W1, hc1, ho1, hb1⟩ := q1
  have hf2 : 0 + (sp3 s e).length ≤ (spl row 3 (sp3 s0 e0)).size := by rw [spl_size hf1, hrs, l3']; omega
  have hv1 : Own W1 vb 64 (sp3 s e).toArray := hb1.own hv.drew hne
  obtain ⟨W2, hc2, ho2, hb2⟩ := copy3 W1 sb 0 2 C vb 0 1 1 _ _ (sp3 s e) ho1 hv1 rfl (fun j v hj => by simpa using hj) hf2 (sp3_one _ _)
  have hfin : 2 ≤ C ∧ (sb = sb ∨ w.heap.size ≤ sb) ∧ Sp W2 sb C (sp3 s e ++ sp3 s0 e0) ∧ But sb w W2 := by
    refine ⟨hC, .inl rfl, ⟨_, ho2, by rw [spl_size hf2, spl_size hf1]; exact hrs, six _ _ _ _ _ (fun j hj => ?_) (fun j hj => ?_)⟩, ((But.refl _ _).drew.trans hb1).trans hb2⟩
    · have := spl_in hf2 (j := j) (by rw [l3']; exact hj)
      rwa [Nat.zero_add] at this
    · rw [spl_hi hf2 (by rw [l3']; omega), spl_in hf1 (by rw [l3]; exact hj)]
  have HF : Hid _ := hfin
  have mixed : Tryf.prog.follows Departure.mixedOrders = true := by kernel_rfl
  have hw1 : IntKind.i64.wrap 1 = 1 := by decide
  have hCn : ¬ ((C : Int) < 2) := by omega
  have hC0 : ¬ (C = 0) := by omega
  have hC1 : ¬ (C = 1) := by omega
  clear hfin hrow hrs ho hv ho1 ho2 hb1 hb2 hv1 hf1 hf2
  go_enter Tryf.func21, Tryf.ntmps21
  go_wp2_with (simp only [hov])
  go_region_law_o (refine step_copy_runI rfl _ _ 56 56 rfl (.slice (some ⟨sb, 3, none⟩) 1 (C - 1)) (.slice (some ⟨sb, 0, none⟩) 2 C) (by simp [Act.eval, Act.put]) (by simp [Act.eval, Act.put]) (hc1 3) ?_)
  go_wp2_with (at_builtin; refine wpList_copy_runI _ rfl _ _ 56 56 rfl _ _ rfl rfl (hc2 _) ?_)
  go_ret
  exact ⟨_, _, rfl, HF.out.1, .inl rfl, HF.out.2.2⟩

set_option maxRecDepth 100000 in
set_option maxHeartbeats 2000000 in
/-- Ahead of the one span, there is no room: a new row. -/
theorem insert_front_grow (sb vb : Nat) (s0 e0 s e : Int) (w : World) (hS : Sp w sb 1 (sp3 s0 e0)) (hv : Own w vb 64 (sp3 s e).toArray) (hne : vb ≠ sb) :
    Calls Tryf.prog 21 #[.slice (some ⟨sb, 0, none⟩) 1 1, .int .i64 0, .slice (some ⟨vb, 0, none⟩) 1 1] w (Ins w sb (sp3 s e ++ sp3 s0 e0)) := by
  obtain ⟨i, hi, hzz⟩ := Option.map_eq_some_iff.1 info64
  simp only [Prod.mk.injEq] at hzz
  obtain ⟨hz, hsz, hb⟩ := hzz
  obtain ⟨row, ho, hrs, hrow⟩ := hS
  have l3 : (sp3 s0 e0).length = 3 := rfl
  have l3' : (sp3 s e).length = 3 := rfl
  have hold : (Builtin.firstCells i.size 0 (.slice (some ⟨sb, 0, none⟩) 0 1)).run Tryf.prog w.drew = .ok ([] : List Value).toArray w.drew := run_firstCells_some (P := Tryf.prog) w.drew i.size 0 ⟨sb, 0, none⟩ 0 1 [] (by simp) (fun j v hj => by simp at hj)
  have hr : ∀ ty, (Builtin.append_ #[56, 3] ty #[.slice (some ⟨sb, 0, none⟩) 0 1, .int .i64 2]).run Tryf.prog w = _ := fun ty => Lib.run_append_grow_zeros (P := Tryf.prog) w 56 3 ty 64 i _ .i64 .i64 Tryf.underlying56 Tryf.underlying3 hi hz (some ⟨sb, 0, none⟩) 0 1 [] hold 2 (by omega) (by rw [hsz]; omega) (by omega) (by omega) (by rw [hb]; omega) (growslice_fits (by omega) (by rw [hb]; omega))
  have hge := grownCap_ge w (0 + 2) 1 64
  generalize grownCap w (0 + 2) 1 64 = G at hr hge
  obtain ⟨Z, hZ⟩ : ∃ Z, Z = ([] : List Value).toArray ++ Builtin.zeroCells (Value.agg #[.int .i64 0, .int .i64 0, .int .i64 0]).cells 2 ++ Builtin.zeroCells (Value.agg #[.int .i64 0, .int .i64 0, .int .i64 0]).cells (G - (0 + 2)) := ⟨_, rfl⟩
  have hZs : Z.size = G * 3 := by rw [hZ, Array.size_append, Array.size_append, zero_size, zero_size]; simp; omega
  rw [← hZ] at hr
  obtain ⟨W0, hW0⟩ : ∃ W0, W0 = w.drew.alloc (.cells Z 64) := ⟨_, rfl⟩
  rw [← hW0] at hr
  have oN : Own W0 w.heap.size 64 Z := hW0 ▸ Own.new w.drew Z 64
  have b0 : But sb w W0 := hW0 ▸ (But.refl _ _).drew.alloc _
  have ov : Own W0 vb 64 (sp3 s e).toArray := hW0 ▸ hv.drew.alloc _
  have os : Own W0 sb 64 row := hW0 ▸ ho.drew.alloc _
  have hlt := ho.lt
  have hnN : sb ≠ w.heap.size := by omega
  clear hW0 hZ hold
  have hf1 : 0 + (sp3 s e).length ≤ Z.size := by rw [hZs, l3']; omega
  obtain ⟨W1, hc1, ho1, hb1⟩ := copy3 W0 w.heap.size 0 2 G vb 0 1 1 _ _ (sp3 s e) oN ov rfl (fun j v hj => by simpa using hj) hf1 (sp3_one _ _)
  have hf2 : 3 + (sp3 s0 e0).length ≤ (spl Z 0 (sp3 s e)).size := by rw [spl_size hf1, hZs, l3]; omega
  have os1 : Own W1.drew sb 64 row := (hb1.own os hnN).drew
  obtain ⟨W2, hc2, ho2, hb2⟩ := copy3 W1.drew w.heap.size 3 1 (G - 1) sb 0 1 1 _ _ (sp3 s0 e0) ho1.drew os1 rfl (fun j v hj => by simpa using hrow j v hj) hf2 (sp3_one _ _)
  have bN : But w.heap.size w W2 := ((b0.fresh' hnN (os.trans ho.symm)).trans hb1).drew.trans hb2
  have hfin : 2 ≤ G ∧ (w.heap.size = sb ∨ w.heap.size ≤ w.heap.size) ∧ Sp W2 w.heap.size G (sp3 s e ++ sp3 s0 e0) ∧ But sb w W2 := by
    refine ⟨by omega, .inr (Nat.le_refl _), ⟨_, ho2, by rw [spl_size hf2, spl_size hf1]; exact hZs, six _ _ _ _ _ (fun j hj => ?_) (fun j hj => ?_)⟩, bN.fresh (Nat.le_refl _) sb⟩
    · rw [spl_lo hf2 hj]
      have := spl_in hf1 (j := j) (by rw [l3']; exact hj)
      rwa [Nat.zero_add] at this
    · rw [spl_in hf2 (by rw [l3]; exact hj)]
  have HF : Hid _ := hfin
  have mixed : Tryf.prog.follows Departure.mixedOrders = true := by kernel_rfl
  have hw1 : IntKind.i64.wrap 1 = 1 := by decide
  have hG0 : ¬ (G = 0) := by omega
  have hG1 : ¬ (G = 1) := by omega
  clear hfin hrow hrs ho hv ho1 ho2 hb1 hb2 hf1 hf2 oN b0 ov os os1 bN hZs
  go_enter Tryf.func21, Tryf.ntmps21
  go_wp2_with (first
    | (at_builtin; refine Lib.wpList_append_run _ rfl _ _ _ _ rfl _ _ rfl rfl _ _ (hr _) ?_)
    | (at_builtin; refine wpList_copy_runI _ rfl _ _ 56 56 rfl _ _ rfl rfl (hc1 _) ?_))
  go_region_law_o (refine step_copy_runI rfl _ _ 56 56 rfl (.slice (some ⟨w.heap.size, 3, none⟩) 1 (G - 1)) (.slice (some ⟨sb, 0, none⟩) 1 1) (by simp [Act.eval, Act.put]) (by simp [Act.eval, Act.put]) (hc2 3) ?_)
  go_wp2
  go_ret
  exact ⟨_, _, rfl, HF.out⟩

theorem insert_front (sb C vb : Nat) (s0 e0 s e : Int) (w : World) (hC : 1 ≤ C) (hS : Sp w sb C (sp3 s0 e0)) (hv : Own w vb 64 (sp3 s e).toArray) (hne : vb ≠ sb) :
    Calls Tryf.prog 21 #[.slice (some ⟨sb, 0, none⟩) 1 C, .int .i64 0, .slice (some ⟨vb, 0, none⟩) 1 1] w (Ins w sb (sp3 s e ++ sp3 s0 e0)) := by
  by_cases h : 2 ≤ C
  · exact insert_front_room sb C vb s0 e0 s e w h hS hv hne
  · obtain rfl : C = 1 := by omega
    exact insert_front_grow sb vb s0 e0 s e w hS hv hne
end Go.Proofs.Qxb6614074aFmt
