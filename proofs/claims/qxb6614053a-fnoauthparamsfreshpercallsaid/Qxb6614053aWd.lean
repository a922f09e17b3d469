/-
  The law's own walk.
-/
import Derived.Test.Qxb6614053aWc
namespace Go.Proofs.Qxb6614053a
open Go.RowKit Go.ChangeMaps Go.MapKept
set_option linter.unusedVariables false

theorem sb_same {W : World} {M : Nat} {X Y : Obj} (h : W.heap[M]? = some X) : (setBlock W M Y).heap[M]? = some Y := by
  have hl : M < W.heap.size := (Array.getElem?_eq_some_iff.1 h).1
  simp [setBlock, hl]
theorem sb_other {W : World} {M k : Nat} {Y : Obj} (h : k ≠ M) : (setBlock W M Y).heap[k]? = W.heap[k]? := by
  show (W.heap.setIfInBounds M Y)[k]? = _
  rw [Array.getElem?_setIfInBounds, if_neg (fun e => h e.symm)]
theorem sb_below {B : Nat} {W0 W : World} {M : Nat} {Y : Obj} (hb : Below B W0 W) (hM : B ≤ M) : Below B W0 (setBlock W M Y) :=
  hb.trans ⟨rfl, rfl, rfl, by simp [setBlock], fun k hk => sb_other (by omega)⟩

/-- The map of three entries that the law's first store leaves, in either order. -/
def Three (W : World) (M b1 : Nat) : Prop := ∃ v2 v3 : Value,
  W.heap[M]? = some (.map #[⟨.string errK, .slice (some ⟨b1, 0, none⟩) 1 1, 0⟩, ⟨.string descK, v2, 1⟩, ⟨.string stateK, v3, 2⟩] 3) ∨
  W.heap[M]? = some (.map #[⟨.string descK, v2, 0⟩, ⟨.string errK, .slice (some ⟨b1, 0, none⟩) 1 1, 1⟩, ⟨.string stateK, v3, 2⟩] 3)

theorem f3_s0 (v1 v2 : Value) (w : World) : (Instr.findKey 9 (.string stateK) [⟨.string errK, v1, 0⟩, ⟨.string descK, v2, 1⟩]).run Try.prog w = .ok none w := by kernel_rfl
theorem f3_s1 (v1 v2 : Value) (w : World) : (Instr.findKey 9 (.string stateK) [⟨.string descK, v2, 0⟩, ⟨.string errK, v1, 1⟩]).run Try.prog w = .ok none w := by kernel_rfl
theorem f3_e0 (v1 v2 v3 : Value) (w : World) : (Instr.findKey 9 (.string errK) [⟨.string errK, v1, 0⟩, ⟨.string descK, v2, 1⟩, ⟨.string stateK, v3, 2⟩]).run Try.prog w = .ok (some (0, v1)) w := by kernel_rfl
theorem f3_e1 (v1 v2 v3 : Value) (w : World) : (Instr.findKey 9 (.string errK) [⟨.string descK, v2, 0⟩, ⟨.string errK, v1, 1⟩, ⟨.string stateK, v3, 2⟩]).run Try.prog w = .ok (some (1, v1)) w := by kernel_rfl
theorem f3_d0 (v1 v2 v3 : Value) (w : World) : (Instr.findKey 9 (.string descK) [⟨.string errK, v1, 0⟩, ⟨.string descK, v2, 1⟩, ⟨.string stateK, v3, 2⟩]).run Try.prog w = .ok (some (1, v2)) w := by kernel_rfl
theorem f3_d1 (v1 v2 v3 : Value) (w : World) : (Instr.findKey 9 (.string descK) [⟨.string descK, v2, 0⟩, ⟨.string errK, v1, 1⟩, ⟨.string stateK, v3, 2⟩]).run Try.prog w = .ok (some (0, v2)) w := by kernel_rfl
theorem stays_d (w : World) : (Instr.keyThatStays (.string descK) (.string descK)).run Try.prog w = .ok (.string descK) w := by kernel_rfl

theorem IsPar.apart {W : World} {M b1 b2 : Nat} {code desc : ByteArray} (h : IsPar W M b1 b2 code desc) : b1 ≠ M := by
  rintro rfl
  rcases h.1 with hb | hb <;> (rw [h.2.1] at hb; cases hb)

/-- 'm["state"] = ..'. -/
theorem IsPar.state {W : World} {M b1 b2 B : Nat} {W0 : World} {code desc : ByteArray} (h : IsPar W M b1 b2 code desc) (o : Obj) (v : Value) (hB : Below B W0 W) (hM : B ≤ M) :
    ∃ W2, (Instr.mapUpdate 39 (.map (some M)) (.string stateK) v).run Try.prog (W.alloc o) = .ok () W2 ∧ Three W2 M b1 ∧ W2.heap[b1]? = some (.cells #[.string code] 9 (0, 0)) ∧ Below B W0 W2 := by
  have hMl : M < W.heap.size := by rcases h.1 with hb | hb <;> exact (Array.getElem?_eq_some_iff.1 hb).1
  have hbl : Below B W0 (W.alloc o) := hB.alloc (by omega) o
  rcases h.1 with hb | hb
  · have hb' := heap1 W o hb
    exact ⟨_, upd_push hb' stateK (.inr (.inr rfl)) v (f3_s0 _ _ _), ⟨_, v, .inl (sb_same hb')⟩, (sb_other h.apart).trans (heap1 W o h.2.1), sb_below hbl hM⟩
  · have hb' := heap1 W o hb
    exact ⟨_, upd_push hb' stateK (.inr (.inr rfl)) v (f3_s1 _ _ _), ⟨_, v, .inr (sb_same hb')⟩, (sb_other h.apart).trans (heap1 W o h.2.1), sb_below hbl hM⟩

theorem Three.look {W : World} {M b1 : Nat} (h : Three W M b1) : (Instr.lookup 39 (.map (some M)) (.string errK) false).run Try.prog W = .ok (.slice (some ⟨b1, 0, none⟩) 1 1) W := by
  obtain ⟨v2, v3, hb | hb⟩ := h
  · exact look_of 39 Try.underlying39 hb errK (.inl rfl) 0 _ false (f3_e0 _ _ _ _)
  · exact look_of 39 Try.underlying39 hb errK (.inl rfl) 1 _ false (f3_e1 _ _ _ _)

/-- 'm["error_description"] = nil', behind the store into the other row. -/
theorem Three.desc {W : World} {M b1 B : Nat} {W0 : World} (h : Three W M b1) (hne : b1 ≠ M) (x v : Value) (hB : Below B W0 W) (hM : B ≤ M) (h1 : B ≤ b1) :
    ∃ W4, (Instr.mapUpdate 39 (.map (some M)) (.string descK) v).run Try.prog (W.setCell ⟨b1, 0, none⟩ x) = .ok () W4 ∧ Below B W0 W4 := by
  have hbl : Below B W0 (W.setCell ⟨b1, 0, none⟩ x) := hB.setCell h1 x
  obtain ⟨v2, v3, hb | hb⟩ := h
  · have hb' := (Below.heap_setCell W ⟨b1, 0, none⟩ x M (fun e => hne e.symm)).trans hb
    exact ⟨setBlock (W.setCell ⟨b1, 0, none⟩ x) M (.map (#[⟨.string errK, .slice (some ⟨b1, 0, none⟩) 1 1, 0⟩, ⟨.string descK, v2, 1⟩, ⟨.string stateK, v3, 2⟩].modify 1 fun e => { e with key := .string descK, val := v }) 3), by
      simp [Instr.mapUpdate, run_underlying Try.underlying39, MapKept.run_getObj_map hb', check_key false descK (.inr (.inl rfl)), f3_d0, stays_d, MapKept.run_setObj_map _ hb', Result.andThen, setBlock], sb_below hbl hM⟩
  · have hb' := (Below.heap_setCell W ⟨b1, 0, none⟩ x M (fun e => hne e.symm)).trans hb
    exact ⟨setBlock (W.setCell ⟨b1, 0, none⟩ x) M (.map (#[⟨.string descK, v2, 0⟩, ⟨.string errK, .slice (some ⟨b1, 0, none⟩) 1 1, 1⟩, ⟨.string stateK, v3, 2⟩].modify 0 fun e => { e with key := .string descK, val := v }) 3), by
      simp [Instr.mapUpdate, run_underlying Try.underlying39, MapKept.run_getObj_map hb', check_key false descK (.inr (.inl rfl)), f3_d1, stays_d, MapKept.run_setObj_map _ hb', Result.andThen, setBlock], sb_below hbl hM⟩

theorem bytes_any (a0 a1 a2 : ByteArray) (w : World) :
    Calls Try.prog 12 #[.string a0, .string a1, .string a2] w fun e w' => (∃ b, e = .returned (.bool b)) ∧ w' = w := by
  go_enter Try.func12, Try.ntmps12
  go_wp2
  all_goals (go_ret; exact ⟨⟨_, rfl⟩, rfl⟩)
theorem new_any (a0 a1 : ByteArray) (w : World) :
    Calls Try.prog 13 #[.string a0, .string a1] w fun e w' => e = .returned (.pointer (some ⟨w.heap.size, 0, none⟩)) ∧ w' = w.alloc (.cells #[.string a0, .string a1] 61) := by
  go_enter Try.func13, Try.ntmps13
  go_wp2
  go_ret
  exact ⟨rfl, rfl⟩
theorem par_any (E : Nat) (code desc : ByteArray) (w : World) (c0 : w.cell? ⟨E, 0, none⟩ = some (.string code)) (c1 : w.cell? ⟨E, 1, none⟩ = some (.string desc)) :
    Calls Try.prog 14 #[.pointer (some ⟨E, 0, none⟩)] w fun e w' => ∃ M b1 b2 : Nat, e = .returned (.map (some M)) ∧ IsPar w' M b1 b2 code desc ∧ w.heap.size ≤ M ∧ w.heap.size ≤ b1 ∧ w.heap.size ≤ b2 ∧ Below w.heap.size w w' := by
  go_enter Try.func14, Try.ntmps14
  go_wp2_with (go_at_call 23; refine (params_any E code desc _ c0 c1).mono ?_; rintro e w' ⟨M, b1, b2, rfl, hp, h1, h2, h3, hb⟩)
  go_ret
  exact ⟨M, b1, b2, rfl, hp, h1, h2, h3, hb⟩
theorem code_any (E : Nat) (code : ByteArray) (w : World) (c0 : w.cell? ⟨E, 0, none⟩ = some (.string code)) :
    Calls Try.prog 16 #[.pointer (some ⟨E, 0, none⟩)] w fun e w' => e = .returned (.string code) ∧ w' = w := by
  go_enter Try.func16, Try.ntmps16
  go_wp2
  go_ret
  exact ⟨rfl, rfl⟩
theorem desc_any (E : Nat) (desc : ByteArray) (w : World) (c1 : w.cell? ⟨E, 1, none⟩ = some (.string desc)) :
    Calls Try.prog 17 #[.pointer (some ⟨E, 0, none⟩)] w fun e w' => e = .returned (.string desc) ∧ w' = w := by
  go_enter Try.func17, Try.ntmps17
  go_wp2
  go_ret
  exact ⟨rfl, rfl⟩

set_option maxRecDepth 100000 in
set_option maxHeartbeats 1000000 in
theorem main_in (a0 a1 a2 : ByteArray) (w : World) (h0 : a0.size ≤ 262144) (h1 : a1.size ≤ 262144) (h2 : a2.size ≤ 262144) :
    Calls Try.prog 4 #[.string a0, .string a1, .string a2] w fun e w' => e = .returned (.bool true) ∧ Below w.heap.size w w' := by
  go_enter Try.func4, Try.ntmps4
  go_wp2_with (go_at_call 12; refine (bytes_any _ _ _ _).mono ?_; rintro e w' ⟨⟨b, rfl⟩, rfl⟩)
  · go_ret
    exact ⟨rfl, Below.refl _ _⟩
  refine (new_any _ _ _).mono ?_
  rintro e w1 ⟨rfl, hw1⟩
  have B1 : Below w'.heap.size w' w1 := by rw [hw1]; exact (Below.refl _ _).alloc (Nat.le_refl _) _
  have E0 : w1.cell? ⟨w'.heap.size, 0, none⟩ = some (.string a0) := by rw [hw1]; go_simp
  have E1 : w1.cell? ⟨w'.heap.size, 1, none⟩ = some (.string a1) := by rw [hw1]; go_simp
  have S1 : w'.heap.size < w1.heap.size := by rw [hw1]; simp
  clear hw1
  go_wp2_with fail
  refine (par_any w'.heap.size a0 a1 _ E0 E1).mono ?_
  rintro e w2 ⟨M, b1, b2, rfl, hp, m1, m2, m3, hb2⟩
  have HE : Hid (w1.cell? ⟨w'.heap.size, 0, none⟩ = some (.string a0) ∧ w1.cell? ⟨w'.heap.size, 1, none⟩ = some (.string a1)) := ⟨E0, E1⟩
  have HP : Hid (IsPar w2 M b1 b2 a0 a1) := hp
  clear hp E0 E1
  go_wp2_with fail
  refine (has_any M b1 b2 a0 a1 _ HP.out).mono ?_
  rintro e w3 ⟨rfl, rfl⟩
  obtain ⟨W2, hrun, hthree, hcell, hB2⟩ := HP.out.state (.cells #[.string a2] 9) (.slice (some ⟨w3.heap.size, 0, none⟩) 1 1) hb2 m1
  have hlook := hthree.look
  have hc1 := cell_of hcell
  have hf1 : W2.frozen? ⟨b1, 0, none⟩ = false := by simp [World.frozen?, hcell]
  obtain ⟨W4, hrun4, hB4⟩ := hthree.desc HP.out.apart (.string a2) (.slice none 0 0) hB2 m1 m2
  have F0 := (hB4.cell (p := ⟨w'.heap.size, 0, none⟩) S1).trans HE.out.1
  have F1 := (hB4.cell (p := ⟨w'.heap.size, 1, none⟩) S1).trans HE.out.2
  have S4 : w'.heap.size < W4.heap.size := Nat.lt_of_lt_of_le S1 hB4.size
  clear hthree hcell hB2 HP
  go_wp2_with fail
  clear hrun hrun4 hlook hc1 hf1
  refine (par_any w'.heap.size a0 a1 _ F0 F1).mono ?_
  rintro e w5 ⟨M', b1', b2', rfl, hp', m1', m2', m3', hb5⟩
  have G0 := (hb5.cell (p := ⟨w'.heap.size, 0, none⟩) S4).trans F0
  have G1 := (hb5.cell (p := ⟨w'.heap.size, 1, none⟩) S4).trans F1
  have HP' : Hid (IsPar w5 M' b1' b2' a0 a1) := hp'
  have B5 : Below w'.heap.size w' w5 := (B1.trans (hB4.mono B1.size)).trans (hb5.mono (Nat.le_of_lt S4))
  clear hp' F0 F1
  go_wp2_with fail
  refine (has_any M' b1' b2' a0 a1 _ HP'.out).mono ?_
  rintro e w6 ⟨rfl, rfl⟩
  go_wp2_with (first
    | (go_at_call 16; refine (code_any _ a0 _ G0).mono ?_; rintro e w7 ⟨rfl, rfl⟩)
    | (go_at_call 17; refine (desc_any _ a1 _ G1).mono ?_; rintro e w7 ⟨rfl, rfl⟩))
  go_ret
  exact ⟨rfl, B5⟩

set_option maxRecDepth 100000 in
set_option maxHeartbeats 1000000 in
theorem main_out (a0 a1 a2 : ByteArray) (w : World) (h : ¬ a0.size ≤ 262144 ∨ (a0.size ≤ 262144 ∧ ¬ a1.size ≤ 262144) ∨ (a0.size ≤ 262144 ∧ a1.size ≤ 262144 ∧ ¬ a2.size ≤ 262144)) :
    Calls Try.prog 4 #[.string a0, .string a1, .string a2] w fun e w' => e = .returned (.bool true) ∧ Below w.heap.size w w' := by
  rcases h with h0 | ⟨h0, h1⟩ | ⟨h0, h1, h2⟩
  all_goals
    go_enter Try.func4, Try.ntmps4
    go_wp2_with (go_at_call 12; refine (bytes_any _ _ _ _).mono ?_; rintro e w' ⟨⟨b, rfl⟩, rfl⟩)
    all_goals
      go_ret
      exact ⟨rfl, Below.refl _ _⟩

theorem main_any (a0 a1 a2 : ByteArray) (w : World) :
    Calls Try.prog 4 #[.string a0, .string a1, .string a2] w fun e w' => e = .returned (.bool true) ∧ Below w.heap.size w w' := by
  by_cases h0 : a0.size ≤ 262144
  · by_cases h1 : a1.size ≤ 262144
    · by_cases h2 : a2.size ≤ 262144
      · exact main_in a0 a1 a2 w h0 h1 h2
      · exact main_out a0 a1 a2 w (by simp [h0, h1, h2])
    · exact main_out a0 a1 a2 w (by simp [h0, h1])
  · exact main_out a0 a1 a2 w (by simp [h0])
end Go.Proofs.Qxb6614053a
