/-
  repeat (nothing is found); the bytes' row: growth, copy.
-/
import Derived.Test.Qxb6614074aFmtWf
import Derived.Test.Qxb6614074aFmtWd
namespace Go.Proofs.Qxb6614074aFmt
open Go.RowKit Go.Lib
set_option linter.unusedVariables false

/-- find answers i and 'not there' in every world that keeps w's memory. -/
def Finds (w : World) (p : Nat) (t i : Int) : Prop :=
  ∀ w', Below w.heap.size w w' → Calls Tryf.prog 20 #[.pointer (some ⟨p, 0, none⟩), .int .i64 t] w' fun e w'' => e = .returned (.tuple #[.int .i64 i, .bool false]) ∧ Below w'.heap.size w' w''

set_option maxRecDepth 100000 in
set_option maxHeartbeats 1000000 in
theorem repeat_no (p : Nat) (t i : Int) (more : Bool) (a : Option Addr) (n c : Nat) (w : World) (hf : Finds w p t i) (ht : 0 ≤ t) (ht2 : t + n ≤ 65535) :
    Calls Tryf.prog 14 #[.pointer (some ⟨p, 0, none⟩), .agg #[.int .u8 17, .int .i64 t, .bool more, .int .u32 0], .slice a n c, .bool true] w fun e w' => e = .returned (.bool false) ∧ Below w.heap.size w w' := by
  have hw : IntKind.i64.wrap (t + (n : Int)) = t + n := by rw [IntKind.wrap_i64]; omega
  have HF : Hid (Finds w p t i) := hf
  clear hf
  go_enter Tryf.func14, Tryf.ntmps14
  go_wp2_with fail
  go_quiet (fail)
  go_wp2_with fail
  refine (HF.out _ ?_).mono ?_
  · exact below_drewN ((Below.refl _ _).alloc (Nat.le_refl _) _) _
  rintro e w1 ⟨rfl, hb⟩
  go_wp2_with fail
  go_ret
  have h0 := below_drewN ((Below.refl w.heap.size w).alloc (Nat.le_refl _) (.cells #[.int .u8 17, .int .i64 t, .bool more, .int .u32 0] 61)) nq
  exact ⟨rfl, h0.trans (hb.mono h0.size)⟩

/-- The bytes f (o), f (o + 1), .. as cells. -/
def bs (f : Nat → Int) (o m : Nat) : List Value := (List.range m).map fun j => .int .u8 (f (o + j))
theorem bs_len (f : Nat → Int) (o m : Nat) : (bs f o m).length = m := by simp [bs]
theorem bs_at {f : Nat → Int} {o m j : Nat} (h : j < m) : (bs f o m)[j]? = some (.int .u8 (f (o + j))) := by simp [bs, h]
theorem bs_one (f : Nat → Int) (o m : Nat) : ∀ v ∈ bs f o m, v.oneCell' = true := by
  intro v hv
  simp only [bs, List.mem_map] at hv
  obtain ⟨j, _, rfl⟩ := hv
  rfl

/-- Block b holds a row of C bytes, those from lo to hi being f's. -/
def Bf (w : World) (b C lo hi : Nat) (f : Nat → Int) : Prop := ∃ row, Own w b 5 row ∧ row.size = C ∧ ∀ j, lo ≤ j → j < hi → row[j]? = some (.int .u8 (f j))
theorem Bf.but {w w' : World} {b C lo hi x : Nat} {f : Nat → Int} (h : Bf w b C lo hi f) (hb : But x w w') (hx : b ≠ x) : Bf w' b C lo hi f := by
  obtain ⟨row, ho, hr⟩ := h
  exact ⟨row, hb.own ho hx, hr⟩
theorem Bf.below {w w' : World} {b C lo hi : Nat} {f : Nat → Int} (h : Bf w b C lo hi f) (hb : Below w.heap.size w w') : Bf w' b C lo hi f := by
  obtain ⟨row, ho, hr⟩ := h
  exact ⟨row, ho.below hb ho.lt, hr⟩
theorem Bf.ne_sp {w : World} {b C lo hi sb D : Nat} {f : Nat → Int} {l : List Value} (h : Bf w b C lo hi f) (h' : Sp w sb D l) : b ≠ sb := by
  obtain ⟨row, ho, _⟩ := h
  obtain ⟨row', ho', _⟩ := h'
  exact ho.ne ho' (by decide)
theorem Bf.ne_pd {w : World} {b C lo hi p : Nat} {f : Nat → Int} {c : Array Value} (h : Bf w b C lo hi f) (h' : Own w p 58 c) : b ≠ p := by
  obtain ⟨row, ho, _⟩ := h
  exact ho.ne h' (by decide)
theorem Sp.ne_pd {w : World} {b C p : Nat} {l : List Value} {c : Array Value} (h : Sp w b C l) (h' : Own w p 58 c) : b ≠ p := by
  obtain ⟨row, ho, _⟩ := h
  exact ho.ne h' (by decide)
theorem Bf.lt {w : World} {b C lo hi : Nat} {f : Nat → Int} (h : Bf w b C lo hi f) : b < w.heap.size := by
  obtain ⟨row, ho, _⟩ := h
  exact ho.lt
theorem Sp.lt {w : World} {b C : Nat} {l : List Value} (h : Sp w b C l) : b < w.heap.size := by
  obtain ⟨row, ho, _⟩ := h
  exact ho.lt

theorem zero8_size (n : Nat) : (Builtin.zeroCells (Value.int .u8 0).cells n).size = n := by simp [Builtin.zeroCells, Value.cells]

/-- append(nil, make([]byte, m)...). -/
theorem grow0 (m : Nat) (hm : 0 < m) (hm2 : m ≤ 65535) (f : Nat → Int) (w : World) :
    ∃ bb C W, (∀ ty, (Builtin.append_ #[22, 3] ty #[.slice none 0 0, .int .i64 m]).run Tryf.prog w = .ok (.slice (some ⟨bb, 0, none⟩) m C) W) ∧ m ≤ C ∧ w.heap.size ≤ bb ∧ Bf W bb C 0 0 f ∧ Below w.heap.size w W := by
  obtain ⟨i, hi, hzz⟩ := Option.map_eq_some_iff.1 info5
  simp only [Prod.mk.injEq] at hzz
  obtain ⟨hz, hsz, hb⟩ := hzz
  have hr := fun ty => Lib.run_append_nil_zeros (P := Tryf.prog) w 22 3 ty 5 i _ .i64 .i64 Tryf.underlying22 Tryf.underlying3 hi hz m hm (by rw [hsz]; omega) (by omega) (by rw [hb]; omega)
  have hge := grownCap_ge w m 0 5
  generalize grownCap w m 0 5 = G at hr hge
  refine ⟨_, _, _, hr, hge, Nat.le_refl _, ⟨_, Own.new w.drew _ _, ?_, fun j _ hj => absurd hj (Nat.not_lt_zero _)⟩, Below.alloc (Below.drew (Below.refl _ _)) (Nat.le_refl _) _⟩
  rw [Array.size_append, zero8_size, zero8_size]; omega

/-- append(buf, make([]byte, d)...) onto k bytes. -/
theorem grow1 (bb C k d : Nat) (hd : 0 < d) (hkd : k + d ≤ 65535) (f : Nat → Int) (w : World) (hB : Bf w bb C 0 k f) (hk : k ≤ C) :
    ∃ bb' C' W, (∀ ty, (Builtin.append_ #[22, 3] ty #[.slice (some ⟨bb, 0, none⟩) k C, .int .i64 d]).run Tryf.prog w = .ok (.slice (some ⟨bb', 0, none⟩) (k + d) C') W) ∧ k + d ≤ C' ∧ (bb' = bb ∨ w.heap.size ≤ bb') ∧ Bf W bb' C' 0 k f ∧ But bb w W := by
  obtain ⟨i, hi, hzz⟩ := Option.map_eq_some_iff.1 info5
  simp only [Prod.mk.injEq] at hzz
  obtain ⟨hz, hsz, hb⟩ := hzz
  obtain ⟨row, ho, hrs, hrow⟩ := hB
  have hsrc : ∀ j v, (bs f 0 k)[j]? = some v → row[0 + j]? = some v := fun j v hj => by
    have hlt : j < k := by simpa [bs] using (List.getElem?_eq_some_iff.1 hj).1
    rw [bs_at hlt] at hj
    rw [← hj, Nat.zero_add, hrow j (Nat.zero_le _) hlt]
  by_cases hroom : k + d ≤ C
  · have hZ : (Builtin.zeroCells (Value.int .u8 0).cells d).size = d := zero8_size d
    have hone : ∀ v ∈ (Builtin.zeroCells (Value.int .u8 0).cells d).toList, v.oneCell' = true := by
      intro v hv
      simp [Builtin.zeroCells, Value.cells] at hv
      obtain ⟨x, _, hx⟩ := hv
      rw [Nat.mod_one] at hx
      rw [← hx]
      rfl
    have hfit : k + (Builtin.zeroCells (Value.int .u8 0).cells d).toList.length ≤ row.size := by rw [Array.length_toList, hZ, hrs]; exact hroom
    have hst := run_storeCells_at Tryf.prog bb k 5 (Builtin.zeroCells (Value.int .u8 0).cells d).toList 0 row w ho (by simpa using hfit) hone
    simp only [Nat.add_zero] at hst
    have hwr : IntKind.i64.wrap (d : Int) = d := by rw [IntKind.wrap_i64]; omega
    have h48 : ¬ (281474976710656 < (d : Int)) := by omega
    have hneg : ¬ ((d : Int) < 0) := by omega
    have hd0 : ¬ (d = 0) := by omega
    refine ⟨bb, C, w.setRow bb (spl row k (Builtin.zeroCells (Value.int .u8 0).cells d).toList), fun ty => ?_, hroom, .inl rfl, ⟨_, ho.setRow _, by rw [spl_size hfit]; exact hrs, fun j h0 hj => by rw [spl_lo hfit hj]; exact hrow j h0 hj⟩, (But.refl _ _).setRow _⟩
    simp [Builtin.append_, run_underlying Tryf.underlying22, run_underlying Tryf.underlying3, sizeOf, typeInfo, zeroValue, asInt, asIntOf, hi, hz, hsz, hb, hroom, hwr, hneg, h48, hd0, Addr.add_lit, hst, spl]
  · have hold : (Builtin.firstCells i.size k (.slice (some ⟨bb, 0, none⟩) k C)).run Tryf.prog w.drew = .ok (bs f 0 k).toArray w.drew := by
      rw [hsz]
      exact run_firstCells_some (P := Tryf.prog) w.drew 1 k ⟨bb, 0, none⟩ k C (bs f 0 k) (by rw [bs_len]; omega) (src_of ho.drew hsrc)
    have hr := fun ty => Lib.run_append_grow_zeros (P := Tryf.prog) w 22 3 ty 5 i _ .i64 .i64 Tryf.underlying22 Tryf.underlying3 hi hz (some ⟨bb, 0, none⟩) k C (bs f 0 k) hold d hd (by rw [hsz]; omega) (by omega) (by omega) (by rw [hb]; omega) (growslice_fits (by omega) (by rw [hb]; omega))
    have hge := grownCap_ge w (k + d) C 5
    generalize grownCap w (k + d) C 5 = G at hr hge
    refine ⟨_, _, _, hr, hge, .inr (Nat.le_refl _), ⟨_, Own.new w.drew _ _, ?_, fun j h0 hj => ?_⟩, (But.refl _ _).drew.alloc _⟩
    · rw [Array.size_append, Array.size_append, zero8_size, zero8_size]; simp [bs]; omega
    · rw [Array.getElem?_append_left (by rw [Array.size_append, zero8_size]; simp [bs]; omega), Array.getElem?_append_left (by simpa [bs] using hj)]
      simpa using bs_at (f := f) (o := 0) hj

/-- copy of m bytes of the data into the row at o. -/
theorem copy8 (w : World) (g o m dCap pb po sCap C : Nat) (cur : Array Value) (f : Nat → Int) (hg : Own w g 5 cur) (hsrc : ∀ j, j < m → w.cell? ⟨pb, po + j, none⟩ = some (.int .u8 (f (o + j)))) (hfit : o + m ≤ cur.size) :
    ∃ W, (∀ ty, (Builtin.copy_ #[22, 22] ty #[.slice (some ⟨g, o, none⟩) m dCap, .slice (some ⟨pb, po, none⟩) m sCap]).run Tryf.prog w = .ok (goInt m) W) ∧ Own W g 5 (spl cur o (bs f o m)) ∧ But g w W := by
  have hs : (Tryf.prog.info? 5).map (·.size) = some 1 := by kernel_rfl
  have hr := fun ty => run_copy_row (P := Tryf.prog) w 22 22 ty 5 g o m dCap ⟨pb, po, none⟩ m sCap cur 5 (bs f o m) Tryf.underlying22 hs hg (by rw [bs_len]; simp) (fun j v hj => by
    have hlt : j < m := by simpa [bs] using (List.getElem?_eq_some_iff.1 hj).1
    rw [bs_at hlt] at hj
    rw [← hj, Addr.add_lit]
    exact hsrc j hlt) (by rw [bs_len]; exact hfit) (bs_one _ _ _)
  rw [bs_len] at hr
  refine ⟨w.setRow g (spl cur o (bs f o m)), fun ty => ?_, hg.setRow _, (But.refl _ _).setRow _⟩
  rw [hr ty]
  simp only [spl, bs_len]

/-- The world behind the header's nine cells. -/
def hdW (wu : World) (p : Nat) (z : Option Addr) (sp dp : Int) : World := (((((((((wu.setCell ⟨p, 11, none⟩ (.int .u64 0)).setCell ⟨p, 12, none⟩ (.int .u64 0)).setCell ⟨p, 13, none⟩ (.pointer z)).setCell ⟨p, 14, none⟩ (.int .u16 sp)).setCell ⟨p, 15, none⟩ (.int .u64 0)).setCell ⟨p, 16, none⟩ (.int .u64 0)).setCell ⟨p, 17, none⟩ (.pointer z)).setCell ⟨p, 18, none⟩ (.int .u16 dp)).setCell ⟨p, 19, none⟩ (.slice none 0 0))
theorem hd_arr (z : Option Addr) (sp dp : Int) (buf spans : Value) (held len ahead : Int) : ((((((((((pdA z none 0 0 false 0 buf spans held len ahead).setIfInBounds 11 (.int .u64 0)).setIfInBounds 12 (.int .u64 0)).setIfInBounds 13 (.pointer z)).setIfInBounds 14 (.int .u16 sp)).setIfInBounds 15 (.int .u64 0)).setIfInBounds 16 (.int .u64 0)).setIfInBounds 17 (.pointer z)).setIfInBounds 18 (.int .u16 dp)).setIfInBounds 19 (.slice none 0 0)) = pdA z z sp dp false 0 buf spans held len ahead := by simp [pdA]
theorem hd_own {wu : World} {p : Nat} {z : Option Addr} {buf spans : Value} {held len ahead : Int} (sp dp : Int) (ou : Own wu p 58 (pdA z none 0 0 false 0 buf spans held len ahead)) : Own (hdW wu p z sp dp) p 58 (pdA z z sp dp false 0 buf spans held len ahead) := by
  have h := (((((((((ou.set 11 (.int .u64 0) rfl).set 12 (.int .u64 0) rfl).set 13 (.pointer z) rfl).set 14 (.int .u16 sp) rfl).set 15 (.int .u64 0) rfl).set 16 (.int .u64 0) rfl).set 17 (.pointer z) rfl).set 18 (.int .u16 dp) rfl).set 19 (.slice none 0 0) rfl)
  rw [hd_arr] at h
  exact h
theorem hd_but (wu : World) (p : Nat) (z : Option Addr) (sp dp : Int) : But p wu (hdW wu p z sp dp) := ((((((((((But.refl p wu).setCell 11 (.int .u64 0)).setCell 12 (.int .u64 0)).setCell 13 (.pointer z)).setCell 14 (.int .u16 sp)).setCell 15 (.int .u64 0)).setCell 16 (.int .u64 0)).setCell 17 (.pointer z)).setCell 18 (.int .u16 dp)).setCell 19 (.slice none 0 0))
end Go.Proofs.Qxb6614074aFmt
