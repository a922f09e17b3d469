/-
  add: the tail first.
-/
import Derived.Test.Qxb6614074aFmtWg
import Derived.Deep.DeepCutAuto
namespace Go.Proofs.Qxb6614074aFmt
open Go.RowKit Go.Lib
set_option linter.unusedVariables false

/-- append of zeros onto nil, as one step of a region that draws. -/
theorem step_grow0 {ops : Array Oper} {o : Oper} {a : Act} {w : World} {K : Act → World → Prop} {Q : Exit → Act → World → Prop} {E : Prop}
    (hg : o.guard = none) (s x : Operand) (hop : o.op = Op.call { callee := Callee.builtin Builtin.append, args := #[s, x], argTypes := #[22, 3] })
    (m : Nat) (hm : 0 < m) (hm2 : m ≤ 65535) (f : Nat → Int) (hs : a.eval s = .slice none 0 0) (hx : a.eval x = .int .i64 m)
    (hK : ∀ bb C W, m ≤ C → w.heap.size ≤ bb → Bf W bb C 0 0 f → Below w.heap.size w W → K (a.put o.dst (.slice (some ⟨bb, 0, none⟩) m C)) W) :
    if Region.wanted o (yielded ops a.tmps) = true then Oper.wp Tryf.prog o a w K Q else E := by
  have hw : Region.wanted o (yielded ops a.tmps) = true := by simp [Region.wanted, hg]
  rw [if_pos hw]
  obtain ⟨bb, C, W, hr, h1, h2, h3, h4⟩ := grow0 m hm hm2 f w
  unfold Oper.wp
  simp [execOp, hop, resolve, invoke, builtin, hs, hx, hr, Result.andThen]
  exact hK _ _ _ h1 h2 h3 h4

/-- append of zeros onto k bytes, as one step of a region that draws. -/
theorem step_grow1 {ops : Array Oper} {o : Oper} {a : Act} {w : World} {K : Act → World → Prop} {Q : Exit → Act → World → Prop} {E : Prop}
    (hg : o.guard = none) (s x : Operand) (hop : o.op = Op.call { callee := Callee.builtin Builtin.append, args := #[s, x], argTypes := #[22, 3] })
    (bb C k d : Nat) (hd : 0 < d) (hkd : k + d ≤ 65535) (f : Nat → Int) (hk : k ≤ C) (hs : a.eval s = .slice (some ⟨bb, 0, none⟩) k C) (hx : a.eval x = .int .i64 d) (hB : Bf w bb C 0 k f)
    (hK : ∀ bb' C' W, k + d ≤ C' → (bb' = bb ∨ w.heap.size ≤ bb') → Bf W bb' C' 0 k f → But bb w W → K (a.put o.dst (.slice (some ⟨bb', 0, none⟩) (k + d) C')) W) :
    if Region.wanted o (yielded ops a.tmps) = true then Oper.wp Tryf.prog o a w K Q else E := by
  have hw : Region.wanted o (yielded ops a.tmps) = true := by simp [Region.wanted, hg]
  rw [if_pos hw]
  obtain ⟨bb', C', W, hr, h1, h2, h3, h4⟩ := grow1 bb C k d hd hkd f w hB hk
  unfold Oper.wp
  simp [execOp, hop, resolve, invoke, builtin, hs, hx, hr, Result.andThen]
  exact hK _ _ _ h1 h2 h3 h4

def hdr (t : Int) (more : Bool) : Array Value := #[.int .u8 17, .int .i64 t, .bool more, .int .u32 0]

set_option maxRecDepth 100000 in
set_option maxHeartbeats 4000000 in
theorem add_tail_first (B p pb po k m c : Nat) (before : Int) (z : Option Addr) (f : Nat → Int) (w : World)
    (hP : Own w p 58 (pdA z none 0 0 false 0 (.slice none 0 0) (.slice none 0 0) 0 (-1) 0)) (hk : 8 ≤ k) (hm : 0 < m) (hb0 : 0 ≤ before) (hbn : before + (k + m) ≤ 65535)
    (hD : ∀ j, j < m → w.cell? ⟨pb, po + k + j, none⟩ = some (.int .u8 (f (k + j)))) (hB : B ≤ p) (hpb : pb < B) :
    Calls Tryf.prog 11 #[.pointer (some ⟨p, 0, none⟩), .int .i64 before, .agg (hdr k false), .slice (some ⟨pb, po + k, none⟩) m c, .bool true] w fun e w' =>
      e = .returned .nilIface ∧ ∃ bb C sb D, Own w' p 58 (pdA z none 0 0 false 0 (.slice (some ⟨bb, 0, none⟩) (k + m) C) (.slice (some ⟨sb, 0, none⟩) 1 D) m (k + m) 1) ∧ Bf w' bb C k (k + m) f ∧ Sp w' sb D (sp3 k (k + m)) ∧ k + m ≤ C ∧ 1 ≤ D ∧ B ≤ bb ∧ B ≤ sb ∧ Below B w w' := by
  have hplt := hP.lt
  have oh : Own (w.alloc (.cells (hdr k false) 61)) w.heap.size 61 (hdr k false) := Own.new _ _ _
  have oP := hP.alloc (.cells (hdr k false) 61)
  have hrep := repeat_no p k 0 false (some ⟨pb, po + k, none⟩) m c (w.alloc (.cells (hdr k false) 61)) (fun w' hb => find0 p none 0 k w' ((oP.below hb oP.lt).cell (i := 23) rfl)) (by omega) (by omega)
  have HP : Hid (Own w p 58 (pdA z none 0 0 false 0 (.slice none 0 0) (.slice none 0 0) 0 (-1) 0)) := hP
  have HO : Hid (Own (w.alloc (.cells (hdr k false) 61)) w.heap.size 61 (hdr k false) ∧ Own (w.alloc (.cells (hdr k false) 61)) p 58 (pdA z none 0 0 false 0 (.slice none 0 0) (.slice none 0 0) 0 (-1) 0)) := ⟨oh, oP⟩
  clear hP oh oP
  unfold hdr at hrep ⊢
  go_enter Tryf.func11, Tryf.ntmps11
  go_wp2_with fail
  refine hrep.mono ?_
  rintro e w1 ⟨rfl, hb1⟩
  clear hrep
  have bel1 : Below w.heap.size w w1 := ((Below.refl _ _).alloc (Nat.le_refl _) _).trans (hb1.mono (by simp))
  have oh1 : Own w1 w.heap.size 61 (hdr k false) := HO.out.1.below hb1 (by simp)
  have oP1 := HO.out.2.below hb1 HO.out.2.lt
  have e0 := oh1.cell (i := 0) (v := .int .u8 17) rfl
  have e1 := oh1.cell (i := 1) (v := .int .i64 k) rfl
  have e2 := oh1.cell (i := 2) (v := .bool false) rfl
  have p20 := oP1.cell (i := 20) (v := .bool false) rfl
  have p22 := oP1.cell (i := 22) (v := .slice none 0 0) rfl
  have p23 := oP1.cell (i := 23) (v := .slice none 0 0) rfl
  have p25 := oP1.cell (i := 25) (v := .int .i64 (-1)) rfl
  have HO1 : Hid (Own w1 w.heap.size 61 (hdr k false) ∧ Own w1 p 58 (pdA z none 0 0 false 0 (.slice none 0 0) (.slice none 0 0) 0 (-1) 0)) := ⟨oh1, oP1⟩
  clear HO oh1 oP1 hb1
  have hw : IntKind.i64.wrap ((k : Int) + (m : Int)) = k + m := by rw [IntKind.wrap_i64]; omega
  have hw2 : IntKind.i64.wrap (before + ((k : Int) + (m : Int))) = before + (k + m) := by rw [IntKind.wrap_i64]; omega
  have g0 : ((k : Int) == 0) = false := by simp; omega
  have g1 : ((m : Int) == 0) = false := by simp; omega
  have g2 : ¬ (65535 < before + ((k : Int) + (m : Int))) := by omega
  go_wp2_with fail
  go_quiet (fail)
  go_wp2_with fail
  refine (find0 p none 0 k (w1.drewN nq) p23).mono ?_
  rintro e w2 ⟨rfl, hb2⟩
  have bel2 : Below w1.heap.size w1 w2 := (below_drewN (Below.refl _ _) nq).trans hb2
  have oh2 := HO1.out.1.below bel2 HO1.out.1.lt
  have oP2 := HO1.out.2.below bel2 HO1.out.2.lt
  clear e0 e1 e2 p20 p22 p23 p25 hb2
  have e2 := oh2.cell (i := 2) (v := .bool false) rfl
  have p20 := oP2.cell (i := 20) (v := .bool false) rfl
  have p22 := oP2.cell (i := 22) (v := .slice none 0 0) rfl
  have p23 := oP2.cell (i := 23) (v := .slice none 0 0) rfl
  have p24 := oP2.cell (i := 24) (v := .int .i64 0) rfl
  have p25 := oP2.cell (i := 25) (v := .int .i64 (-1)) rfl
  have p27 := oP2.cell (i := 27) (v := .int .i64 0) rfl
  have z22 := oP2.frozen 22
  have HO2 : Hid (Own w2 p 58 (pdA z none 0 0 false 0 (.slice none 0 0) (.slice none 0 0) 0 (-1) 0)) := oP2
  have BE2 : Hid (Below w.heap.size w w2) := bel1.trans (bel2.mono bel1.size)
  clear HO1 oP2 oh2 bel1 bel2
  go_wp2_with fail
  go_quiet (fail)
  go_wp2_with fail
  have mixed : Tryf.prog.follows Departure.mixedOrders = true := by kernel_rfl
  have hpl2 : p < w2.heap.size := HO2.out.lt
  have BB : Below B w w2 := BE2.out.mono (by omega)
  go_cut [0] (fun s wx => Hid (s = .pointer (some ⟨p, 0, none⟩) ∧ ∃ bb C, k + m ≤ C ∧ B ≤ bb ∧ Own wx p 58 (pdA z none 0 0 false 0 (.slice (some ⟨bb, 0, none⟩) (k + m) C) (.slice none 0 0) 0 (-1) 0) ∧ Bf wx bb C 0 0 f ∧ Below B w wx))
  case first =>
    go_region_law_o (refine step_grow0 rfl _ _ rfl (k + m) ?_ ?_ f ?_ ?_ ?_; omega; omega; (simp [Act.eval, Act.put]); (simp [Act.eval, Act.put]); intro bb C W h1 h2 h3 h4; have q22 := (h4.cell (p := ⟨p, 22, none⟩) hpl2).trans p22; have y22 := (h4.frozen (p := ⟨p, 22, none⟩) hpl2).trans z22)
    all_goals
      go_wp2_with fail
      go_meet
      case rel =>
        have h2' : w2.heap.size ≤ bb := h2
        have h4' : Below w2.heap.size w2 W := (below_drewN (Below.refl _ _) _).trans h4
        have hne := h3.ne_pd (HO2.out.below h4' hpl2)
        exact ⟨rfl, bb, C, h1, by omega, (HO2.out.below h4' hpl2).set 22 _ rfl, h3.but ((But.refl _ _).setCell 22 _) hne, (BB.trans (h4'.mono (by omega))).setCell hB _⟩
  case rest =>
    obtain ⟨rfl, bb, C, hC, hbb, oP3, bf3, bel3⟩ := hcut.out
    clear hcut p20 p22 p23 p24 p25 p27 z22 e2 HO2 BE2 BB mixed
    obtain ⟨row, orow, hrs, _⟩ := id bf3
    obtain ⟨W4, hc4, o4, b4⟩ := copy8 wc bb k m (C - k) pb (po + k) c C row f orow (fun j hj => (bel3.cell (p := ⟨pb, _, none⟩) hpb).trans (hD j hj)) (by omega)
    have hne := bf3.ne_pd oP3
    have hfit : k + (bs f k m).length ≤ row.size := by rw [bs_len, hrs]; exact hC
    have bf4 : Bf W4 bb C k (k + m) f := ⟨_, o4, by rw [spl_size hfit]; exact hrs, fun j h1 h2 => by
      have := spl_in hfit (j := j - k) (by rw [bs_len]; omega)
      rw [bs_at (by omega), show k + (j - k) = j by omega] at this
      exact this⟩
    have oP4 := b4.own oP3 (Ne.symm hne)
    have bel4 : Below B w W4 := bel3.trans (b4.below hbb (by have := oP3.lt; omega))
    have p22 := oP3.cell (i := 22) (v := .slice (some ⟨bb, 0, none⟩) (k + m) C) rfl
    have p23 := oP4.cell (i := 23) (v := .slice none 0 0) rfl
    have s1 : (k : Int) + (m : Int) ≤ (C : Int) := by omega
    have s2 : (k : Int) ≤ (k : Int) + (m : Int) := by omega
    have s3 : ((k : Int) + (m : Int)).toNat = k + m := by omega
    have s4 : k + m - k = m := by omega
    have s5 : ¬ (C = k) := by omega
    have H4 : Hid (Own W4 p 58 (pdA z none 0 0 false 0 (.slice (some ⟨bb, 0, none⟩) (k + m) C) (.slice none 0 0) 0 (-1) 0) ∧ Bf W4 bb C k (k + m) f ∧ Below B w W4) := ⟨oP4, bf4, bel4⟩
    clear orow hrs hfit o4 b4 bf3 oP3 bel3 bf4 oP4 bel4 hne
    go_wp2_with fail
    refine (insert0 W4.heap.size k (k + m) (W4.alloc (.cells #[.int .i64 k, .int .i64 (k + m), .int .i64 1] 64)) (Own.new _ _ _)).mono ?_
    rintro e w5 ⟨sb, D, rfl, hD1, hsb, sp5, hb5⟩
    have bel45 : Below W4.heap.size W4 w5 := ((Below.refl _ _).alloc (Nat.le_refl _) _).trans (hb5.mono (by simp))
    have oP5 := H4.out.1.below bel45 H4.out.1.lt
    have bf5 := H4.out.2.1.below bel45
    have hlt4 := H4.out.1.lt
    have bel5 : Below B w w5 := H4.out.2.2.trans (bel45.mono (by omega))
    have q23 := oP5.cell (i := 23) (v := .slice none 0 0) rfl
    have q24 := oP5.cell (i := 24) (v := .int .i64 0) rfl
    have q25 := oP5.cell (i := 25) (v := .int .i64 (-1)) rfl
    have q27 := oP5.cell (i := 27) (v := .int .i64 0) rfl
    have y23 := oP5.frozen 23
    have y24 := oP5.frozen 24
    have y25 := oP5.frozen 25
    have y27 := oP5.frozen 27
    have hsB : B ≤ sb := by simp at hsb; omega
    have wm : IntKind.i64.wrap (m : Int) = m := by rw [IntKind.wrap_i64]; omega
    have w01 : IntKind.i64.wrap 1 = 1 := by decide
    have H5 : Hid (Own w5 p 58 (pdA z none 0 0 false 0 (.slice (some ⟨bb, 0, none⟩) (k + m) C) (.slice none 0 0) 0 (-1) 0) ∧ Bf w5 bb C k (k + m) f ∧ Sp w5 sb D (sp3 k (k + m)) ∧ Below B w w5) := ⟨oP5, bf5, sp5, bel5⟩
    clear hsb hb5 bel45 sp5 oP5 bf5 bel5 hlt4 H4
    go_wp2_with fail
    go_ret
    obtain ⟨oP, bf, sp, bel⟩ := H5.out
    have BU : But p w5 ((((w5.setCell ⟨p, 23, none⟩ (.slice (some ⟨sb, 0, none⟩) 1 D)).setCell ⟨p, 24, none⟩ (.int .i64 m)).setCell ⟨p, 27, none⟩ (.int .i64 1)).setCell ⟨p, 25, none⟩ (.int .i64 (k + m))) := ((((But.refl p w5).setCell 23 _).setCell 24 _).setCell 27 _).setCell 25 _
    exact ⟨rfl, bb, C, sb, D, (((oP.set 23 _ rfl).set 24 _ rfl).set 27 _ rfl).set 25 _ rfl, bf.but BU (bf.ne_pd oP), sp.but BU (sp.ne_pd oP), hC, hD1, hbb, hsB, (((bel.setCell hB _).setCell hB _).setCell hB _).setCell hB _⟩
end Go.Proofs.Qxb6614074aFmt
