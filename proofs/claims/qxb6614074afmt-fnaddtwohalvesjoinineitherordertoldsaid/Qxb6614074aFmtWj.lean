/-
  add: the tail second.
-/
import Derived.Test.Qxb6614074aFmtWh
namespace Go.Proofs.Qxb6614074aFmt
open Go.RowKit Go.Lib
set_option linter.unusedVariables false

theorem Sp.cells {w : World} {b D : Nat} {s e : Int} (h : Sp w b D (sp3 s e)) : w.cell? ⟨b, 0, none⟩ = some (.int .i64 s) ∧ w.cell? ⟨b, 1, none⟩ = some (.int .i64 e) ∧ w.cell? ⟨b, 2, none⟩ = some (.int .i64 1) := by
  obtain ⟨row, ho, _, hr⟩ := h
  exact ⟨ho.cell (hr 0 _ rfl), ho.cell (hr 1 _ rfl), ho.cell (hr 2 _ rfl)⟩

set_option maxRecDepth 100000 in
set_option maxHeartbeats 4000000 in
theorem add_tail_second (B p pb po k m c bb C sb D : Nat) (before sp dp : Int) (z : Option Addr) (f : Nat → Int) (w : World)
    (hP : Own w p 58 (pdA z z sp dp true 17 (.slice (some ⟨bb, 0, none⟩) k C) (.slice (some ⟨sb, 0, none⟩) 1 D) k (-1) 1)) (hF : Bf w bb C 0 k f) (hS : Sp w sb D (sp3 0 k)) (hkC : k ≤ C) (hD1 : 1 ≤ D) (hbb : B ≤ bb) (hsb : B ≤ sb)
    (hk : 8 ≤ k) (hm : 0 < m) (hb0 : 0 ≤ before) (hbn : before + (k + m) ≤ 65535)
    (hD : ∀ j, j < m → w.cell? ⟨pb, po + k + j, none⟩ = some (.int .u8 (f (k + j)))) (hB : B ≤ p) (hpb : pb < B) :
    Calls Tryf.prog 11 #[.pointer (some ⟨p, 0, none⟩), .int .i64 before, .agg (hdr k false), .slice (some ⟨pb, po + k, none⟩) m c, .bool true] w fun e w' =>
      e = .returned .nilIface ∧ ∃ bb C sb D, Own w' p 58 (pdA z z sp dp true 17 (.slice (some ⟨bb, 0, none⟩) (k + m) C) (.slice (some ⟨sb, 0, none⟩) 2 D) (k + m) (k + m) 2) ∧ Bf w' bb C 0 (k + m) f ∧ Sp w' sb D (sp3 0 k ++ sp3 k (k + m)) ∧ B ≤ bb ∧ B ≤ sb ∧ Below B w w' := by
  have hplt := hP.lt
  have A1 : Below w.heap.size w (w.alloc (.cells (hdr k false) 61)) := (Below.refl _ _).alloc (Nat.le_refl _) _
  have oh : Own (w.alloc (.cells (hdr k false) 61)) w.heap.size 61 (hdr k false) := Own.new _ _ _
  have oP := hP.alloc (.cells (hdr k false) 61)
  have oS := hS.below A1
  have hrep := repeat_no p k 1 false (some ⟨pb, po + k, none⟩) m c (w.alloc (.cells (hdr k false) 61)) (fun w' hb => by
    obtain ⟨x0, x1, x2⟩ := (oS.below hb).cells
    exact find1_lt p sb D 0 k 1 k w' (by omega) ((oP.below hb oP.lt).cell (i := 23) rfl) x0 x1 x2) (by omega) (by omega)
  have HO : Hid (Own (w.alloc (.cells (hdr k false) 61)) w.heap.size 61 (hdr k false) ∧ Own (w.alloc (.cells (hdr k false) 61)) p 58 (pdA z z sp dp true 17 (.slice (some ⟨bb, 0, none⟩) k C) (.slice (some ⟨sb, 0, none⟩) 1 D) k (-1) 1) ∧ Bf (w.alloc (.cells (hdr k false) 61)) bb C 0 k f ∧ Sp (w.alloc (.cells (hdr k false) 61)) sb D (sp3 0 k)) := ⟨oh, oP, hF.below A1, oS⟩
  clear hP oh oP hF hS oS A1
  unfold hdr at hrep ⊢
  go_enter Tryf.func11, Tryf.ntmps11
  go_wp2_with fail
  refine hrep.mono ?_
  rintro e w1 ⟨rfl, hb1⟩
  clear hrep
  have bel1 : Below w.heap.size w w1 := ((Below.refl _ _).alloc (Nat.le_refl _) _).trans (hb1.mono (by simp))
  have oh1 : Own w1 w.heap.size 61 (hdr k false) := HO.out.1.below hb1 (by simp)
  have oP1 := HO.out.2.1.below hb1 HO.out.2.1.lt
  have oF1 := HO.out.2.2.1.below hb1
  have oS1 := HO.out.2.2.2.below hb1
  have e0 := oh1.cell (i := 0) (v := .int .u8 17) rfl
  have e1 := oh1.cell (i := 1) (v := .int .i64 k) rfl
  have e2 := oh1.cell (i := 2) (v := .bool false) rfl
  have p20 := oP1.cell (i := 20) (v := .bool true) rfl
  have HO1 : Hid (Own w1 w.heap.size 61 (hdr k false) ∧ Own w1 p 58 (pdA z z sp dp true 17 (.slice (some ⟨bb, 0, none⟩) k C) (.slice (some ⟨sb, 0, none⟩) 1 D) k (-1) 1) ∧ Bf w1 bb C 0 k f ∧ Sp w1 sb D (sp3 0 k)) := ⟨oh1, oP1, oF1, oS1⟩
  clear HO oh1 oP1 oF1 oS1 hb1
  have hw : IntKind.i64.wrap ((k : Int) + (m : Int)) = k + m := by rw [IntKind.wrap_i64]; omega
  have hw2 : IntKind.i64.wrap (before + ((k : Int) + (m : Int))) = before + (k + m) := by rw [IntKind.wrap_i64]; omega
  have g0 : ((k : Int) == 0) = false := by simp; omega
  have g1 : ((m : Int) == 0) = false := by simp; omega
  have g2 : ¬ (65535 < before + ((k : Int) + (m : Int))) := by omega
  go_wp2_with fail
  go_quiet (fail)
  go_wp2_with fail
  obtain ⟨x0, x1, x2⟩ := HO1.out.2.2.2.cells
  refine (find1_lt p sb D 0 k 1 k (w1.drewN nq) (by omega) (HO1.out.2.1.cell (i := 23) rfl) x0 x1 x2).mono ?_
  rintro e w2 ⟨rfl, hb2⟩
  have bel2 : Below w1.heap.size w1 w2 := (below_drewN (Below.refl _ _) nq).trans hb2
  have oh2 := HO1.out.1.below bel2 HO1.out.1.lt
  have oP2 := HO1.out.2.1.below bel2 HO1.out.2.1.lt
  have oF2 := HO1.out.2.2.1.below bel2
  have oS2 := HO1.out.2.2.2.below bel2
  clear e0 e1 e2 p20 hb2 x0 x1 x2
  have e2 := oh2.cell (i := 2) (v := .bool false) rfl
  obtain ⟨x0, x1, x2⟩ := oS2.cells
  have p22 := oP2.cell (i := 22) (v := .slice (some ⟨bb, 0, none⟩) k C) rfl
  have p23 := oP2.cell (i := 23) (v := .slice (some ⟨sb, 0, none⟩) 1 D) rfl
  have p25 := oP2.cell (i := 25) (v := .int .i64 (-1)) rfl
  have z22 := oP2.frozen 22
  have hpl2 : p < w2.heap.size := oP2.lt
  have hnbp : p ≠ bb := Ne.symm (oF2.ne_pd oP2)
  have hnbs : sb ≠ bb := Ne.symm (oF2.ne_sp oS2)
  have HO2 : Hid (Own w2 p 58 (pdA z z sp dp true 17 (.slice (some ⟨bb, 0, none⟩) k C) (.slice (some ⟨sb, 0, none⟩) 1 D) k (-1) 1) ∧ Bf w2 bb C 0 k f ∧ Sp w2 sb D (sp3 0 k)) := ⟨oP2, oF2, oS2⟩
  have BB : Below B w w2 := (bel1.trans (bel2.mono bel1.size)).mono (by omega)
  have hs2 : w.heap.size ≤ w2.heap.size := (bel1.trans (bel2.mono bel1.size)).size
  clear HO1 oP2 oh2 oF2 oS2 bel1 bel2
  have w11 : IntKind.i64.wrap 1 = 1 := by decide
  have g4 : decide ((k : Int) + (m : Int) < (k : Int)) = false := by simp; omega
  have g5 : (k : Int) < (k : Int) + (m : Int) := by omega
  have wm : IntKind.i64.wrap (m : Int) = m := by rw [IntKind.wrap_i64]; omega
  have wd : IntKind.i64.wrap ((k : Int) + (m : Int) - (k : Int)) = m := by rw [IntKind.wrap_i64]; omega
  have mixed : Tryf.prog.follows Departure.mixedOrders = true := by kernel_rfl
  go_wp2_with fail
  go_quiet (fail)
  go_wp2_with fail
  go_cut [0] (fun s wx => Hid (s = .pointer (some ⟨p, 0, none⟩) ∧ ∃ bb C, k + m ≤ C ∧ B ≤ bb ∧ Own wx p 58 (pdA z z sp dp true 17 (.slice (some ⟨bb, 0, none⟩) (k + m) C) (.slice (some ⟨sb, 0, none⟩) 1 D) k (-1) 1) ∧ Bf wx bb C 0 k f ∧ Sp wx sb D (sp3 0 k) ∧ Below B w wx))
  case first =>
    go_region_law_o (refine step_grow1 rfl _ _ rfl bb C k m ?_ ?_ f ?_ ?_ ?_ ?_ ?_; omega; omega; omega; (simp [Act.eval, Act.put]); (simp [Act.eval, Act.put]); exact HO2.out.2.1; intro bb' C' W h1 h2 h3 h4; have oW : Own W p 58 (pdA z z sp dp true 17 (.slice (some ⟨bb, 0, none⟩) k C) (.slice (some ⟨sb, 0, none⟩) 1 D) k (-1) 1) := h4.own (HO2.out.1 : Own w2 p 58 _) hnbp; have q22 := oW.cell (i := 22) (v := .slice (some ⟨bb, 0, none⟩) k C) rfl; have y22 := oW.frozen 22)
    all_goals
      go_wp2_with fail
      go_meet
      case rel =>
        have h2' : bb' = bb ∨ w2.heap.size ≤ bb' := h2
        have h4' : But bb w2 W := ⟨h4.os, h4.tape, h4.output, h4.size, h4.block⟩
        have sW : Sp W sb D (sp3 0 k) := HO2.out.2.2.but h4' hnbs
        exact ⟨rfl, bb', C', h1, by omega, oW.set 22 _ rfl, h3.but ((But.refl p _).setCell 22 _) (h3.ne_pd oW), sW.but ((But.refl p _).setCell 22 _) (sW.ne_pd oW), (BB.trans (h4'.below hbb (by omega))).setCell hB _⟩
  case rest =>
    obtain ⟨rfl, bb', C', hC, hbb', oP3, bf3, sp3', bel3⟩ := hcut.out
    clear hcut p22 p23 p25 z22 e2 HO2 BB mixed x0 x1 x2 hnbp hnbs
    obtain ⟨row, orow, hrs, hrow⟩ := id bf3
    obtain ⟨W4, hc4, o4, b4⟩ := copy8 wc bb' k m (C' - k) pb (po + k) c C' row f orow (fun j hj => (bel3.cell (p := ⟨pb, _, none⟩) hpb).trans (hD j hj)) (by omega)
    have hne := bf3.ne_pd oP3
    have hnes := bf3.ne_sp sp3'
    have hfit : k + (bs f k m).length ≤ row.size := by rw [bs_len, hrs]; exact hC
    have bf4 : Bf W4 bb' C' 0 (k + m) f := ⟨_, o4, by rw [spl_size hfit]; exact hrs, fun j h1 h2 => by
      by_cases hj : j < k
      · rw [spl_lo hfit hj]; exact hrow j h1 hj
      · have := spl_in hfit (j := j - k) (by rw [bs_len]; omega)
        rw [bs_at (by omega), show k + (j - k) = j by omega] at this
        exact this⟩
    have oP4 := b4.own oP3 (Ne.symm hne)
    have sp4 := sp3'.but b4 (Ne.symm hnes)
    have bel4 : Below B w W4 := bel3.trans (b4.below hbb' (by have := oP3.lt; omega))
    have p22 := oP3.cell (i := 22) (v := .slice (some ⟨bb', 0, none⟩) (k + m) C') rfl
    have p23 := oP4.cell (i := 23) (v := .slice (some ⟨sb, 0, none⟩) 1 D) rfl
    have s1 : (k : Int) + (m : Int) ≤ (C' : Int) := by omega
    have s2 : (k : Int) ≤ (k : Int) + (m : Int) := by omega
    have s3 : ((k : Int) + (m : Int)).toNat = k + m := by omega
    have s4 : k + m - k = m := by omega
    have s5 : ¬ (C' = k) := by omega
    have H4 : Hid (Own W4 p 58 (pdA z z sp dp true 17 (.slice (some ⟨bb', 0, none⟩) (k + m) C') (.slice (some ⟨sb, 0, none⟩) 1 D) k (-1) 1) ∧ Bf W4 bb' C' 0 (k + m) f ∧ Sp W4 sb D (sp3 0 k) ∧ Below B w W4) := ⟨oP4, bf4, sp4, bel4⟩
    clear orow hrs hrow hfit o4 b4 bf3 oP3 sp3' bel3 bf4 oP4 sp4 bel4 hne hnes
    go_wp2_with fail
    have A4 : Below W4.heap.size W4 (W4.alloc (.cells #[.int .i64 k, .int .i64 (k + m), .int .i64 1] 64)) := (Below.refl _ _).alloc (Nat.le_refl _) _
    refine (insert_end sb D W4.heap.size 0 k k (k + m) (W4.alloc (.cells #[.int .i64 k, .int .i64 (k + m), .int .i64 1] 64)) hD1 (H4.out.2.2.1.below A4) (Own.new _ _ _)).mono ?_
    rintro e w5 ⟨sb', D', rfl, hD2, hsb2, sp5, hb5⟩
    have oPa := H4.out.1.below A4 H4.out.1.lt
    have bfa := H4.out.2.1.below A4
    have spa := H4.out.2.2.1.below A4
    have oP5 := hb5.own oPa (Ne.symm (spa.ne_pd oPa))
    have bf5 := bfa.but hb5 (bfa.ne_sp spa)
    have hlt4 := H4.out.1.lt
    have bel5 : Below B w w5 := (H4.out.2.2.2.trans (A4.mono (by omega))).trans (hb5.below hsb (by simp; omega))
    have q23 := oP5.cell (i := 23) (v := .slice (some ⟨sb, 0, none⟩) 1 D) rfl
    have q24 := oP5.cell (i := 24) (v := .int .i64 k) rfl
    have q25 := oP5.cell (i := 25) (v := .int .i64 (-1)) rfl
    have q27 := oP5.cell (i := 27) (v := .int .i64 1) rfl
    have y23 := oP5.frozen 23
    have y24 := oP5.frozen 24
    have y25 := oP5.frozen 25
    have y27 := oP5.frozen 27
    have hsB : B ≤ sb' := by simp at hsb2; omega
    have w22 : IntKind.i64.wrap 2 = 2 := by decide
    have H5 : Hid (Own w5 p 58 (pdA z z sp dp true 17 (.slice (some ⟨bb', 0, none⟩) (k + m) C') (.slice (some ⟨sb, 0, none⟩) 1 D) k (-1) 1) ∧ Bf w5 bb' C' 0 (k + m) f ∧ Sp w5 sb' D' (sp3 0 k ++ sp3 k (k + m)) ∧ Below B w w5) := ⟨oP5, bf5, sp5, bel5⟩
    clear hsb2 hb5 sp5 oP5 bf5 bel5 hlt4 H4 A4 oPa bfa spa
    go_wp2_with fail
    go_ret
    obtain ⟨oP, bf, sp', bel⟩ := H5.out
    have BU : But p w5 ((((w5.setCell ⟨p, 23, none⟩ (.slice (some ⟨sb', 0, none⟩) 2 D')).setCell ⟨p, 24, none⟩ (.int .i64 (k + m))).setCell ⟨p, 27, none⟩ (.int .i64 2)).setCell ⟨p, 25, none⟩ (.int .i64 (k + m))) := ((((But.refl p w5).setCell 23 _).setCell 24 _).setCell 27 _).setCell 25 _
    exact ⟨rfl, bb', C', sb', D', (((oP.set 23 _ rfl).set 24 _ rfl).set 27 _ rfl).set 25 _ rfl, bf.but BU (bf.ne_pd oP), sp'.but BU (sp'.ne_pd oP), hbb', hsB, (((bel.setCell hB _).setCell hB _).setCell hB _).setCell hB _⟩
end Go.Proofs.Qxb6614074aFmt
