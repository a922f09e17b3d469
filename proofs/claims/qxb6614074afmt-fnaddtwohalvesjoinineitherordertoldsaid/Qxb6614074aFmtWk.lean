/-
  add: the head second.
-/
import Derived.Test.Qxb6614074aFmtWj
namespace Go.Proofs.Qxb6614074aFmt
open Go.RowKit Go.Lib
set_option linter.unusedVariables false

set_option maxRecDepth 100000 in
set_option maxHeartbeats 4000000 in
theorem add_head_second (B p pb po k m c bb C sb D : Nat) (before : Int) (z : Option Addr) (f : Nat → Int) (w : World)
    (hP : Own w p 58 (pdA z none 0 0 false 0 (.slice (some ⟨bb, 0, none⟩) (k + m) C) (.slice (some ⟨sb, 0, none⟩) 1 D) m (k + m) 1)) (hF : Bf w bb C k (k + m) f) (hS : Sp w sb D (sp3 k (k + m))) (hkC : k + m ≤ C) (hD1 : 1 ≤ D) (hbb : B ≤ bb) (hsb : B ≤ sb)
    (hk : 8 ≤ k) (hk8 : k % 8 = 0) (hc : k ≤ c) (hm : 0 < m) (hb0 : 0 ≤ before) (hbn : before + (k + m) ≤ 65535)
    (hD : ∀ j, j < k → w.cell? ⟨pb, po + j, none⟩ = some (.int .u8 (f j))) (hB : B ≤ p) (hpb : pb < B) :
    Calls Tryf.prog 11 #[.pointer (some ⟨p, 0, none⟩), .int .i64 before, .agg (hdr 0 true), .slice (some ⟨pb, po, none⟩) k c, .bool true] w fun e w' =>
      e = .returned .nilIface ∧ ∃ bb C sb D, Own w' p 58 (pdA z z (be16 (f 0) (f 1)) (be16 (f 2) (f 3)) true 17 (.slice (some ⟨bb, 0, none⟩) (k + m) C) (.slice (some ⟨sb, 0, none⟩) 2 D) (m + k) (k + m) 2) ∧ Bf w' bb C 0 (k + m) f ∧ Sp w' sb D (sp3 0 k ++ sp3 k (k + m)) ∧ B ≤ bb ∧ B ≤ sb ∧ Below B w w' := by
  have hplt := hP.lt
  have A1 : Below w.heap.size w (w.alloc (.cells (hdr 0 true) 61)) := (Below.refl _ _).alloc (Nat.le_refl _) _
  have oh : Own (w.alloc (.cells (hdr 0 true) 61)) w.heap.size 61 (hdr 0 true) := Own.new _ _ _
  have oP := hP.alloc (.cells (hdr 0 true) 61)
  have oS := hS.below A1
  have hrep := repeat_no p 0 0 true (some ⟨pb, po, none⟩) k c (w.alloc (.cells (hdr 0 true) 61)) (fun w' hb => by
    obtain ⟨x0, x1, x2⟩ := (oS.below hb).cells
    exact find1_gt p sb D k (k + m) 1 0 w' (by omega) ((oP.below hb oP.lt).cell (i := 23) rfl) x0 x1 x2) (by omega) (by omega)
  have HO : Hid (Own (w.alloc (.cells (hdr 0 true) 61)) w.heap.size 61 (hdr 0 true) ∧ Own (w.alloc (.cells (hdr 0 true) 61)) p 58 (pdA z none 0 0 false 0 (.slice (some ⟨bb, 0, none⟩) (k + m) C) (.slice (some ⟨sb, 0, none⟩) 1 D) m (k + m) 1) ∧ Bf (w.alloc (.cells (hdr 0 true) 61)) bb C k (k + m) f ∧ Sp (w.alloc (.cells (hdr 0 true) 61)) sb D (sp3 k (k + m))) := ⟨oh, oP, hF.below A1, oS⟩
  clear hP oh oP hF hS oS A1
  unfold hdr at hrep ⊢
  go_enter Tryf.func11, Tryf.ntmps11
  go_wp2_with fail
  refine hrep.mono ?_
  rintro e w1 ⟨rfl, hb1⟩
  clear hrep
  have bel1 : Below w.heap.size w w1 := ((Below.refl _ _).alloc (Nat.le_refl _) _).trans (hb1.mono (by simp))
  have oh1 : Own w1 w.heap.size 61 (hdr 0 true) := HO.out.1.below hb1 (by simp)
  have oP1 := HO.out.2.1.below hb1 HO.out.2.1.lt
  have oF1 := HO.out.2.2.1.below hb1
  have oS1 := HO.out.2.2.2.below hb1
  have e0 := oh1.cell (i := 0) (v := .int .u8 17) rfl
  have e1 := oh1.cell (i := 1) (v := .int .i64 0) rfl
  have e2 := oh1.cell (i := 2) (v := .bool true) rfl
  have p20 := oP1.cell (i := 20) (v := .bool false) rfl
  have HO1 : Hid (Own w1 w.heap.size 61 (hdr 0 true) ∧ Own w1 p 58 (pdA z none 0 0 false 0 (.slice (some ⟨bb, 0, none⟩) (k + m) C) (.slice (some ⟨sb, 0, none⟩) 1 D) m (k + m) 1) ∧ Bf w1 bb C k (k + m) f ∧ Sp w1 sb D (sp3 k (k + m))) := ⟨oh1, oP1, oF1, oS1⟩
  clear HO oh1 oP1 oF1 oS1 hb1
  have hw : IntKind.i64.wrap (k : Int) = k := by rw [IntKind.wrap_i64]; omega
  have hw2 : IntKind.i64.wrap (before + (k : Int)) = before + k := by rw [IntKind.wrap_i64]; omega
  have g1 : ((k : Int) == 0) = false := by simp; omega
  have g2 : ¬ (65535 < before + (k : Int)) := by omega
  have g3 : (8 : Int) ≤ (k : Int) := by omega
  go_wp2_with fail
  go_quiet (fail)
  go_upto_if 39 with fail
  go_cut [0] (fun s wx => Hid (s = .pointer (some ⟨p, 0, none⟩) ∧ Own wx p 58 (pdA z z (be16 (f 0) (f 1)) (be16 (f 2) (f 3)) true 17 (.slice (some ⟨bb, 0, none⟩) (k + m) C) (.slice (some ⟨sb, 0, none⟩) 1 D) m (k + m) 1) ∧ But p w1 wx))
  case first =>
    go_wp2_with (first | (go_at_call 15; refine (skip_udp _ _ _ _).mono ?_; rintro e wz ⟨rfl, rfl⟩))
    have hl1 := HO1.out.2.1.lt
    have d0 := HO1.out.2.1.cell (i := 0) (v := .int .u64 0) rfl
    have d1 := HO1.out.2.1.cell (i := 1) (v := .int .u64 0) rfl
    have d2 := HO1.out.2.1.cell (i := 2) (v := .pointer z) rfl
    have d3 := HO1.out.2.1.cell (i := 3) (v := .int .u64 0) rfl
    have d4 := HO1.out.2.1.cell (i := 4) (v := .int .u64 0) rfl
    have d5 := HO1.out.2.1.cell (i := 5) (v := .pointer z) rfl
    have hpw : pb < w.heap.size := by omega
    have c0 : w1.cell? ⟨pb, po, none⟩ = some (.int .u8 (f 0)) := (bel1.cell (p := ⟨pb, _, none⟩) hpw).trans (hD 0 (by omega))
    have c1 : w1.cell? ⟨pb, po + 1, none⟩ = some (.int .u8 (f 1)) := (bel1.cell (p := ⟨pb, _, none⟩) hpw).trans (hD 1 (by omega))
    have c2 : w1.cell? ⟨pb, po + 2, none⟩ = some (.int .u8 (f 2)) := (bel1.cell (p := ⟨pb, _, none⟩) hpw).trans (hD 2 (by omega))
    have c3 : w1.cell? ⟨pb, po + 2 + 1, none⟩ = some (.int .u8 (f 3)) := (bel1.cell (p := ⟨pb, _, none⟩) hpw).trans (hD 3 (by omega))
    go_region_held3 (fun w' => w'.cell? ⟨p, 0, none⟩ = some (.int .u64 0) ∧ w'.cell? ⟨p, 1, none⟩ = some (.int .u64 0) ∧ w'.cell? ⟨p, 2, none⟩ = some (.pointer z) ∧ w'.cell? ⟨p, 3, none⟩ = some (.int .u64 0) ∧ w'.cell? ⟨p, 4, none⟩ = some (.int .u64 0) ∧ w'.cell? ⟨p, 5, none⟩ = some (.pointer z))
      (refine ⟨?_, ?_, ?_, ?_, ?_, ?_⟩ <;> (first | with_reducible exact cellN d0 _ | with_reducible exact cellN d1 _ | with_reducible exact cellN d2 _ | with_reducible exact cellN d3 _ | with_reducible exact cellN d4 _ | with_reducible exact cellN d5 _ | with_reducible exact u0 | with_reducible exact u1 | with_reducible exact u2 | with_reducible exact u3 | with_reducible exact u4 | with_reducible exact u5 | go_simp))
      (first | (go_at_call 17; refine (udp_any z pb po k c (f 0) (f 1) (f 2) (f 3) _ ?_ ?_ ?_ ?_ ?_ ?_).mono ?_; omega; omega; exact c0; exact c1; exact c2; exact c3; rintro e wu ⟨rfl, hbu⟩; have hbu2 : Below w1.heap.size w1 wu := (below_drewN (Below.refl _ _) _).trans hbu; have ou := HO1.out.2.1.below hbu2 hl1; have u0 := ou.cell (i := 0) (v := .int .u64 0) rfl; have u1 := ou.cell (i := 1) (v := .int .u64 0) rfl; have u2 := ou.cell (i := 2) (v := .pointer z) rfl; have u3 := ou.cell (i := 3) (v := .int .u64 0) rfl; have u4 := ou.cell (i := 4) (v := .int .u64 0) rfl; have u5 := ou.cell (i := 5) (v := .pointer z) rfl; have u11 := ou.cell (i := 11) (v := .int .u64 0) rfl; have u12 := ou.cell (i := 12) (v := .int .u64 0) rfl; have u13 := ou.cell (i := 13) (v := .pointer none) rfl; have u14 := ou.cell (i := 14) (v := .int .u16 0) rfl; have u15 := ou.cell (i := 15) (v := .int .u64 0) rfl; have u16 := ou.cell (i := 16) (v := .int .u64 0) rfl; have u17 := ou.cell (i := 17) (v := .pointer none) rfl; have u18 := ou.cell (i := 18) (v := .int .u16 0) rfl; have u19 := ou.cell (i := 19) (v := .slice none 0 0) rfl; have u20 := ou.cell (i := 20) (v := .bool false) rfl; have u21 := ou.cell (i := 21) (v := .int .u8 0) rfl; have v11 := ou.frozen 11; have v12 := ou.frozen 12; have v13 := ou.frozen 13; have v14 := ou.frozen 14; have v15 := ou.frozen 15; have v16 := ou.frozen 16; have v17 := ou.frozen 17; have v18 := ou.frozen 18; have v19 := ou.frozen 19; have v20 := ou.frozen 20; have v21 := ou.frozen 21))
    obtain ⟨wv, hwv⟩ : ∃ wv, wv = (((((((((wu.setCell ⟨p, 11, none⟩ (.int .u64 0)).setCell ⟨p, 12, none⟩ (.int .u64 0)).setCell ⟨p, 13, none⟩ (.pointer z)).setCell ⟨p, 14, none⟩ (.int .u16 (be16 (f 0) (f 1)))).setCell ⟨p, 15, none⟩ (.int .u64 0)).setCell ⟨p, 16, none⟩ (.int .u64 0)).setCell ⟨p, 17, none⟩ (.pointer z)).setCell ⟨p, 18, none⟩ (.int .u16 (be16 (f 2) (f 3)))).setCell ⟨p, 19, none⟩ (.slice none 0 0)) := ⟨_, rfl⟩
    have oz : Own wv p 58 (pdA z z (be16 (f 0) (f 1)) (be16 (f 2) (f 3)) false 0 (.slice (some ⟨bb, 0, none⟩) (k + m) C) (.slice (some ⟨sb, 0, none⟩) 1 D) m (k + m) 1) := by rw [hwv]; exact hd_own _ _ ou
    have bz : But p w1 wv := by rw [hwv]; exact (But.ofBelow hbu2 p).trans (hd_but wu p z _ _)
    go_wp2_with fail
    rw [← hwv]
    have hpn : p ≠ w.heap.size := by omega
    have hpn2 : w.heap.size ≠ p := by omega
    have ez : wv.cell? ⟨w.heap.size, 0, none⟩ = some (.int .u8 17) := (bz.own HO1.out.1 hpn2).cell rfl
    have a20 := oz.cell (i := 20) (v := .bool false) rfl
    have a21 := oz.cell (i := 21) (v := .int .u8 0) rfl
    have b20 := oz.frozen 20
    have b21 := oz.frozen 21
    have HZ : Hid (Own wv p 58 (pdA z z (be16 (f 0) (f 1)) (be16 (f 2) (f 3)) false 0 (.slice (some ⟨bb, 0, none⟩) (k + m) C) (.slice (some ⟨sb, 0, none⟩) 1 D) m (k + m) 1) ∧ But p w1 wv) := ⟨oz, bz⟩
    clear hwv oz bz
    go_region_held3 (fun w' => w'.cell? ⟨w.heap.size, 0, none⟩ = some (.int .u8 17)) (first | with_reducible exact cellD ez | go_simp) (fail)
    go_wp2_with fail
    go_meet
    case rel =>
      exact ⟨rfl, ((HZ.out.1.set 20 (.bool true) rfl).set 21 (.int .u8 17) rfl).drew, ((HZ.out.2.setCell 20 _).setCell 21 _).drew⟩
  case rest =>
    obtain ⟨rfl, oPc, bc⟩ := hcut.out
    have hpn2 : w.heap.size ≠ p := by omega
    have hs1 := bel1.size
    have ohc := bc.own HO1.out.1 hpn2
    have bfc := HO1.out.2.2.1.but bc (HO1.out.2.2.1.ne_pd HO1.out.2.1)
    have spc := HO1.out.2.2.2.but bc (HO1.out.2.2.2.ne_pd HO1.out.2.1)
    have belc : Below B w wc := (bel1.mono (by omega)).trans (bc.below hB (by omega))
    clear hcut e0 e1 e2 p20 bel1
    have e2 := ohc.cell (i := 2) (v := .bool true) rfl
    have p23 := oPc.cell (i := 23) (v := .slice (some ⟨sb, 0, none⟩) 1 D) rfl
    have HC : Hid (Own wc w.heap.size 61 (hdr 0 true) ∧ Own wc p 58 (pdA z z (be16 (f 0) (f 1)) (be16 (f 2) (f 3)) true 17 (.slice (some ⟨bb, 0, none⟩) (k + m) C) (.slice (some ⟨sb, 0, none⟩) 1 D) m (k + m) 1) ∧ Bf wc bb C k (k + m) f ∧ Sp wc sb D (sp3 k (k + m)) ∧ Below B w wc) := ⟨ohc, oPc, bfc, spc, belc⟩
    have m8 : ((k : Int).tmod 8) = 0 := by rw [Int.tmod_eq_emod_of_nonneg (by omega)]; omega
    obtain ⟨x0, x1, x2⟩ := spc.cells
    clear ohc oPc bfc spc belc bc HO1
    go_wp2_with fail
    refine (find1_gt p sb D k (k + m) 1 0 wc (by omega) p23 x0 x1 x2).mono ?_
    rintro e w2 ⟨rfl, bel2⟩
    have oh2 := HC.out.1.below bel2 HC.out.1.lt
    have oP2 := HC.out.2.1.below bel2 HC.out.2.1.lt
    have oF2 := HC.out.2.2.1.below bel2
    have oS2 := HC.out.2.2.2.1.below bel2
    have hlc := HC.out.2.1.lt
    have BB : Below B w w2 := HC.out.2.2.2.2.trans (bel2.mono (by omega))
    clear e2 p23 x0 x1 x2
    obtain ⟨row, orow, hrs, hrow⟩ := id oF2
    have e2 := oh2.cell (i := 2) (v := .bool true) rfl
    obtain ⟨x0, x1, x2⟩ := oS2.cells
    have p22 := oP2.cell (i := 22) (v := .slice (some ⟨bb, 0, none⟩) (k + m) C) rfl
    have p23 := oP2.cell (i := 23) (v := .slice (some ⟨sb, 0, none⟩) 1 D) rfl
    have p25 := oP2.cell (i := 25) (v := .int .i64 (k + m)) rfl
    have HO2 : Hid (Own w2 p 58 (pdA z z (be16 (f 0) (f 1)) (be16 (f 2) (f 3)) true 17 (.slice (some ⟨bb, 0, none⟩) (k + m) C) (.slice (some ⟨sb, 0, none⟩) 1 D) m (k + m) 1) ∧ Bf w2 bb C k (k + m) f ∧ Sp w2 sb D (sp3 k (k + m)) ∧ Own w2 bb 5 row ∧ row.size = C ∧ (∀ j, k ≤ j → j < k + m → row[j]? = some (.int .u8 (f j)))) := ⟨oP2, oF2, oS2, orow, hrs, hrow⟩
    clear HC oP2 oh2 bel2 oF2 oS2 orow hrs hrow
    have g4 : decide ((k : Int) + (m : Int) < (k : Int)) = false := by simp; omega
    have g5 : ¬ ((k : Int) + (m : Int) < (k : Int)) := by omega
    have g6 : (0 : Int) ≤ (k : Int) + (m : Int) := by omega
    go_wp2_with fail
    go_quiet (fail)
    obtain ⟨oP3, bf3, sp3', orow, hrs, hrow⟩ := HO2.out
    obtain ⟨W4, hc4, o4, b4⟩ := copy8 (w2.drewN nq) bb 0 k C pb po c C row f orow (fun j hj => by rw [Nat.zero_add]; exact (BB.cell (p := ⟨pb, _, none⟩) hpb).trans (hD j hj)) (by omega)
    have b4' : But bb w2 W4 := ⟨b4.os, b4.tape, b4.output, b4.size, b4.block⟩
    have hne := bf3.ne_pd oP3
    have hnes := bf3.ne_sp sp3'
    have hfit : 0 + (bs f 0 k).length ≤ row.size := by rw [bs_len, hrs]; omega
    have bf4 : Bf W4 bb C 0 (k + m) f := ⟨_, o4, by rw [spl_size hfit]; exact hrs, fun j h1 h2 => by
      by_cases hj : j < k
      · have := spl_in hfit (j := j) (by rw [bs_len]; omega)
        rw [bs_at (by omega), Nat.zero_add] at this
        exact this
      · rw [spl_hi hfit (by rw [bs_len]; omega)]
        exact hrow j (by omega) h2⟩
    have oP4 := b4'.own oP3 (Ne.symm hne)
    have sp4 := sp3'.but b4' (Ne.symm hnes)
    have bel4 : Below B w W4 := BB.trans (b4'.below hbb (by have := oP3.lt; omega))
    have p23' := oP4.cell (i := 23) (v := .slice (some ⟨sb, 0, none⟩) 1 D) rfl
    have s1 : (k : Int) ≤ (C : Int) := by omega
    have s2 : (0 : Int) ≤ (k : Int) := by omega
    have s5 : ¬ (C = 0) := by omega
    have s6 : k ≤ k + m := by omega
    have s7 : (k : Int) ≤ (k : Int) + (m : Int) := by omega
    have H4 : Hid (Own W4 p 58 (pdA z z (be16 (f 0) (f 1)) (be16 (f 2) (f 3)) true 17 (.slice (some ⟨bb, 0, none⟩) (k + m) C) (.slice (some ⟨sb, 0, none⟩) 1 D) m (k + m) 1) ∧ Bf W4 bb C 0 (k + m) f ∧ Sp W4 sb D (sp3 k (k + m)) ∧ Below B w W4) := ⟨oP4, bf4, sp4, bel4⟩
    clear orow hrs hrow hfit o4 b4 b4' bf3 oP3 sp3' bf4 oP4 sp4 bel4 hne hnes HO2 BB
    go_wp2_with fail
    have A4 : Below W4.heap.size W4 (W4.alloc (.cells #[.int .i64 0, .int .i64 k, .int .i64 1] 64)) := (Below.refl _ _).alloc (Nat.le_refl _) _
    have hsl := H4.out.2.2.1.lt
    refine (insert_front sb D W4.heap.size k (k + m) 0 k (W4.alloc (.cells #[.int .i64 0, .int .i64 k, .int .i64 1] 64)) hD1 (H4.out.2.2.1.below A4) (Own.new _ _ _) (by omega)).mono ?_
    rintro e w5 ⟨sb', D', rfl, hD2, hsb2, sp5, hb5⟩
    have oPa := H4.out.1.below A4 H4.out.1.lt
    have bfa := H4.out.2.1.below A4
    have spa := H4.out.2.2.1.below A4
    have oP5 := hb5.own oPa (Ne.symm (spa.ne_pd oPa))
    have bf5 := bfa.but hb5 (bfa.ne_sp spa)
    have hlt4 := H4.out.1.lt
    have bel5 : Below B w w5 := (H4.out.2.2.2.trans (A4.mono (by omega))).trans (hb5.below hsb (by simp; omega))
    have q23 := oP5.cell (i := 23) (v := .slice (some ⟨sb, 0, none⟩) 1 D) rfl
    have q24 := oP5.cell (i := 24) (v := .int .i64 m) rfl
    have q27 := oP5.cell (i := 27) (v := .int .i64 1) rfl
    have y23 := oP5.frozen 23
    have y24 := oP5.frozen 24
    have y27 := oP5.frozen 27
    have hsB : B ≤ sb' := by simp at hsb2; omega
    have w22 : IntKind.i64.wrap 2 = 2 := by decide
    have wmk : IntKind.i64.wrap ((m : Int) + (k : Int)) = m + k := by rw [IntKind.wrap_i64]; omega
    have H5 : Hid (Own w5 p 58 (pdA z z (be16 (f 0) (f 1)) (be16 (f 2) (f 3)) true 17 (.slice (some ⟨bb, 0, none⟩) (k + m) C) (.slice (some ⟨sb, 0, none⟩) 1 D) m (k + m) 1) ∧ Bf w5 bb C 0 (k + m) f ∧ Sp w5 sb' D' (sp3 0 k ++ sp3 k (k + m)) ∧ Below B w w5) := ⟨oP5, bf5, sp5, bel5⟩
    clear hsb2 hb5 sp5 oP5 bf5 bel5 hlt4 H4 A4 oPa bfa spa
    go_wp2_with fail
    go_ret
    obtain ⟨oP, bf, sp', bel⟩ := H5.out
    have BU : But p w5 (((w5.setCell ⟨p, 23, none⟩ (.slice (some ⟨sb', 0, none⟩) 2 D')).setCell ⟨p, 24, none⟩ (.int .i64 (m + k))).setCell ⟨p, 27, none⟩ (.int .i64 2)) := (((But.refl p w5).setCell 23 _).setCell 24 _).setCell 27 _
    exact ⟨rfl, bb, C, sb', D', ((oP.set 23 _ rfl).set 24 _ rfl).set 27 _ rfl, bf.but BU (bf.ne_pd oP), sp'.but BU (sp'.ne_pd oP), hbb, hsB, ((bel.setCell hB _).setCell hB _).setCell hB _⟩
end Go.Proofs.Qxb6614074aFmt
