/-
  add: the head first.
-/
import Derived.Test.Qxb6614074aFmtWh
namespace Go.Proofs.Qxb6614074aFmt
open Go.RowKit Go.Lib
set_option linter.unusedVariables false

set_option maxRecDepth 100000 in
set_option maxHeartbeats 4000000 in
theorem add_head_first (B p pb po k c : Nat) (before : Int) (z : Option Addr) (f : Nat → Int) (w : World)
    (hP : Own w p 58 (pdA z none 0 0 false 0 (.slice none 0 0) (.slice none 0 0) 0 (-1) 0)) (hk : 8 ≤ k) (hk8 : k % 8 = 0) (hc : k ≤ c) (hb0 : 0 ≤ before) (hbn : before + k ≤ 65535)
    (hD : ∀ j, j < k → w.cell? ⟨pb, po + j, none⟩ = some (.int .u8 (f j))) (hB : B ≤ p) (hpb : pb < B) :
    Calls Tryf.prog 11 #[.pointer (some ⟨p, 0, none⟩), .int .i64 before, .agg (hdr 0 true), .slice (some ⟨pb, po, none⟩) k c, .bool true] w fun e w' =>
      e = .returned .nilIface ∧ ∃ bb C sb D, Own w' p 58 (pdA z z (be16 (f 0) (f 1)) (be16 (f 2) (f 3)) true 17 (.slice (some ⟨bb, 0, none⟩) k C) (.slice (some ⟨sb, 0, none⟩) 1 D) k (-1) 1) ∧ Bf w' bb C 0 k f ∧ Sp w' sb D (sp3 0 k) ∧ k ≤ C ∧ 1 ≤ D ∧ B ≤ bb ∧ B ≤ sb ∧ Below B w w' := by
  have hplt := hP.lt
  have oh : Own (w.alloc (.cells (hdr 0 true) 61)) w.heap.size 61 (hdr 0 true) := Own.new _ _ _
  have oP := hP.alloc (.cells (hdr 0 true) 61)
  have hrep := repeat_no p 0 0 true (some ⟨pb, po, none⟩) k c (w.alloc (.cells (hdr 0 true) 61)) (fun w' hb => find0 p none 0 0 w' ((oP.below hb oP.lt).cell (i := 23) rfl)) (by omega) (by omega)
  have HO : Hid (Own (w.alloc (.cells (hdr 0 true) 61)) w.heap.size 61 (hdr 0 true) ∧ Own (w.alloc (.cells (hdr 0 true) 61)) p 58 (pdA z none 0 0 false 0 (.slice none 0 0) (.slice none 0 0) 0 (-1) 0)) := ⟨oh, oP⟩
  clear hP oh oP
  unfold hdr at hrep ⊢
  go_enter Tryf.func11, Tryf.ntmps11
  go_wp2_with fail
  refine hrep.mono ?_
  rintro e w1 ⟨rfl, hb1⟩
  clear hrep
  have bel1 : Below w.heap.size w w1 := ((Below.refl _ _).alloc (Nat.le_refl _) _).trans (hb1.mono (by simp))
  have oh1 : Own w1 w.heap.size 61 (hdr 0 true) := HO.out.1.below hb1 (by simp)
  have oP1 := HO.out.2.below hb1 HO.out.2.lt
  have e0 := oh1.cell (i := 0) (v := .int .u8 17) rfl
  have e1 := oh1.cell (i := 1) (v := .int .i64 0) rfl
  have e2 := oh1.cell (i := 2) (v := .bool true) rfl
  have p20 := oP1.cell (i := 20) (v := .bool false) rfl
  have HO1 : Hid (Own w1 w.heap.size 61 (hdr 0 true) ∧ Own w1 p 58 (pdA z none 0 0 false 0 (.slice none 0 0) (.slice none 0 0) 0 (-1) 0)) := ⟨oh1, oP1⟩
  clear HO oh1 oP1 hb1
  have hw : IntKind.i64.wrap (k : Int) = k := by rw [IntKind.wrap_i64]; omega
  have hw2 : IntKind.i64.wrap (before + (k : Int)) = before + k := by rw [IntKind.wrap_i64]; omega
  have g1 : ((k : Int) == 0) = false := by simp; omega
  have g2 : ¬ (65535 < before + (k : Int)) := by omega
  have g3 : (8 : Int) ≤ (k : Int) := by omega
  go_wp2_with fail
  go_quiet (fail)
  go_upto_if 39 with fail
  go_cut [0] (fun s wx => Hid (s = .pointer (some ⟨p, 0, none⟩) ∧ Own wx p 58 (pdA z z (be16 (f 0) (f 1)) (be16 (f 2) (f 3)) true 17 (.slice none 0 0) (.slice none 0 0) 0 (-1) 0) ∧ But p w1 wx))
  case first =>
    go_wp2_with (first | (go_at_call 15; refine (skip_udp _ _ _ _).mono ?_; rintro e wz ⟨rfl, rfl⟩))
    have hl1 := HO1.out.2.lt
    have d0 := HO1.out.2.cell (i := 0) (v := .int .u64 0) rfl
    have d1 := HO1.out.2.cell (i := 1) (v := .int .u64 0) rfl
    have d2 := HO1.out.2.cell (i := 2) (v := .pointer z) rfl
    have d3 := HO1.out.2.cell (i := 3) (v := .int .u64 0) rfl
    have d4 := HO1.out.2.cell (i := 4) (v := .int .u64 0) rfl
    have d5 := HO1.out.2.cell (i := 5) (v := .pointer z) rfl
    have hpw : pb < w.heap.size := by omega
    have c0 : w1.cell? ⟨pb, po, none⟩ = some (.int .u8 (f 0)) := (bel1.cell (p := ⟨pb, _, none⟩) hpw).trans (hD 0 (by omega))
    have c1 : w1.cell? ⟨pb, po + 1, none⟩ = some (.int .u8 (f 1)) := (bel1.cell (p := ⟨pb, _, none⟩) hpw).trans (hD 1 (by omega))
    have c2 : w1.cell? ⟨pb, po + 2, none⟩ = some (.int .u8 (f 2)) := (bel1.cell (p := ⟨pb, _, none⟩) hpw).trans (hD 2 (by omega))
    have c3 : w1.cell? ⟨pb, po + 2 + 1, none⟩ = some (.int .u8 (f 3)) := (bel1.cell (p := ⟨pb, _, none⟩) hpw).trans (hD 3 (by omega))
    go_region_held3 (fun w' => w'.cell? ⟨p, 0, none⟩ = some (.int .u64 0) ∧ w'.cell? ⟨p, 1, none⟩ = some (.int .u64 0) ∧ w'.cell? ⟨p, 2, none⟩ = some (.pointer z) ∧ w'.cell? ⟨p, 3, none⟩ = some (.int .u64 0) ∧ w'.cell? ⟨p, 4, none⟩ = some (.int .u64 0) ∧ w'.cell? ⟨p, 5, none⟩ = some (.pointer z))
      (refine ⟨?_, ?_, ?_, ?_, ?_, ?_⟩ <;> (first | with_reducible exact cellN d0 _ | with_reducible exact cellN d1 _ | with_reducible exact cellN d2 _ | with_reducible exact cellN d3 _ | with_reducible exact cellN d4 _ | with_reducible exact cellN d5 _ | with_reducible exact u0 | with_reducible exact u1 | with_reducible exact u2 | with_reducible exact u3 | with_reducible exact u4 | with_reducible exact u5 | go_simp))
      (first | (go_at_call 17; refine (udp_any z pb po k c (f 0) (f 1) (f 2) (f 3) _ ?_ ?_ ?_ ?_ ?_ ?_).mono ?_; omega; omega; exact c0; exact c1; exact c2; exact c3; rintro e wu ⟨rfl, hbu⟩; have hbu2 : Below w1.heap.size w1 wu := (below_drewN (Below.refl _ _) _).trans hbu; have ou := HO1.out.2.below hbu2 hl1; have u0 := ou.cell (i := 0) (v := .int .u64 0) rfl; have u1 := ou.cell (i := 1) (v := .int .u64 0) rfl; have u2 := ou.cell (i := 2) (v := .pointer z) rfl; have u3 := ou.cell (i := 3) (v := .int .u64 0) rfl; have u4 := ou.cell (i := 4) (v := .int .u64 0) rfl; have u5 := ou.cell (i := 5) (v := .pointer z) rfl; have u11 := ou.cell (i := 11) (v := .int .u64 0) rfl; have u12 := ou.cell (i := 12) (v := .int .u64 0) rfl; have u13 := ou.cell (i := 13) (v := .pointer none) rfl; have u14 := ou.cell (i := 14) (v := .int .u16 0) rfl; have u15 := ou.cell (i := 15) (v := .int .u64 0) rfl; have u16 := ou.cell (i := 16) (v := .int .u64 0) rfl; have u17 := ou.cell (i := 17) (v := .pointer none) rfl; have u18 := ou.cell (i := 18) (v := .int .u16 0) rfl; have u19 := ou.cell (i := 19) (v := .slice none 0 0) rfl; have u20 := ou.cell (i := 20) (v := .bool false) rfl; have u21 := ou.cell (i := 21) (v := .int .u8 0) rfl; have v11 := ou.frozen 11; have v12 := ou.frozen 12; have v13 := ou.frozen 13; have v14 := ou.frozen 14; have v15 := ou.frozen 15; have v16 := ou.frozen 16; have v17 := ou.frozen 17; have v18 := ou.frozen 18; have v19 := ou.frozen 19; have v20 := ou.frozen 20; have v21 := ou.frozen 21))
    obtain ⟨wv, hwv⟩ : ∃ wv, wv = (((((((((wu.setCell ⟨p, 11, none⟩ (.int .u64 0)).setCell ⟨p, 12, none⟩ (.int .u64 0)).setCell ⟨p, 13, none⟩ (.pointer z)).setCell ⟨p, 14, none⟩ (.int .u16 (be16 (f 0) (f 1)))).setCell ⟨p, 15, none⟩ (.int .u64 0)).setCell ⟨p, 16, none⟩ (.int .u64 0)).setCell ⟨p, 17, none⟩ (.pointer z)).setCell ⟨p, 18, none⟩ (.int .u16 (be16 (f 2) (f 3)))).setCell ⟨p, 19, none⟩ (.slice none 0 0)) := ⟨_, rfl⟩
    have oz : Own wv p 58 (pdA z z (be16 (f 0) (f 1)) (be16 (f 2) (f 3)) false 0 (.slice none 0 0) (.slice none 0 0) 0 (-1) 0) := by rw [hwv]; exact hd_own _ _ ou
    have bz : But p w1 wv := by rw [hwv]; exact (But.ofBelow hbu2 p).trans (hd_but wu p z _ _)
    go_wp2_with fail
    rw [← hwv]
    have hpn : p ≠ w.heap.size := by omega
    have hpn2 : w.heap.size ≠ p := by omega
    have ez : wv.cell? ⟨w.heap.size, 0, none⟩ = some (.int .u8 17) := (bz.own HO1.out.1 hpn2).cell rfl
    have a20 := oz.cell (i := 20) (v := .bool false) rfl
    have a21 := oz.cell (i := 21) (v := .int .u8 0) rfl
    have b20 := oz.frozen 20
    have b21 := oz.frozen 21
    have HZ : Hid (Own wv p 58 (pdA z z (be16 (f 0) (f 1)) (be16 (f 2) (f 3)) false 0 (.slice none 0 0) (.slice none 0 0) 0 (-1) 0) ∧ But p w1 wv) := ⟨oz, bz⟩
    clear hwv oz bz
    go_region_held3 (fun w' => w'.cell? ⟨w.heap.size, 0, none⟩ = some (.int .u8 17)) (first | with_reducible exact cellD ez | go_simp) (fail)
    go_wp2_with fail
    go_meet
    case rel =>
      exact ⟨rfl, ((HZ.out.1.set 20 (.bool true) rfl).set 21 (.int .u8 17) rfl).drew, ((HZ.out.2.setCell 20 _).setCell 21 _).drew⟩
  case rest =>
    obtain ⟨rfl, oPc, bc⟩ := hcut.out
    have hpn2 : w.heap.size ≠ p := by omega
    have hs1 := bel1.size
    have ohc := bc.own HO1.out.1 hpn2
    have belc : Below B w wc := (bel1.mono (by omega)).trans (bc.below hB (by omega))
    clear hcut e0 e1 e2 p20 bel1
    have e2 := ohc.cell (i := 2) (v := .bool true) rfl
    have p23 := oPc.cell (i := 23) (v := .slice none 0 0) rfl
    have HC : Hid (Own wc w.heap.size 61 (hdr 0 true) ∧ Own wc p 58 (pdA z z (be16 (f 0) (f 1)) (be16 (f 2) (f 3)) true 17 (.slice none 0 0) (.slice none 0 0) 0 (-1) 0) ∧ Below B w wc) := ⟨ohc, oPc, belc⟩
    have m8 : ((k : Int).tmod 8) = 0 := by rw [Int.tmod_eq_emod_of_nonneg (by omega)]; omega
    clear ohc oPc belc bc HO1
    go_wp2_with fail
    refine (find0 p none 0 0 wc p23).mono ?_
    rintro e w2 ⟨rfl, bel2⟩
    have oh2 := HC.out.1.below bel2 HC.out.1.lt
    have oP2 := HC.out.2.1.below bel2 HC.out.2.1.lt
    have hlc := HC.out.2.1.lt
    have BB : Below B w w2 := HC.out.2.2.trans (bel2.mono (by omega))
    clear e2 p23
    have e2 := oh2.cell (i := 2) (v := .bool true) rfl
    have p22 := oP2.cell (i := 22) (v := .slice none 0 0) rfl
    have p23 := oP2.cell (i := 23) (v := .slice none 0 0) rfl
    have p24 := oP2.cell (i := 24) (v := .int .i64 0) rfl
    have p25 := oP2.cell (i := 25) (v := .int .i64 (-1)) rfl
    have p27 := oP2.cell (i := 27) (v := .int .i64 0) rfl
    have z22 := oP2.frozen 22
    have hpl2 : p < w2.heap.size := oP2.lt
    have HO2 : Hid (Own w2 p 58 (pdA z z (be16 (f 0) (f 1)) (be16 (f 2) (f 3)) true 17 (.slice none 0 0) (.slice none 0 0) 0 (-1) 0)) := oP2
    clear HC oP2 oh2 bel2
    have mixed : Tryf.prog.follows Departure.mixedOrders = true := by kernel_rfl
    go_wp2_with fail
    go_quiet (fail)
    go_wp2_with fail
    go_cut [0] (fun s wx => Hid (s = .pointer (some ⟨p, 0, none⟩) ∧ ∃ bb C, k ≤ C ∧ B ≤ bb ∧ Own wx p 58 (pdA z z (be16 (f 0) (f 1)) (be16 (f 2) (f 3)) true 17 (.slice (some ⟨bb, 0, none⟩) k C) (.slice none 0 0) 0 (-1) 0) ∧ Bf wx bb C 0 0 f ∧ Below B w wx))
    case first =>
      go_region_law_o (refine step_grow0 rfl _ _ rfl k ?_ ?_ f ?_ ?_ ?_; omega; omega; (simp [Act.eval, Act.put]); (simp [Act.eval, Act.put]); intro bb C W h1 h2 h3 h4; have q22 := (h4.cell (p := ⟨p, 22, none⟩) hpl2).trans p22; have y22 := (h4.frozen (p := ⟨p, 22, none⟩) hpl2).trans z22)
      all_goals
        go_wp2_with fail
        go_meet
        case rel =>
          have h2' : w2.heap.size ≤ bb := h2
          have h4' : Below w2.heap.size w2 W := (below_drewN (Below.refl _ _) _).trans h4
          have hne := h3.ne_pd (HO2.out.below h4' hpl2)
          exact ⟨rfl, bb, C, h1, by omega, (HO2.out.below h4' hpl2).set 22 _ rfl, h3.but ((But.refl _ _).setCell 22 _) hne, (BB.trans (h4'.mono (by omega))).setCell hB _⟩
    case rest =>
      obtain ⟨rfl, bb, C, hC, hbb, oP3, bf3, bel3⟩ := hcut.out
      clear hcut p22 p23 p24 p25 p27 z22 e2 HO2 BB mixed
      obtain ⟨row, orow, hrs, _⟩ := id bf3
      obtain ⟨W4, hc4, o4, b4⟩ := copy8 wc bb 0 k C pb po c C row f orow (fun j hj => by rw [Nat.zero_add]; exact (bel3.cell (p := ⟨pb, _, none⟩) hpb).trans (hD j hj)) (by omega)
      have hne := bf3.ne_pd oP3
      have hfit : 0 + (bs f 0 k).length ≤ row.size := by rw [bs_len, hrs]; omega
      have bf4 : Bf W4 bb C 0 k f := ⟨_, o4, by rw [spl_size hfit]; exact hrs, fun j h1 h2 => by
        have := spl_in hfit (j := j) (by rw [bs_len]; omega)
        rw [bs_at (by omega), Nat.zero_add] at this
        exact this⟩
      have oP4 := b4.own oP3 (Ne.symm hne)
      have bel4 : Below B w W4 := bel3.trans (b4.below hbb (by have := oP3.lt; omega))
      have p22 := oP3.cell (i := 22) (v := .slice (some ⟨bb, 0, none⟩) k C) rfl
      have p23 := oP4.cell (i := 23) (v := .slice none 0 0) rfl
      have s1 : (k : Int) ≤ (C : Int) := by omega
      have s2 : (0 : Int) ≤ (k : Int) := by omega
      have s5 : ¬ (C = 0) := by omega
      have H4 : Hid (Own W4 p 58 (pdA z z (be16 (f 0) (f 1)) (be16 (f 2) (f 3)) true 17 (.slice (some ⟨bb, 0, none⟩) k C) (.slice none 0 0) 0 (-1) 0) ∧ Bf W4 bb C 0 k f ∧ Below B w W4) := ⟨oP4, bf4, bel4⟩
      clear orow hrs hfit o4 b4 bf3 oP3 bel3 bf4 oP4 bel4 hne
      go_wp2_with fail
      refine (insert0 W4.heap.size 0 k (W4.alloc (.cells #[.int .i64 0, .int .i64 k, .int .i64 1] 64)) (Own.new _ _ _)).mono ?_
      rintro e w5 ⟨sb, D, rfl, hD1, hsb, sp5, hb5⟩
      have bel45 : Below W4.heap.size W4 w5 := ((Below.refl _ _).alloc (Nat.le_refl _) _).trans (hb5.mono (by simp))
      have oP5 := H4.out.1.below bel45 H4.out.1.lt
      have bf5 := H4.out.2.1.below bel45
      have hlt4 := H4.out.1.lt
      have bel5 : Below B w w5 := H4.out.2.2.trans (bel45.mono (by omega))
      have q23 := oP5.cell (i := 23) (v := .slice none 0 0) rfl
      have q24 := oP5.cell (i := 24) (v := .int .i64 0) rfl
      have q27 := oP5.cell (i := 27) (v := .int .i64 0) rfl
      have y23 := oP5.frozen 23
      have y24 := oP5.frozen 24
      have y27 := oP5.frozen 27
      have hsB : B ≤ sb := by simp at hsb; omega
      have w01 : IntKind.i64.wrap 1 = 1 := by decide
      have H5 : Hid (Own w5 p 58 (pdA z z (be16 (f 0) (f 1)) (be16 (f 2) (f 3)) true 17 (.slice (some ⟨bb, 0, none⟩) k C) (.slice none 0 0) 0 (-1) 0) ∧ Bf w5 bb C 0 k f ∧ Sp w5 sb D (sp3 0 k) ∧ Below B w w5) := ⟨oP5, bf5, sp5, bel5⟩
      clear hsb hb5 bel45 sp5 oP5 bf5 bel5 hlt4 H4
      go_wp2_with fail
      go_ret
      obtain ⟨oP, bf, sp, bel⟩ := H5.out
      have BU : But p w5 (((w5.setCell ⟨p, 23, none⟩ (.slice (some ⟨sb, 0, none⟩) 1 D)).setCell ⟨p, 24, none⟩ (.int .i64 k)).setCell ⟨p, 27, none⟩ (.int .i64 1)) := (((But.refl p w5).setCell 23 _).setCell 24 _).setCell 27 _
      exact ⟨rfl, bb, C, sb, D, ((oP.set 23 _ rfl).set 24 _ rfl).set 27 _ rfl, bf.but BU (bf.ne_pd oP), sp.but BU (sp.ne_pd oP), hC, hD1, hbb, hsB, ((bel.setCell hB _).setCell hB _).setCell hB _⟩
end Go.Proofs.Qxb6614074aFmt
