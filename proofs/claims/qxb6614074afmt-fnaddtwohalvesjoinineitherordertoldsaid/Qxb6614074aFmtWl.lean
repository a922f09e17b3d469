/-
  ZZadd; the law's walk where its premises hold.
-/
import Derived.Test.Qxb6614074aFmtWk
import Derived.Test.Qxb6614074aFmtWi
namespace Go.Proofs.Qxb6614074aFmt
open Go.RowKit Go.Lib
set_option linter.unusedVariables false

theorem zzadd (p : Nat) (before t : Int) (more : Bool) (x : Value) (w : World) (R : World → Prop)
    (h : Calls Tryf.prog 11 #[.pointer (some ⟨p, 0, none⟩), .int .i64 before, .agg (hdr t more), x, .bool true] w fun e w' => e = .returned .nilIface ∧ R w') :
    Calls Tryf.prog 6 #[.pointer (some ⟨p, 0, none⟩), .int .i64 before, .int .u8 17, .int .i64 t, .bool more, .int .u32 0, x, .bool true] w fun e w' => e = .returned .nilIface ∧ R w' := by
  unfold hdr at h
  go_enter Tryf.func6, Tryf.ntmps6
  go_wp2_with fail
  refine h.mono ?_
  rintro e w1 ⟨rfl, hR⟩
  go_wp2_with fail
  go_ret
  exact ⟨rfl, hR⟩

theorem or_comm16 (x y : Int) : bits BinOp.or IntKind.u16 x y = bits BinOp.or IntKind.u16 y x := by
  simp [bits, Nat.or_comm]

theorem Sp.sixCells {w : World} {b D : Nat} {s e s' e' : Int} (h : Sp w b D (sp3 s e ++ sp3 s' e')) : w.cell? ⟨b, 0 * 3, none⟩ = some (.int .i64 s) ∧ w.cell? ⟨b, 0 * 3 + 1, none⟩ = some (.int .i64 e) ∧ w.cell? ⟨b, 0 * 3 + 2, none⟩ = some (.int .i64 1) ∧ w.cell? ⟨b, 1 * 3, none⟩ = some (.int .i64 s') ∧ w.cell? ⟨b, 1 * 3 + 1, none⟩ = some (.int .i64 e') ∧ w.cell? ⟨b, 1 * 3 + 2, none⟩ = some (.int .i64 1) := by
  obtain ⟨row, ho, _, hr⟩ := h
  exact ⟨ho.cell (hr 0 _ rfl), ho.cell (hr 1 _ rfl), ho.cell (hr 2 _ rfl), ho.cell (hr 3 _ rfl), ho.cell (hr 4 _ rfl), ho.cell (hr 5 _ rfl)⟩

/-- What both orders leave. -/
def Whole (B p k m : Nat) (z : Option Addr) (f : Nat → Int) (w w' : World) : Prop :=
  ∃ bb C sb D held, Own w' p 58 (pdA z z (be16 (f 0) (f 1)) (be16 (f 2) (f 3)) true 17 (.slice (some ⟨bb, 0, none⟩) (k + m) C) (.slice (some ⟨sb, 0, none⟩) 2 D) held (k + m) 2) ∧ held = (k : Int) + m ∧ Bf w' bb C 0 (k + m) f ∧ Sp w' sb D (sp3 0 k ++ sp3 k (k + m)) ∧ Below B w w'

set_option maxRecDepth 100000 in
set_option maxHeartbeats 4000000 in
theorem law_good (pb po k m c : Nat) (before : Int) (swap : Bool) (z : Option Addr) (f : Nat → Int) (w : World) (hz : w.cell? ⟨0, 0, none⟩ = some (.pointer z))
    (hD : ∀ j, j < k + m → w.cell? ⟨pb, po + j, none⟩ = some (.int .u8 (f j))) (hk : 8 ≤ k) (hk8 : k % 8 = 0) (hm : 0 < m) (hc : k + m ≤ c) (hb0 : 0 ≤ before) (hbn : before + (k + m) ≤ 65535) :
    Calls Tryf.prog 3 #[.int .i64 before, .slice (some ⟨pb, po, none⟩) (k + m) c, .int .i64 k, .bool swap] w fun e w' => e = .returned (.bool true) ∧ Below w.heap.size w w' := by
  have hpb : pb < w.heap.size := World.block_lt_of_cell? _ _ (hD 0 (by omega))
  have hnew := newPending_any z w hz
  have r1 : ¬ ((1048576 : Int) < (k : Int) + (m : Int)) := by omega
  have r2 : ¬ (before < 0) := by omega
  have r3 : ¬ (65536 < before) := by omega
  have r4 : ¬ ((k : Int) < 8) := by omega
  have r5 : ¬ ((k : Int) + (m : Int) ≤ (k : Int)) := by omega
  have r6 : ((k : Int).tmod 8) = 0 := by rw [Int.tmod_eq_emod_of_nonneg (by omega)]; omega
  have r7 : IntKind.i64.wrap (before + ((k : Int) + (m : Int))) = before + (k + m) := by rw [IntKind.wrap_i64]; omega
  have r8 : ¬ (65535 < before + ((k : Int) + (m : Int))) := by omega
  have r9 : (k : Int) ≤ (c : Int) := by omega
  have r10 : (k : Int) ≤ (k : Int) + (m : Int) := by omega
  have r11 : ¬ (c = k) := by omega
  have r12 : k + m - k = m := by omega
  go_enter Tryf.func3, Tryf.ntmps3
  go_wp2_with fail
  refine (bytes_any _ _ _ _ _ _ _).mono ?_
  rintro e w0 ⟨⟨b, rfl⟩, rfl⟩
  cases b with
  | false =>
    go_wp2_with fail
    go_ret
    exact ⟨rfl, Below.refl _ _⟩
  | true =>
    go_wp2_with fail
    refine hnew.mono ?_
    rintro e w1 ⟨p, rfl, hBp, oP, bel1⟩
    clear hnew
    have HO : Hid (Own w1 p 58 (pdA z none 0 0 false 0 (.slice none 0 0) (.slice none 0 0) 0 (-1) 0) ∧ Below w0.heap.size w0 w1) := ⟨oP, bel1⟩
    clear oP bel1
    go_upto_if 72 with fail
    go_cut [12, 13] (fun s12 s13 wx => Hid (s12 = .bool false ∧ s13 = .bool false ∧ Whole w0.heap.size p k m z f w0 wx))
    case first =>
      have hDh : ∀ j, j < k → w1.cell? ⟨pb, po + j, none⟩ = some (.int .u8 (f j)) := fun j hj => (HO.out.2.cell (p := ⟨pb, _, none⟩) hpb).trans (hD j (by omega))
      have hDt : ∀ j, j < m → w1.cell? ⟨pb, po + k + j, none⟩ = some (.int .u8 (f (k + j))) := fun j hj => by rw [Nat.add_assoc]; exact (HO.out.2.cell (p := ⟨pb, _, none⟩) hpb).trans (hD (k + j) (by omega))
      cases swap with
      | true =>
        have h1 := zzadd p before k false (.slice (some ⟨pb, po + k, none⟩) m (c - k)) w1 _ (add_tail_first w0.heap.size p pb po k m (c - k) before z f w1 HO.out.1 hk hm hb0 hbn hDt hBp hpb)
        go_wp2_with fail
        refine h1.mono ?_
        rintro e w2 ⟨rfl, bb, C, sb, D, oP2, bf2, sp2, hC, hD1, hbb, hsb, bel2⟩
        clear h1
        have h2 := zzadd p before 0 true (.slice (some ⟨pb, po, none⟩) k c) w2 _ (add_head_second w0.heap.size p pb po k m c bb C sb D before z f w2 oP2 bf2 sp2 hC hD1 hbb hsb hk hk8 (by omega) hm hb0 hbn (fun j hj => (bel2.cell (p := ⟨pb, _, none⟩) hpb).trans (hDh j hj)) hBp hpb)
        have HB : Hid (Below w0.heap.size w1 w2) := bel2
        clear oP2 bf2 sp2 bel2 hDh hDt
        go_wp2_with fail
        refine h2.mono ?_
        rintro e w3 ⟨rfl, bb', C', sb', D', oP3, bf3, sp3', hbb', hsb', bel3⟩
        clear h2
        have HW : Hid (Whole w0.heap.size p k m z f w0 w3) := ⟨bb', C', sb', D', _, oP3, by omega, bf3, sp3', (HO.out.2.trans HB.out).trans bel3⟩
        clear oP3 bf3 sp3' bel3
        go_wp2_with fail
        go_meet
        case rel => exact ⟨rfl, rfl, HW.out⟩
      | false =>
        have h1 := zzadd p before 0 true (.slice (some ⟨pb, po, none⟩) k c) w1 _ (add_head_first w0.heap.size p pb po k c before z f w1 HO.out.1 hk hk8 (by omega) hb0 (by omega) hDh hBp hpb)
        go_wp2_with fail
        refine h1.mono ?_
        rintro e w2 ⟨rfl, bb, C, sb, D, oP2, bf2, sp2, hC, hD1, hbb, hsb, bel2⟩
        clear h1
        have h2 := zzadd p before k false (.slice (some ⟨pb, po + k, none⟩) m (c - k)) w2 _ (add_tail_second w0.heap.size p pb po k m (c - k) bb C sb D before _ _ z f w2 oP2 bf2 sp2 hC hD1 hbb hsb hk hm hb0 hbn (fun j hj => (bel2.cell (p := ⟨pb, _, none⟩) hpb).trans (hDt j hj)) hBp hpb)
        have HB : Hid (Below w0.heap.size w1 w2) := bel2
        clear oP2 bf2 sp2 bel2 hDh hDt
        go_wp2_with fail
        refine h2.mono ?_
        rintro e w3 ⟨rfl, bb', C', sb', D', oP3, bf3, sp3', hbb', hsb', bel3⟩
        clear h2
        have HW : Hid (Whole w0.heap.size p k m z f w0 w3) := ⟨bb', C', sb', D', _, oP3, rfl, bf3, sp3', (HO.out.2.trans HB.out).trans bel3⟩
        clear oP3 bf3 sp3' bel3
        go_wp2_with fail
        go_meet
        case rel => exact ⟨rfl, rfl, HW.out⟩
    case rest =>
      obtain ⟨rfl, rfl, bb, C, sb, D, held, oP3, rfl, bf3, sp3', bel3⟩ := hcut.out
      clear hcut HO
      have c0 := (bel3.cell (p := ⟨pb, po + 0, none⟩) hpb).trans (hD 0 (by omega))
      have c1 := (bel3.cell (p := ⟨pb, po + 1, none⟩) hpb).trans (hD 1 (by omega))
      have c2 := (bel3.cell (p := ⟨pb, po + 2, none⟩) hpb).trans (hD 2 (by omega))
      have c3 := (bel3.cell (p := ⟨pb, po + 3, none⟩) hpb).trans (hD 3 (by omega))
      rw [Nat.add_zero] at c0
      have t1 : (1 : Int) < (k : Int) + (m : Int) := by omega
      have t0 : (0 : Int) < (k : Int) + (m : Int) := by omega
      have t2 : (2 : Int) < (k : Int) + (m : Int) := by omega
      have t3 : (3 : Int) < (k : Int) + (m : Int) := by omega
      have H3 : Hid (Own wc p 58 (pdA z z (be16 (f 0) (f 1)) (be16 (f 2) (f 3)) true 17 (.slice (some ⟨bb, 0, none⟩) (k + m) C) (.slice (some ⟨sb, 0, none⟩) 2 D) (k + m) (k + m) 2) ∧ Bf wc bb C 0 (k + m) f ∧ Sp wc sb D (sp3 0 k ++ sp3 k (k + m)) ∧ Below w0.heap.size w0 wc) := ⟨oP3, bf3, sp3', bel3⟩
      clear oP3 bf3 sp3' bel3
      go_wp2_with fail
      go_quiet (fail)
      go_wp2_with fail
      go_quiet (fail)
      go_wp2_with fail
      refine (view_any p z z (be16 (f 0) (f 1)) (be16 (f 2) (f 3)) true 17 (some ⟨bb, 0, none⟩) (k + m) C (some ⟨sb, 0, none⟩) 2 D (k + m) (k + m) 2 _ ?_).mono ?_
      · exact H3.out.1
      rintro e w4 ⟨rfl, hb4⟩
      have bel4 : Below wc.heap.size wc w4 := (below_drewN (Below.refl _ _) _).trans hb4
      have oP4 := H3.out.1.below bel4 H3.out.1.lt
      have bf4 := H3.out.2.1.below bel4
      have sp4 := H3.out.2.2.1.below bel4
      have hs3 := H3.out.2.2.2.size
      have B4 : Below w0.heap.size w0 w4 := H3.out.2.2.2.trans (bel4.mono (by omega))
      have e16 : ∀ x y : Int, bits BinOp.or IntKind.u16 (IntKind.u16.wrap (IntKind.u16.wrap x * 256)) (IntKind.u16.wrap y) = be16 x y := fun x y => or_comm16 _ _
      have eA := e16 (f 0) (f 1)
      have eB := e16 (f 2) (f 3)
      obtain ⟨row, orow, hrs, hrow⟩ := id bf4
      have heq := equal_any bb pb po (k + m) C c f w4 (by omega) (fun j hj => orow.cell (hrow j (Nat.zero_le _) hj)) (fun j hj => (B4.cell (p := ⟨pb, _, none⟩) hpb).trans (hD j hj))
      have H4 : Hid (Own w4 p 58 (pdA z z (be16 (f 0) (f 1)) (be16 (f 2) (f 3)) true 17 (.slice (some ⟨bb, 0, none⟩) (k + m) C) (.slice (some ⟨sb, 0, none⟩) 2 D) (k + m) (k + m) 2) ∧ Sp w4 sb D (sp3 0 k ++ sp3 k (k + m)) ∧ Below w0.heap.size w0 w4) := ⟨oP4, sp4, B4⟩
      clear H3 oP4 bf4 sp4 B4 bel4 hb4 e16 orow hrs hrow c0 c1 c2 c3
      go_wp2_with fail
      refine heq.mono ?_
      rintro e w5 ⟨rfl, hb5⟩
      clear heq
      have oP5 := H4.out.1.below hb5 H4.out.1.lt
      have sp5 := H4.out.2.1.below hb5
      have hs4 := H4.out.2.2.size
      have B5 : Below w0.heap.size w0 w5 := H4.out.2.2.trans (hb5.mono (by omega))
      obtain ⟨y0, y1, y2, y3, y4, y5⟩ := sp5.sixCells
      have hsp0 := span_any p sb D 0 0 k 1 w5 (by omega) (oP5.cell (i := 23) rfl) y0 y1 y2
      have H5 : Hid (Own w5 p 58 (pdA z z (be16 (f 0) (f 1)) (be16 (f 2) (f 3)) true 17 (.slice (some ⟨bb, 0, none⟩) (k + m) C) (.slice (some ⟨sb, 0, none⟩) 2 D) (k + m) (k + m) 2) ∧ Sp w5 sb D (sp3 0 k ++ sp3 k (k + m)) ∧ Below w0.heap.size w0 w5) := ⟨oP5, sp5, B5⟩
      clear H4 oP5 sp5 B5 hb5 y0 y1 y2 y3 y4 y5
      go_wp2_with fail
      refine hsp0.mono ?_
      rintro e w6 ⟨rfl, hb6⟩
      clear hsp0
      have oP6 := H5.out.1.below hb6 H5.out.1.lt
      have sp6 := H5.out.2.1.below hb6
      have hs5 := H5.out.2.2.size
      have B6 : Below w0.heap.size w0 w6 := H5.out.2.2.trans (hb6.mono (by omega))
      obtain ⟨y0, y1, y2, y3, y4, y5⟩ := sp6.sixCells
      have hsp1 := span_any p sb D 1 k (k + m) 1 w6 (by omega) (oP6.cell (i := 23) rfl) y3 y4 y5
      have H6 : Hid (Below w0.heap.size w0 w6) := B6
      clear H5 oP6 sp6 B6 hb6 y0 y1 y2 y3 y4 y5
      go_wp2_with fail
      refine hsp1.mono ?_
      rintro e w7 ⟨rfl, hb7⟩
      clear hsp1
      have hs6 := H6.out.size
      have H7 : Hid (Below w0.heap.size w0 w7) := H6.out.trans (hb7.mono (by omega))
      go_wp2_with fail
      go_ret
      refine ⟨?_, H7.out⟩
      simp
end Go.Proofs.Qxb6614074aFmt
