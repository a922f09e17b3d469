/-
  FnTxnRangesFindMembers: the law's walk.
-/
import Derived.Test.Qxb6613685aWf
namespace Go.Proofs.Qxb6613685a
open Go.RowKit
set_option linter.unusedVariables false

set_option maxHeartbeats 2000000 in
set_option maxRecDepth 100000 in
theorem members_in (a0 a1 a2 : Option Addr) (n0 c0 n1 c1 n2 c2 : Nat) (los his ads : Nat → Int) (t : Int) (w : World) (hn0 : n0 ≤ 32768) (hn1 : n1 ≤ 32768) (hn2 : n2 ≤ 32768)
    (h0 : RowAt .u64 w a0 n0 los) (h1 : RowAt .u64 w a1 n1 his) (h2 : RowAt .i64 w a2 n2 ads) (z0 : a0 = none → n0 = 0) (z1 : a1 = none → n1 = 0) (z2 : a2 = none → n2 = 0) (t0 : 0 ≤ t) (t1 : t ≤ 18446744073709551615) :
    Calls Try.prog 4 #[.slice a0 n0 c0, .slice a1 n1 c1, .slice a2 n2 c2, .int .u64 t] w fun e w' => e = .returned (.bool true) ∧ Below w.heap.size w w' := by
  have mk22 := fun (n : Nat) (hn : n ≤ 32768) => run_make_row' (P := Try.prog) 22 24 (.int .u64 0) 8 Try.underlying22 info24 rfl .i64 .i64 n (by omega) (by omega)
  have mk23 := fun (n : Nat) (hn : n ≤ 32768) => run_make_row' (P := Try.prog) 23 3 (.int .i64 0) 8 Try.underlying23 info3 rfl .i64 .i64 n (by omega) (by omega)
  have q22 := fun a l c w => run_neq_slice_nil_any (P := Try.prog) w 22 24 a l c 0 0 Try.underlying22
  have q23 := fun a l c w => run_neq_slice_nil_any (P := Try.prog) w 23 3 a l c 0 0 Try.underlying23
  have T1 : Hid (t ≤ 18446744073709551615) := t1
  clear t1
  go_enter Try.func4, Try.ntmps4
  go_wp2_with (go_at_call 9; refine (bytes9 _ _ _ _ _ _ _ _ _ _ _).mono ?_; rintro e w' ⟨⟨b, rfl⟩, rfl⟩)
  · go_ret
    exact ⟨rfl, Below.refl _ _⟩
  refine (prem_any a0 a1 a2 n0 c0 n1 c1 n2 c2 los his _ (by omega) (by omega) (by omega) h0 h1).mono ?_
  rintro e w1 ⟨⟨r, rfl, hr⟩, hb1⟩
  cases r with
  | false =>
    go_wp2_with fail
    go_ret
    exact ⟨rfl, hb1⟩
  | true =>
    obtain ⟨rfl, rfl, ho⟩ := hr rfl
    have HO : Hid (Ord los his n2) := ho
    clear ho hr
    have H0 : Hid (RowAt .u64 w1 a0 n2 los) := h0.below hb1
    have H1 : Hid (RowAt .u64 w1 a1 n2 his) := h1.below hb1
    have H2 : Hid (RowAt .i64 w1 a2 n2 ads) := h2.below hb1
    clear h0 h1 h2
    go_upto_if 43 with fail
    go_cut [0] (fun s wx => Hid (∃ a c, s = .slice a n2 c ∧ RowAt .u64 wx a n2 los ∧ Below w1.heap.size w1 wx))
    case first =>
      obtain ⟨W, hW, hR, hB⟩ := copy_into .u64 22 24 (.int .u64 0) Try.underlying22 size24 w1 a0 n2 c0 los H0.out
      have HR : Hid (RowAt .u64 W (some ⟨w1.heap.size, 0, none⟩) n2 los ∧ Below w1.heap.size w1 W) := ⟨hR, hB⟩
      clear hR hB
      go_wp2_with fail
      · go_meet
        case rel => exact ⟨_, _, rfl, HR.out.1, HR.out.2⟩
      · go_meet
        case rel => exact ⟨_, _, rfl, H0.out, Below.refl _ _⟩
    case rest =>
      obtain ⟨s0, d0, rfl, R0, hb2⟩ := hcut.out
      have G0 : Hid (RowAt .u64 wc s0 n2 los) := R0
      have G1 : Hid (RowAt .u64 wc a1 n2 his) := H1.out.below hb2
      have G2 : Hid (RowAt .i64 wc a2 n2 ads) := H2.out.below hb2
      have B2 := hb1.trans (hb2.mono hb1.size)
      clear hcut R0 H0 H1 H2 hb2
      go_upto_if 52 with fail
      go_cut [1] (fun s wx => Hid (∃ a c, s = .slice a n2 c ∧ RowAt .u64 wx a n2 his ∧ Below wc.heap.size wc wx))
      case first =>
        obtain ⟨W, hW, hR, hB⟩ := copy_into .u64 22 24 (.int .u64 0) Try.underlying22 size24 wc a1 n2 c1 his G1.out
        have HR : Hid (RowAt .u64 W (some ⟨wc.heap.size, 0, none⟩) n2 his ∧ Below wc.heap.size wc W) := ⟨hR, hB⟩
        clear hR hB
        go_wp2_with fail
        · go_meet
          case rel => exact ⟨_, _, rfl, HR.out.1, HR.out.2⟩
        · go_meet
          case rel => exact ⟨_, _, rfl, G1.out, Below.refl _ _⟩
      case rest =>
        obtain ⟨s1, d1, rfl, R1, hb3⟩ := hcut.out
        have F0 : Hid (RowAt .u64 wc s0 n2 los) := G0.out.below hb3
        have F1 : Hid (RowAt .u64 wc s1 n2 his) := R1
        have F2 : Hid (RowAt .i64 wc a2 n2 ads) := G2.out.below hb3
        have B3 := B2.trans (hb3.mono B2.size)
        clear hcut R1 G0 G1 G2 hb3 B2
        go_upto_if 61 with fail
        go_cut [2] (fun s wx => Hid (∃ a c, s = .slice a n2 c ∧ RowAt .i64 wx a n2 ads ∧ Below wc.heap.size wc wx))
        case first =>
          obtain ⟨W, hW, hR, hB⟩ := copy_into .i64 23 3 (.int .i64 0) Try.underlying23 size3 wc a2 n2 c2 ads F2.out
          have HR : Hid (RowAt .i64 W (some ⟨wc.heap.size, 0, none⟩) n2 ads ∧ Below wc.heap.size wc W) := ⟨hR, hB⟩
          clear hR hB
          go_wp2_with fail
          · go_meet
            case rel => exact ⟨_, _, rfl, HR.out.1, HR.out.2⟩
          · go_meet
            case rel => exact ⟨_, _, rfl, F2.out, Below.refl _ _⟩
        case rest =>
          obtain ⟨s2, d2, rfl, R2, hb4⟩ := hcut.out
          have B4 := B3.trans (hb4.mono B3.size)
          have E0 := F0.out.below hb4
          have E1 := F1.out.below hb4
          have hnew := new_any s0 s1 s2 n2 d0 d1 d2 los his ads wc (by omega) E0 E1 R2
          have E1H : Hid (RowAt .u64 wc s1 n2 his) := E1
          have E0H : Hid (RowAt .u64 wc s0 n2 los) := E0
          clear hcut F0 F1 F2 hb4 B3 E0 E1 R2
          go_wp2_with fail
          refine hnew.mono ?_
          rintro e w5 ⟨r, bb, rfl, hcell, hrng, hbb, hrr, hb5⟩
          clear hnew
          have B5 := B4.trans (hb5.mono B4.size)
          have E5 : Hid (RowAt .u64 w5 s1 n2 his) := E1H.out.below hb5
          have E50 : Hid (RowAt .u64 w5 s0 n2 los) := E0H.out.below hb5
          have C : Hid (w5.cell? ⟨r, 0, none⟩ = some (.slice (some ⟨bb, 0, none⟩) n2 n2) ∧ Rng w5 bb los his ads n2) := ⟨hcell, hrng⟩
          clear B4 hb5 hcell hrng E1H E0H
          go_wp2_with fail
          go_loopg [13] n2 (fun kx s wr => ∃ k : Nat, s = .int .i64 k ∧ k ≤ n2 ∧ n2 - k ≤ kx ∧ Below w5.heap.size w5 wr)
          case atStart => exact ⟨0, rfl, Nat.zero_le _, by omega, Below.refl _ _⟩
          case round =>
            obtain ⟨k, rfl, hk, hm, hB⟩ := hrel
            have C6 : Hid (wr.cell? ⟨r, 0, none⟩ = some (.slice (some ⟨bb, 0, none⟩) n2 n2) ∧ Rng wr bb los his ads n2 ∧ bb < wr.heap.size ∧ r < wr.heap.size) :=
              ⟨(hB.cell (p := ⟨r, 0, none⟩) hrr).trans C.out.1, C.out.2.below hB hbb, Nat.lt_of_lt_of_le hbb hB.size, Nat.lt_of_lt_of_le hrr hB.size⟩
            have E60 : Hid (RowAt .u64 wr s0 n2 los) := E50.out.below hB
            have E61 : Hid (RowAt .u64 wr s1 n2 his) := E5.out.below hB
            by_cases hlt : k < n2
            · obtain ⟨b0, o0, rfl, d0'⟩ := E60.out k hlt
              obtain ⟨b1, o1, rfl, d1'⟩ := E61.out k hlt
              have i0 : (0 : Int) ≤ (k : Int) := by omega
              have i1 : (k : Int) < (n2 : Int) := by omega
              have f0 := find_any r bb n2 n2 los his ads (los k) wr (by omega) C6.out.1 C6.out.2.1 C6.out.2.2.1 k hk (cut_lo HO.out hlt).1 (cut_lo HO.out hlt).2
              go_wp2_with fail
              refine f0.mono ?_
              rintro e w7 ⟨rfl, hb7⟩
              clear f0
              have d1'' := (hb7.cell (p := ⟨b1, o1 + k, none⟩) (by simpa using World.block_lt_of_cell? _ _ d1')).trans d1'
              have f1 := find_any r bb n2 n2 los his ads (his k) w7 (by omega) ((hb7.cell (p := ⟨r, 0, none⟩) C6.out.2.2.2).trans C6.out.1) (C6.out.2.1.below hb7 C6.out.2.2.1) (Nat.lt_of_lt_of_le C6.out.2.2.1 hb7.size) k hk (cut_hi HO.out hlt).1 (cut_hi HO.out hlt).2
              go_wp2_with fail
              refine f1.mono ?_
              rintro e w8 ⟨rfl, hb8⟩
              clear f1
              go_wp2_with fail
              go_roundg (n2 - (k + 1))
              case measure => omega
              case rel => exact ⟨k + 1, by go_num, by omega, Nat.le_refl _, (hB.trans (hb7.mono hB.size)).trans (hb8.mono (Nat.le_trans hB.size hb7.size))⟩
            · obtain rfl : k = n2 := by omega
              obtain ⟨c1', c2'⟩ := cut_spec HO.out t
              have hf := find_any r bb k k los his ads t wr (by omega) C6.out.1 C6.out.2.1 C6.out.2.2.1 (cut his k t) (cut_le _ _ _) c1' c2'
              have FI := found_iff HO.out t
              have hle := cut_le his k t
              generalize hcc : cut his k t = i at hf FI hle
              have HF : Hid (mem los his t k = true ↔ (i < k ∧ los i ≤ t)) := FI
              clear hcc FI c1' c2'
              go_wp2_with fail
              refine hf.mono ?_
              rintro e w7 ⟨rfl, hb7⟩
              clear hf
              have B7 := (B5.trans (hB.mono B5.size)).trans (hb7.mono (Nat.le_trans B5.size hB.size))
              have E70 : Hid (RowAt .u64 w7 s0 k los) := E60.out.below hb7
              have E71 : Hid (RowAt .u64 w7 s1 k his) := E61.out.below hb7
              clear E60 E61 C6
              have j0 : (0 : Int) ≤ (i : Int) := by omega
              have j1 : (i : Int) ≤ (k : Int) := by omega
              go_wp2_with fail
              go_loop [15, 16] (fun c j => ∃ q : Nat, q ≤ k ∧ j = .int .i64 q ∧ c = .bool (mem los his t q)) (fun _ j => k - (intOf j).toNat)
              case atStart => exact ⟨0, Nat.zero_le _, rfl, rfl⟩
              case round =>
                obtain ⟨q, hq, rfl, hcv⟩ := hrel
                by_cases hlq : q < k
                · subst hcv
                  obtain ⟨b0, o0, rfl, d0'⟩ := E70.out q hlq
                  obtain ⟨b1, o1, rfl, d1'⟩ := E71.out q hlq
                  have i0 : (0 : Int) ≤ (q : Int) := by omega
                  have i1 : (q : Int) < (k : Int) := by omega
                  have E1 : Hid (mem los his t (q + 1) = if los q ≤ t ∧ t ≤ his q then true else mem los his t q) := rfl
                  by_cases p1 : los q ≤ t
                  · by_cases p2 : t ≤ his q
                    · go_wp2_with fail
                      go_round
                      case rel => exact ⟨q + 1, by omega, by go_num, by rw [E1.out, if_pos ⟨p1, p2⟩]⟩
                      case measure => simp [intOf]; omega
                    · go_wp2_with fail
                      go_round
                      case rel => exact ⟨q + 1, by omega, by go_num, by rw [E1.out, if_neg (fun h => p2 h.2)]⟩
                      case measure => simp [intOf]; omega
                  · have p1' : decide (los q ≤ t) = false := by simpa using p1
                    go_wp2_with fail
                    go_round
                    case rel => exact ⟨q + 1, by omega, by go_num, by rw [E1.out, if_neg (fun h => p1 h.1)]⟩
                    case measure => simp [intOf]; omega
                · obtain rfl : q = k := by omega
                  by_cases hik : i < q
                  · obtain ⟨b0, o0, rfl, d0'⟩ := E70.out i hik
                    have i1 : (i : Int) < (q : Int) := by omega
                    by_cases p1 : los i ≤ t
                    · rw [HF.out.2 ⟨hik, p1⟩] at hcv
                      subst hcv
                      go_wp2_with fail
                      go_ret
                      exact ⟨rfl, B7⟩
                    · rw [Bool.eq_false_iff.2 (fun h => p1 (HF.out.1 h).2)] at hcv
                      subst hcv
                      go_wp2_with fail
                      go_ret
                      exact ⟨rfl, B7⟩
                  · rw [Bool.eq_false_iff.2 (fun h => hik (HF.out.1 h).1)] at hcv
                    subst hcv
                    have hI : decide ((i : Int) < (q : Int)) = false := by simpa using hik
                    go_wp2_with fail
                    go_ret
                    exact ⟨rfl, B7⟩
end Go.Proofs.Qxb6613685a
