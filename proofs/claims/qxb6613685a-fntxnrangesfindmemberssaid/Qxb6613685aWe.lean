/-
  FnTxnRangesFindCount: the law's walk.
-/
import Derived.Test.Qxb6613685aWd
import Derived.Laws.CopyOwn
import Derived.Deep.DeepCutAuto
namespace Go.Proofs.Qxb6613685a
open Go.RowKit
set_option linter.unusedVariables false

def vals (k : IntKind) (f : Nat → Int) (n : Nat) : List Value := (List.range n).map fun j => .int k (f j)
theorem vals_len (k : IntKind) (f : Nat → Int) (n : Nat) : (vals k f n).length = n := by simp [vals]
theorem vals_at {k : IntKind} {f : Nat → Int} {n j : Nat} (h : j < n) : (vals k f n)[j]? = some (.int k (f j)) := by simp [vals, h]
theorem vals_one (k : IntKind) (f : Nat → Int) (n : Nat) : ∀ v ∈ vals k f n, v.oneCell' = true := by
  intro v hv
  simp only [vals, List.mem_map] at hv
  obtain ⟨j, _, rfl⟩ := hv
  rfl

theorem RowAt.src {k : IntKind} {w : World} {a : Option Addr} {n : Nat} {f : Nat → Int} (h : RowAt k w a n f) (hn : 0 < n) :
    ∃ ad, a = some ad ∧ ∀ j v, (vals k f n)[j]? = some v → w.cell? (ad.add j) = some v := by
  obtain ⟨b, o, rfl, _⟩ := h 0 hn
  refine ⟨_, rfl, fun j v hv => ?_⟩
  have hj : j < n := by
    have := (List.getElem?_eq_some_iff.1 hv).1
    simpa [vals] using this
  rw [vals_at hj] at hv
  obtain ⟨b', o', e, hc⟩ := h j hj
  simp only [Option.some.injEq, Addr.mk.injEq] at e
  obtain ⟨rfl, rfl, _⟩ := e
  rw [← hv]
  have e2 : (⟨b, o, none⟩ : Addr).add j = ⟨b, o + j, none⟩ := by
    unfold Addr.add
    split
    · rename_i h; subst h; rfl
    · rfl
  rw [e2]
  exact hc

theorem RowAt.copied {k : IntKind} {w : World} {g n t : Nat} {f : Nat → Int} {cur : List Value} (hc : cur.length = n) (h : w.heap[g]? = some (.cells (splice cur 0 (vals k f n)).toArray t (0, 0))) : RowAt k w (some ⟨g, 0, none⟩) n f := fun j hj => by
  refine ⟨g, 0, rfl, ?_⟩
  have e : splice cur 0 (vals k f n) = vals k f n := by
    simp only [splice, List.take_zero, List.nil_append, vals_len, Nat.zero_add]
    rw [List.drop_of_length_le (by omega), List.append_nil]
  rw [e] at h
  simp only [World.cell?, h]
  simpa using vals_at hj

theorem heap_made (w : World) (cs : Array Value) (t : TypeId) : (w.alloc (.cells cs t)).heap[w.heap.size]? = some (.cells cs.toList.toArray t (0, 0)) := by
  show (w.heap.push _)[w.heap.size]? = _
  simp
theorem made_len (z : Value) (n : Nat) : (madeCells #[z] n).toList.length = n := by rw [Array.length_toList, size_madeCells]
theorem below_alloc (w : World) (o : Obj) : Below w.heap.size w (w.alloc o) := (Below.refl _ _).alloc (Nat.le_refl _) _

theorem info24 : (Try.prog.info? 24).map (fun i => (i.zero, i.size, i.bytes)) = some (some (.int .u64 0), 1, 8) := by kernel_rfl
theorem info3 : (Try.prog.info? 3).map (fun i => (i.zero, i.size, i.bytes)) = some (some (.int .i64 0), 1, 8) := by kernel_rfl
theorem size24 : (Try.prog.info? 24).map (·.size) = some 1 := by kernel_rfl
theorem size3 : (Try.prog.info? 3).map (·.size) = some 1 := by kernel_rfl

theorem copy_into (k : IntKind) (T E : TypeId) (z : Value) (hu : Try.prog.underlying T = some (.slice E)) (hs : (Try.prog.info? E).map (·.size) = some 1) (w : World) (a : Option Addr) (n c : Nat) (f : Nat → Int) (h : RowAt k w a n f) :
    ∃ W, (∀ ty, (Builtin.copy_ #[T, T] ty #[.slice (some ⟨w.heap.size, 0, none⟩) n n, .slice a n c]).run Try.prog (w.alloc (.cells (madeCells #[z] n) E)) = .ok (goInt n) W) ∧ RowAt k W (some ⟨w.heap.size, 0, none⟩) n f ∧ Below w.heap.size w W := by
  by_cases hn : n = 0
  · subst hn
    exact ⟨_, fun ty => run_copy_none _ T T ty E _ a 0 0 0 c hu hs rfl, fun j hj => absurd hj (Nat.not_lt_zero _), below_alloc _ _⟩
  · obtain ⟨ad, rfl, hsrc⟩ := (h.below (below_alloc w (.cells (madeCells #[z] n) E))).src (by omega)
    have hh := heap_made w (madeCells #[z] n) E
    have hsz : (madeCells #[z] n).toList.toArray.size = n := by simp [size_madeCells]
    have hr := fun ty => run_copy_row (P := Try.prog) (w.alloc (.cells (madeCells #[z] n) E)) T T ty E w.heap.size 0 n n ad n c _ E (vals k f n) hu hs hh (by rw [vals_len]; simp) hsrc (by rw [vals_len, hsz]; omega) (vals_one _ _ _)
    refine ⟨(w.alloc (.cells (madeCells #[z] n) E)).setRow w.heap.size (splice (madeCells #[z] n).toList 0 (vals k f n)).toArray, fun ty => ?_, RowAt.copied (made_len z n) (setRow_heap _ _ _ _ E _ hh), below_setRow (below_alloc _ _) (Nat.le_refl _) _⟩
    rw [hr ty, vals_len]
    simp [splice, vals_len]

set_option maxHeartbeats 2000000 in
set_option maxRecDepth 100000 in
theorem count_in (a0 a1 a2 : Option Addr) (n0 c0 n1 c1 n2 c2 : Nat) (los his ads : Nat → Int) (t : Int) (w : World) (hn0 : n0 ≤ 32768) (hn1 : n1 ≤ 32768) (hn2 : n2 ≤ 32768)
    (h0 : RowAt .u64 w a0 n0 los) (h1 : RowAt .u64 w a1 n1 his) (h2 : RowAt .i64 w a2 n2 ads) (z0 : a0 = none → n0 = 0) (z1 : a1 = none → n1 = 0) (z2 : a2 = none → n2 = 0) (t0 : 0 ≤ t) (t1 : t ≤ 18446744073709551615) :
    Calls Try.prog 3 #[.slice a0 n0 c0, .slice a1 n1 c1, .slice a2 n2 c2, .int .u64 t] w fun e w' => e = .returned (.bool true) ∧ Below w.heap.size w w' := by
  have mk22 := fun (n : Nat) (hn : n ≤ 32768) => run_make_row' (P := Try.prog) 22 24 (.int .u64 0) 8 Try.underlying22 info24 rfl .i64 .i64 n (by omega) (by omega)
  have mk23 := fun (n : Nat) (hn : n ≤ 32768) => run_make_row' (P := Try.prog) 23 3 (.int .i64 0) 8 Try.underlying23 info3 rfl .i64 .i64 n (by omega) (by omega)
  have q22 := fun a l c w => run_neq_slice_nil_any (P := Try.prog) w 22 24 a l c 0 0 Try.underlying22
  have q23 := fun a l c w => run_neq_slice_nil_any (P := Try.prog) w 23 3 a l c 0 0 Try.underlying23
  have T1 : Hid (t ≤ 18446744073709551615) := t1
  clear t1
  go_enter Try.func3, Try.ntmps3
  go_wp2_with (go_at_call 5; refine (bytes5 _ _ _ _ _ _ _ _ _ _ _).mono ?_; rintro e w' ⟨⟨b, rfl⟩, rfl⟩)
  · go_ret
    exact ⟨rfl, Below.refl _ _⟩
  refine (prem_any a0 a1 a2 n0 c0 n1 c1 n2 c2 los his _ (by omega) (by omega) (by omega) h0 h1).mono ?_
  rintro e w1 ⟨⟨r, rfl, hr⟩, hb1⟩
  cases r with
  | false =>
    go_wp2_with fail
    go_ret
    exact ⟨rfl, hb1⟩
  | true =>
    obtain ⟨rfl, rfl, ho⟩ := hr rfl
    have HO : Hid (Ord los his n2) := ho
    clear ho hr
    have H0 : Hid (RowAt .u64 w1 a0 n2 los) := h0.below hb1
    have H1 : Hid (RowAt .u64 w1 a1 n2 his) := h1.below hb1
    have H2 : Hid (RowAt .i64 w1 a2 n2 ads) := h2.below hb1
    clear h0 h1 h2
    go_upto_if 43 with fail
    go_cut [0] (fun s wx => Hid (∃ a c, s = .slice a n2 c ∧ RowAt .u64 wx a n2 los ∧ Below w1.heap.size w1 wx))
    case first =>
      obtain ⟨W, hW, hR, hB⟩ := copy_into .u64 22 24 (.int .u64 0) Try.underlying22 size24 w1 a0 n2 c0 los H0.out
      have HR : Hid (RowAt .u64 W (some ⟨w1.heap.size, 0, none⟩) n2 los ∧ Below w1.heap.size w1 W) := ⟨hR, hB⟩
      clear hR hB
      go_wp2_with fail
      · go_meet
        case rel => exact ⟨_, _, rfl, HR.out.1, HR.out.2⟩
      · go_meet
        case rel => exact ⟨_, _, rfl, H0.out, Below.refl _ _⟩
    case rest =>
      obtain ⟨s0, d0, rfl, R0, hb2⟩ := hcut.out
      have G0 : Hid (RowAt .u64 wc s0 n2 los) := R0
      have G1 : Hid (RowAt .u64 wc a1 n2 his) := H1.out.below hb2
      have G2 : Hid (RowAt .i64 wc a2 n2 ads) := H2.out.below hb2
      have B2 := hb1.trans (hb2.mono hb1.size)
      clear hcut R0 H0 H1 H2 hb2
      go_upto_if 52 with fail
      go_cut [1] (fun s wx => Hid (∃ a c, s = .slice a n2 c ∧ RowAt .u64 wx a n2 his ∧ Below wc.heap.size wc wx))
      case first =>
        obtain ⟨W, hW, hR, hB⟩ := copy_into .u64 22 24 (.int .u64 0) Try.underlying22 size24 wc a1 n2 c1 his G1.out
        have HR : Hid (RowAt .u64 W (some ⟨wc.heap.size, 0, none⟩) n2 his ∧ Below wc.heap.size wc W) := ⟨hR, hB⟩
        clear hR hB
        go_wp2_with fail
        · go_meet
          case rel => exact ⟨_, _, rfl, HR.out.1, HR.out.2⟩
        · go_meet
          case rel => exact ⟨_, _, rfl, G1.out, Below.refl _ _⟩
      case rest =>
        obtain ⟨s1, d1, rfl, R1, hb3⟩ := hcut.out
        have F0 : Hid (RowAt .u64 wc s0 n2 los) := G0.out.below hb3
        have F1 : Hid (RowAt .u64 wc s1 n2 his) := R1
        have F2 : Hid (RowAt .i64 wc a2 n2 ads) := G2.out.below hb3
        have B3 := B2.trans (hb3.mono B2.size)
        clear hcut R1 G0 G1 G2 hb3 B2
        go_upto_if 61 with fail
        go_cut [2] (fun s wx => Hid (∃ a c, s = .slice a n2 c ∧ RowAt .i64 wx a n2 ads ∧ Below wc.heap.size wc wx))
        case first =>
          obtain ⟨W, hW, hR, hB⟩ := copy_into .i64 23 3 (.int .i64 0) Try.underlying23 size3 wc a2 n2 c2 ads F2.out
          have HR : Hid (RowAt .i64 W (some ⟨wc.heap.size, 0, none⟩) n2 ads ∧ Below wc.heap.size wc W) := ⟨hR, hB⟩
          clear hR hB
          go_wp2_with fail
          · go_meet
            case rel => exact ⟨_, _, rfl, HR.out.1, HR.out.2⟩
          · go_meet
            case rel => exact ⟨_, _, rfl, F2.out, Below.refl _ _⟩
        case rest =>
          obtain ⟨s2, d2, rfl, R2, hb4⟩ := hcut.out
          have B4 := B3.trans (hb4.mono B3.size)
          have E0 := F0.out.below hb4
          have E1 := F1.out.below hb4
          have hnew := new_any s0 s1 s2 n2 d0 d1 d2 los his ads wc (by omega) E0 E1 R2
          have E1H : Hid (RowAt .u64 wc s1 n2 his) := E1
          clear hcut F0 F1 F2 hb4 B3 E0 E1 R2
          go_wp2_with fail
          refine hnew.mono ?_
          rintro e w5 ⟨r, bb, rfl, hcell, hrng, hbb, hrr, hb5⟩
          clear hnew
          have B5 := B4.trans (hb5.mono B4.size)
          have E5 : Hid (RowAt .u64 w5 s1 n2 his) := E1H.out.below hb5
          obtain ⟨c1', c2'⟩ := cut_spec HO.out t
          have hf := find_any r bb n2 n2 los his ads t w5 (by omega) hcell hrng hbb (cut his n2 t) (cut_le _ _ _) c1' c2'
          have C : Hid (w5.cell? ⟨r, 0, none⟩ = some (.slice (some ⟨bb, 0, none⟩) n2 n2) ∧ Rng w5 bb los his ads n2) := ⟨hcell, hrng⟩
          have CS := cut_succ HO.out t
          have hle := cut_le his n2 t
          generalize hcc : cut his n2 t = i at hf CS hle
          have HC : Hid (cut his n2 t = i) := hcc
          have HS : Hid (cut his n2 (t + 1) = i + if i < n2 ∧ his i = t then 1 else 0) := CS
          clear hcc CS c1' c2' B4 hb5 hcell hrng E1H
          go_wp2_with fail
          refine hf.mono ?_
          rintro e w6 ⟨rfl, hb6⟩
          clear hf
          have B6 := B5.trans (hb6.mono B5.size)
          have E6 : Hid (RowAt .u64 w6 s1 n2 his) := E5.out.below hb6
          clear E5 B5
          go_wp2_with fail
          go_loop [14, 15] (fun c j => ∃ k : Nat, k ≤ n2 ∧ j = .int .i64 k ∧ c = .int .i64 (cut his k t : Nat)) (fun _ j => n2 - (intOf j).toNat)
          case atStart => exact ⟨0, Nat.zero_le _, rfl, rfl⟩
          case round =>
            obtain ⟨k, hk, rfl, hcv⟩ := hrel
            have hkl := cut_le his k t
            by_cases hlt : k < n2
            · subst hcv
              obtain ⟨b1, o1, rfl, dd⟩ := E6.out k hlt
              have i0 : (0 : Int) ≤ (k : Int) := by omega
              have i1 : (k : Int) < (n2 : Int) := by omega
              by_cases hc : his k < t
              · have e1 : cut his (k + 1) t = cut his k t + 1 := by simp [cut, hc]
                have E1 : Hid _ := e1
                clear e1
                go_wp2
                go_round
                case rel => exact ⟨k + 1, by omega, by go_num, by rw [E1.out]; go_num⟩
                case measure => simp [intOf]; omega
              · have e1 : cut his (k + 1) t = cut his k t := by simp [cut, hc]
                have E1 : Hid _ := e1
                clear e1
                go_wp2
                go_round
                case rel => exact ⟨k + 1, by omega, by go_num, by rw [E1.out]⟩
                case measure => simp [intOf]; omega
            · obtain rfl : k = n2 := by omega
              rw [HC.out] at hcv
              subst hcv
              clear hkl HC
              by_cases htm : t = 18446744073709551615
              · have hb : (t == 18446744073709551615) = true := by simpa using htm
                clear htm
                go_wp2_with fail
                go_ret
                exact ⟨rfl, B6⟩
              · have hb : (t == 18446744073709551615) = false := by simpa using htm
                have hwr : IntKind.u64.wrap (t + 1) = t + 1 := by
                  have := T1.out
                  rw [IntKind.wrap_u64]
                  omega
                clear htm
                obtain ⟨c1', c2'⟩ := cut_spec HO.out (t + 1)
                have hf := find_any r bb k k los his ads (t + 1) w6 (by omega) ((hb6.cell (p := ⟨r, 0, none⟩) hrr).trans C.out.1) (C.out.2.below hb6 hbb) (Nat.lt_of_lt_of_le hbb hb6.size) (cut his k (t + 1)) (cut_le _ _ _) c1' c2'
                rw [HS.out] at hf
                clear c1' c2'
                by_cases hik : i < k
                · by_cases heq : his i = t
                  · rw [if_pos ⟨hik, heq⟩] at hf
                    have hE : (his i == t) = true := by simpa using heq
                    clear heq
                    go_wp2_with fail
                    refine hf.mono ?_
                    rintro e w7 ⟨rfl, hb7⟩
                    obtain ⟨b1, o1, rfl, dd⟩ := E6.out.below hb7 i hik
                    have i0 : (0 : Int) ≤ (i : Int) := by omega
                    have i1 : (i : Int) < (k : Int) := by omega
                    go_wp2_with fail
                    go_ret
                    exact ⟨by simp, B6.trans (hb7.mono B6.size)⟩
                  · rw [if_neg (fun h => heq h.2)] at hf
                    have hE : (his i == t) = false := by simpa using heq
                    clear heq
                    go_wp2_with fail
                    refine hf.mono ?_
                    rintro e w7 ⟨rfl, hb7⟩
                    obtain ⟨b1, o1, rfl, dd⟩ := E6.out.below hb7 i hik
                    have i0 : (0 : Int) ≤ (i : Int) := by omega
                    have i1 : (i : Int) < (k : Int) := by omega
                    go_wp2_with fail
                    go_ret
                    exact ⟨by simp, B6.trans (hb7.mono B6.size)⟩
                · rw [if_neg (fun h => hik h.1)] at hf
                  have hI : decide ((i : Int) < (k : Int)) = false := by simpa using hik
                  go_wp2_with fail
                  refine hf.mono ?_
                  rintro e w7 ⟨rfl, hb7⟩
                  go_wp2_with fail
                  go_ret
                  exact ⟨by simp, B6.trans (hb7.mono B6.size)⟩
end Go.Proofs.Qxb6613685a
