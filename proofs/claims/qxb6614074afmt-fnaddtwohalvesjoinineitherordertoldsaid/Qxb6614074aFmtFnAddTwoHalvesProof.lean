/-
  The told and tied card of FnAddTwoHalvesJoinInEitherOrder: from the law's walk to the row's step, the witness (a world that holds the listed variable; the door's own run will not do: it writes the model's table of unique.Make, which a start must leave empty), and the builder's one call.
-/
import Derived.Test.Qxb6614074aFmtRows
import Derived.Test.Qxb6614074aFmtTie
import Derived.Test.Qxb6614074aFmtCards
import Derived.Test.Qxb6614074aFmtWm
import Derived.ProofKit
import Derived.OpenShut
import Derived.ShutString
import Derived.ChangeOld
import Derived.Below
import Derived.LaidMore
import Derived.Stop.JoinedAt
import Derived.Stop.Texts
import Derived.Stop.JoinedTold
import Derived.Stop.LaidErr
import Derived.Deep.DeepWitnessRef
import Derived.SevenTiedAt
import Derived.Laws.Cover2
namespace Go.Proofs.Qxb6614074aFmt
open Go.ChangeShapes Go.WideShapes Go.ChangeAt Go.RowKit
open Go.ChangeMaps (open_string shut_string)
open Go.Extern.Stop Go.Stop Go.Extern
set_option linter.unusedVariables false

theorem own : ownKnob Tryf.prog.godebug = none := by kernel_rfl
theorem laidOut0 : laidOutB Tryf.prog = true := by kernel_rfl

/-- A start for the witness: the settled world; the listed variable holds a pointer to a block of its own, which holds what is listed. -/
def wit (P : Program) (os : Os) : World :=
  { World.holding P os ⟨#[], #[], []⟩ with heap := ((World.holding P os ⟨#[], #[], []⟩).heap.setIfInBounds 0 (.cells #[.pointer (some ⟨7, 0, none⟩)] 42)).push (.cells #[.bool true, .string ⟨#[]⟩] 109) }

/-- Its heap meets the condition. -/
theorem door_met (os : Os) (args : Array Value) : laidMetH Tryf.prog Rows.fnAddTwoHalvesJoinInEitherOrderRow.laid ((wit Tryf.prog os).forCall (fun _ _ => 0) ⟨#[], args, []⟩).memory :=
  laidMetH_of_parts3 (fuel := 8) (laidMet_of_run' 8 (by kernel_rfl) (by kernel_rfl)) (by kernel_rfl) (by kernel_rfl)

theorem witness_row (os : Os) {H : Type} (enc : TypeId × Value → H) :
    (OpenSpec.ofChange Rows.fnAddTwoHalvesJoinInEitherOrderSpec).preRow enc Tryf.prog Tryf.f3 Rows.fnAddTwoHalvesJoinInEitherOrderRow.domain false Rows.fnAddTwoHalvesJoinInEitherOrderRow.laid
      ((wit Tryf.prog os).forCall (fun _ _ => 0) ⟨#[], #[.int .i64 0, .slice none 0 0, .int .i64 0, .bool false], []⟩).memory #[.int .i64 0, .slice none 0 0, .int .i64 0, .bool false] := by
  have hw : (DataW.whole enc Tryf.prog ((wit Tryf.prog os).forCall (fun _ _ => 0) ⟨#[], #[.int .i64 0, .slice none 0 0, .int .i64 0, .bool false], []⟩).memory Tryf.f3.params.toList (OpenSpec.ofChange Rows.fnAddTwoHalvesJoinInEitherOrderSpec).vars false #[Value.int .i64 0, .slice none 0 0, .int .i64 0, .bool false].toList 8).map (fun x => (x.1, x.2.1)) =
      some ([.lit (.int .i64 0), .nil, .lit (.int .i64 0), .lit (.bool false)], []) := by kernel_rfl
  obtain ⟨⟨x1, x2, x3⟩, hx, hx1⟩ := Option.map_eq_some_iff.1 hw
  simp only [Prod.mk.injEq] at hx1
  obtain ⟨rfl, rfl⟩ := hx1
  exact OpenSpec.preRow_of_cond 8 hx (by kernel_rfl) (fun k hk => by cases hk) (by kernel_rfl) (door_met os _)

/-- From the listed variable to what the walk asks. -/
theorem z_of_laid {W : World} (h : laidMetH Tryf.prog Rows.fnAddTwoHalvesJoinInEitherOrderRow.laid W) : ∃ z, W.cell? ⟨0, 0, none⟩ = some (.pointer z) := by
  rw [MakeChecks.laidMetH_plain _ _ _ (by kernel_rfl)] at h
  obtain ⟨ps, ⟨g, t, cs, f0, p0, q0, hg, ht, hv, hd, _, e0⟩, _, _⟩ := h
  have hg' : some g = some 0 := hg.symm.trans (by kernel_rfl)
  obtain rfl := Option.some.inj hg'
  have ht' : (Tryf.prog.globals[0]?).map (·.type) = some 42 := by kernel_rfl
  obtain rfl := Option.some.inj (ht'.symm.trans ht)
  obtain ⟨y0, n, hx, hl, hy⟩ := trod_struct1 Tryf.underlying42 hd
  obtain ⟨y1, y2⟩ := y0
  simp only [Rows.laid_net_netip_z6noz, Prod.mk.injEq, DataW.agg.injEq, List.cons.injEq, and_true] at hx
  obtain ⟨rfl, rfl⟩ := hx
  obtain ⟨fuel', a, cs', q, hc, hcells, htr, hq⟩ := ptr_of_trod Tryf.underlying40 hy
  have e40 : Tryf.prog.cellsOf 40 = 1 := by kernel_rfl
  have hc0 := World.var?_cell hg hv 0
  have hc' : (cs.toList.drop 0).take (Tryf.prog.cellsOf 40) = [.pointer (some a)] := hc
  rw [e40, List.drop_zero] at hc'
  clear hc hcells htr hq hy hd hv e0
  obtain ⟨l⟩ := cs
  cases l with
  | nil => simp at hc'
  | cons c r =>
    simp only [List.take_succ_cons, List.take_zero, List.cons.injEq, and_true] at hc'
    subst hc'
    exact ⟨some a, hc0⟩

/-- What the walk is told of a slice of bytes that came in. -/
def IsRow (k : IntKind) (w : World) (a : Option Addr) (len cap : Nat) (zs : List Int) : Prop :=
  (a = none ∧ len = 0 ∧ cap = 0 ∧ zs = []) ∨
  ∃ x, a = some x ∧ len ≤ cap ∧ cap ≤ maxLen ∧ zs.length = cap ∧ (∀ i, i < zs.length → w.cell? (x.add i) = some (.int k (zs.getD i 0))) ∧ ∀ n ∈ zs, (Lit.int k n).wf = true

theorem bytes_of {w : World} {a : Option Addr} {len cap : Nat} {zs : List Int} (h : IsRow .u8 w a len cap zs) : Bytes w a len (fun j => zs.getD j 0) ∧ len ≤ cap := by
  rcases h with ⟨rfl, rfl, rfl, rfl⟩ | ⟨x, rfl, hl, hm, hz, hc, _⟩
  · exact ⟨fun j hj => absurd hj (Nat.not_lt_zero _), Nat.le_refl _⟩
  · refine ⟨fun j hj => ?_, hl⟩
    obtain ⟨b, off, rfl, hcell⟩ := ints_at hc (by omega)
    exact ⟨b, off, rfl, hcell j (by omega)⟩

set_option maxRecDepth 100000 in
set_option maxHeartbeats 1000000 in
theorem lifted (os : Os) (started : os.Started) (H : Type) (enc : TypeId × Value → H) :
    ReturnsInTold none {} Tryf.checked os 3 .any Input.okWide ((OpenSpec.ofChange Rows.fnAddTwoHalvesJoinInEitherOrderSpec).preRow enc Tryf.prog Tryf.f3 Rows.fnAddTwoHalvesJoinInEitherOrderRow.domain false Rows.fnAddTwoHalvesJoinInEitherOrderRow.laid)
      (fun F => ((OpenSpec.ofChange Rows.fnAddTwoHalvesJoinInEitherOrderSpec).at F).post enc Tryf.prog Tryf.f3 false true false false) (aloneAtReturn Tryf.prog) nothingAlways := by
  refine returnsInTold_of_row (C := Tryf.checked) (s := OpenSpec.ofChange Rows.fnAddTwoHalvesJoinInEitherOrderSpec) (by kernel_rfl) own started (by kernel_rfl) Tryf.func3
    (OpenSpec.witness_stopped_atRef (enc := enc) (C := Tryf.checked) false (wit Tryf.prog os) #[.int .i64 0, .slice none 0 0, .int .i64 0, .bool false] rfl (by kernel_rfl) (by kernel_rfl) (by kernel_rfl) (witness_row os enc)) ?_
  intro F W base args ds gs before _ hF hval0 hW _ _ _ hL _
  have hval : ∀ (j : Nat) t v, Tryf.f3.params[j]? = some t → args[j]? = some v → Value.okWide Tryf.prog W .any base t v := hval0
  have hW' := hW
  obtain ⟨p, q, hA0, hV, rfl, _, _⟩ := hW
  have hA : DataW.TrodAll enc Tryf.prog W 0 (fun _ => true) true Tryf.f3.params.toList args.toList ds p := hA0
  rw [Tryf.params3] at hA hval
  obtain ⟨v0, v1, v2, v3, d0, d1, d2, d3, p0, p1, p2, p3, rfl, rfl, rfl, h0, h1, h2, h3⟩ := trodAll_four hA
  obtain ⟨rfl, rfl⟩ := trodVars_none hV
  obtain ⟨x0, rfl, rfl, rfl, w0⟩ := open_int Tryf.underlying3 (hval 0 3 v0 rfl rfl) h0
  obtain ⟨a1, len1, cap1, rfl⟩ := okWide_slice Tryf.underlying22 (hval 1 22 v1 rfl rfl)
  have k1 := h1
  have lt1 : ∀ x ∈ p1, x.block < W.heap.size := by obtain ⟨m, hm⟩ := k1; exact DataW.trod_lt m _ _ _ hm
  obtain ⟨z1, w1⟩ : ∃ zs, IsRow .u8 W a1 len1 cap1 zs := by
    obtain ⟨fuel, hf⟩ := h1
    rcases open_ints Tryf.underlying22 Tryf.underlying5 (by kernel_rfl) hf with ⟨hcs, _⟩ | ⟨x, l, c, zs, hcs, _, hl, hm, hz, _, hcell, hwz⟩
    · simp [Value.cells] at hcs
      obtain ⟨rfl, rfl, rfl⟩ := hcs
      exact ⟨[], .inl ⟨rfl, rfl, rfl, rfl⟩⟩
    · simp [Value.cells] at hcs
      obtain ⟨rfl, rfl, rfl⟩ := hcs
      exact ⟨zs, .inr ⟨_, rfl, hl, hm, by simpa using hz, hcell, hwz⟩⟩
  obtain ⟨x2, rfl, rfl, rfl, w2⟩ := open_int Tryf.underlying3 (hval 2 3 v2 rfl rfl) h2
  obtain ⟨b3, rfl, rfl, rfl⟩ := open_bool Tryf.underlying4 (hval 3 4 v3 rfl rfl) h3
  clear hA0 hval0
  obtain ⟨z, hz⟩ := z_of_laid hL
  obtain ⟨hB, hnc⟩ := bytes_of w1
  refine (law_any x0 x2 a1 len1 cap1 b3 z _ W hz hB hnc).mono fun e W' ⟨he, bel⟩ => ?_
  subst he
  exact ⟨_, rfl, _, _, _, [], _, [], hW', trodAll_mk1 (shut_bool Tryf.underlying4 _), trodAll_mk4 (shut_int Tryf.underlying3 w0) (Below.trod laidOut0 (by kernel_rfl) (of_decide_eq_true (by kernel_rfl)) k1 bel lt1) (shut_int Tryf.underlying3 w2) (shut_bool Tryf.underlying4 _), rfl, bel.frame _, fun h => by cases h⟩

theorem laidOut : laidOutB Tryf.pinned.checked.prog = true := by kernel_rfl
theorem stopsAre : Tryf.pinned.checked.prog.stops = ["fmt.errorf"] := by kernel_rfl
theorem stopKnobs : Tryf.pinned.checked.prog.stopKnobs = [] := by kernel_rfl
theorem quietOs (os : Os) : Stop.quiet Tryf.pinned.checked.prog os := by
  intro k hk
  rw [stopKnobs] at hk
  cases hk

/-- The statement. -/
theorem fnAddTwoHalves_proved : Rows.FnAddTwoHalvesJoinInEitherOrderToldSaid :=
  Claim7.holds_of_told_tied_any_at .later 3 Tryf.f3 "fmt.errorf" [] [] _ _ _ _ _ (by kernel_rfl) rfl rfl rfl laidOut (by kernel_rfl) rfl ⟨rfl, rfl, rfl, rfl, rfl, rfl, rfl⟩ rfl rfl (by kernel_rfl) (by kernel_rfl) Tryf.func3 (by kernel_rfl)
    (of_decide_eq_true (by kernel_rfl)) (by unfold Func.isWrapper; first | (rw [if_pos (by decide +kernel)]; kernel_rfl) | (rw [if_neg (by decide +kernel)]; exact ⟨rfl, rfl⟩)) stopsAre.symm rfl stopKnobs.symm (by kernel_rfl)
    (by kernel_rfl) (by kernel_rfl) (by kernel_rfl) (by kernel_rfl) (by kernel_rfl) (by kernel_rfl) (by kernel_rfl) (by kernel_rfl) (by kernel_rfl) rfl (by kernel_rfl) rfl rfl
    rfl rfl
    rfl (by kernel_rfl) (by kernel_rfl) (by kernel_rfl) (by decide) (by kernel_rfl) fnAddTwoHalvesJoinInEitherOrder_row_tie
    (OpenClaim.moreEntering_of (by kernel_rfl) (by kernel_rfl) (by kernel_rfl) (by kernel_rfl) (by kernel_rfl) (by kernel_rfl) (by kernel_rfl) (by kernel_rfl) (by kernel_rfl) (by kernel_rfl))
    ⟨_, WideRow.started_initial, quietOs _⟩
    (fun os started _ H enc _ => lifted os started H enc)
end Go.Proofs.Qxb6614074aFmt
