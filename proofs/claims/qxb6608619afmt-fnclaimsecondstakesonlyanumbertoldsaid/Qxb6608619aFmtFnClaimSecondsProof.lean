/-
  The told and tied card of FnClaimSecondsTakesOnlyANumber: from the law's walk to the row's step, the witness (the heap that the door's own run leaves), and the builder's one call.
-/
import Derived.Test.Qxb6608619aFmtRows
import Derived.Test.Qxb6608619aFmtTie
import Derived.Test.Qxb6608619aFmtCards
import Derived.Test.Qxb6608619aFmtWb
import Derived.ProofKit
import Derived.LaidMore
import Derived.Stop.JoinedAt
import Derived.Stop.Texts
import Derived.Stop.JoinedTold
import Derived.Stop.LaidErr
import Derived.Deep.DeepWitnessRef
import Derived.SevenTiedAt
import Derived.Laws.Cover2
namespace Go.Proofs.Qxb6608619aFmt
open Go.ChangeShapes Go.WideShapes Go.ChangeAt Go.RowKit
open Go.ChangeMaps (open_string shut_string)
open Go.Extern.Stop Go.Stop Go.Extern
set_option linter.unusedVariables false

theorem own : ownKnob Tryf.prog.godebug = none := by kernel_rfl
theorem row47 {nm : String} (hnm : nm = String.singleton (Char.ofNat 42) ++ "errors.errorString") (u : TypeId) (h : Tryf.prog.typeName? 3 u = some nm) : u = 47 :=
  typeName_ptr_named (nm := "errors.errorString") (by kernel_rfl) (by kernel_rfl) (by decide) u (h.trans (congrArg some (hnm.trans (by decide))))

/-- The door's own heap meets the condition. -/
theorem door_met (os : Os) (args : Array Value) : laidMetH Tryf.prog Rows.fnClaimSecondsTakesOnlyANumberRow.laid ((World.doorLaid Tryf.prog 62 os).forCall (fun _ _ => 0) ⟨#[], args, []⟩).memory :=
  laidMetH_of_parts3 (fuel := 8) (laidMet_of_run' 8 (by kernel_rfl) (by kernel_rfl)) (by kernel_rfl) (by kernel_rfl)

theorem witness_row (os : Os) {H : Type} (enc : TypeId × Value → H) :
    (OpenSpec.ofChange Rows.fnClaimSecondsTakesOnlyANumberSpec).preRow enc Tryf.prog Tryf.f3 Rows.fnClaimSecondsTakesOnlyANumberRow.domain false Rows.fnClaimSecondsTakesOnlyANumberRow.laid
      ((World.doorLaid Tryf.prog 62 os).forCall (fun _ _ => 0) ⟨#[], #[.string ⟨#[]⟩, .string ⟨#[]⟩, .string ⟨#[]⟩, .float .f64 0], []⟩).memory #[.string ⟨#[]⟩, .string ⟨#[]⟩, .string ⟨#[]⟩, .float .f64 0] := by
  have hw : (DataW.whole enc Tryf.prog ((World.doorLaid Tryf.prog 62 os).forCall (fun _ _ => 0) ⟨#[], #[.string ⟨#[]⟩, .string ⟨#[]⟩, .string ⟨#[]⟩, .float .f64 0], []⟩).memory Tryf.f3.params.toList (OpenSpec.ofChange Rows.fnClaimSecondsTakesOnlyANumberSpec).vars false #[Value.string ⟨#[]⟩, .string ⟨#[]⟩, .string ⟨#[]⟩, .float .f64 0].toList 8).map (fun x => (x.1, x.2.1)) =
      some ([.lit (.string []), .lit (.string []), .lit (.string []), .lit (.float .f64 0)], []) := by kernel_rfl
  obtain ⟨⟨x1, x2, x3⟩, hx, hx1⟩ := Option.map_eq_some_iff.1 hw
  simp only [Prod.mk.injEq] at hx1
  obtain ⟨rfl, rfl⟩ := hx1
  exact OpenSpec.preRow_of_cond 8 hx (by kernel_rfl) (fun k hk => by cases hk) (by kernel_rfl) (door_met os _)

/-- From the listed variables to what the walks ask. -/
theorem vars_of_laid {W : World} (h : laidMetH Tryf.prog Rows.fnClaimSecondsTakesOnlyANumberRow.laid W) : Vars W := by
  rw [MakeChecks.laidMetH_plain _ _ _ (by kernel_rfl)] at h
  obtain ⟨a1, t1, hv1, _⟩ := laid_sentinel (g := 1) h.tail.tail.tail (by kernel_rfl) (by kernel_rfl) Tryf.underlying25 (row47 (by decide)) Tryf.underlying47 Tryf.underlying49 rfl rfl Tryf.underlying9 (by kernel_rfl) (by kernel_rfl)
  obtain ⟨a0, t0, hv0, _⟩ := laid_sentinel (g := 0) h.tail.tail.tail.tail (by kernel_rfl) (by kernel_rfl) Tryf.underlying25 (row47 (by decide)) Tryf.underlying47 Tryf.underlying49 rfl rfl Tryf.underlying9 (by kernel_rfl) (by kernel_rfl)
  exact ⟨47, 47, _, _, hv0, hv1⟩

set_option maxRecDepth 100000 in
set_option maxHeartbeats 1000000 in
theorem lifted (os : Os) (started : os.Started) (H : Type) (enc : TypeId × Value → H) :
    ReturnsInTold none {} Tryf.checked os 3 .any Input.okWide ((OpenSpec.ofChange Rows.fnClaimSecondsTakesOnlyANumberSpec).preRow enc Tryf.prog Tryf.f3 Rows.fnClaimSecondsTakesOnlyANumberRow.domain false Rows.fnClaimSecondsTakesOnlyANumberRow.laid)
      (fun F => ((OpenSpec.ofChange Rows.fnClaimSecondsTakesOnlyANumberSpec).at F).post enc Tryf.prog Tryf.f3 false true false false) (aloneAtReturn Tryf.prog) nothingAlways := by
  refine returnsInTold_of_row (C := Tryf.checked) (s := OpenSpec.ofChange Rows.fnClaimSecondsTakesOnlyANumberSpec) (by kernel_rfl) own started (by kernel_rfl) Tryf.func3
    (OpenSpec.witness_stopped_atRef (enc := enc) (C := Tryf.checked) false (World.doorLaid Tryf.prog 62 os) #[.string ⟨#[]⟩, .string ⟨#[]⟩, .string ⟨#[]⟩, .float .f64 0] rfl (by kernel_rfl) (by kernel_rfl) (by kernel_rfl) (witness_row os enc)) ?_
  intro F W base args ds gs before _ hF hval0 hW _ _ _ hL _
  have hval : ∀ (j : Nat) t v, Tryf.f3.params[j]? = some t → args[j]? = some v → Value.okWide Tryf.prog W .any base t v := hval0
  have hW' := hW
  obtain ⟨p, q, hA0, hV, rfl, _, _⟩ := hW
  have hA : DataW.TrodAll enc Tryf.prog W 0 (fun _ => true) true Tryf.f3.params.toList args.toList ds p := hA0
  rw [Tryf.params3] at hA hval
  obtain ⟨v0, v1, v2, v3, d0, d1, d2, d3, p0, p1, p2, p3, rfl, rfl, rfl, h0, h1, h2, h3⟩ := trodAll_four hA
  obtain ⟨rfl, rfl⟩ := trodVars_none hV
  obtain ⟨s0, rfl, rfl, rfl, w0⟩ := open_string Tryf.underlying9 (hval 0 9 v0 rfl rfl) h0
  obtain ⟨s1, rfl, rfl, rfl, w1⟩ := open_string Tryf.underlying9 (hval 1 9 v1 rfl rfl) h1
  obtain ⟨s2, rfl, rfl, rfl, w2⟩ := open_string Tryf.underlying9 (hval 2 9 v2 rfl rfl) h2
  obtain ⟨x3, rfl, rfl, rfl, w3⟩ := open_float Tryf.underlying22 (hval 3 22 v3 rfl rfl) h3
  clear hA0 hval0
  have hv := vars_of_laid hL
  refine (main_any F.told s0 s1 s2 _ W ⟨x3, rfl⟩ hF hv).mono fun e W' ⟨he, bel⟩ => ?_
  subst he
  exact ⟨_, rfl, _, _, _, [], [], [], hW', trodAll_mk1 (shut_bool Tryf.underlying4 _), trodAll_mk4 (shut_string Tryf.underlying9 w0) (shut_string Tryf.underlying9 w1) (shut_string Tryf.underlying9 w2) (shut_float Tryf.underlying22 w3), rfl, bel.frame _, fun h => by cases h⟩

theorem laidOut : laidOutB Tryf.pinned.checked.prog = true := by kernel_rfl
theorem stopsAre : Tryf.pinned.checked.prog.stops = ["fmt.errorf"] := by kernel_rfl
theorem stopKnobs : Tryf.pinned.checked.prog.stopKnobs = [] := by kernel_rfl
theorem quietOs (os : Os) : Stop.quiet Tryf.pinned.checked.prog os := by
  intro k hk
  rw [stopKnobs] at hk
  cases hk

/-- The statement. -/
theorem fnClaimSeconds_proved : Rows.FnClaimSecondsTakesOnlyANumberToldSaid :=
  Claim7.holds_of_told_tied_any_at .later 3 Tryf.f3 "fmt.errorf" [] [] _ _ _ _ _ (by kernel_rfl) rfl rfl rfl laidOut (by kernel_rfl) rfl ⟨rfl, rfl, rfl, rfl, rfl, rfl, rfl⟩ rfl rfl (by kernel_rfl) (by kernel_rfl) Tryf.func3 (by kernel_rfl)
    (of_decide_eq_true (by kernel_rfl)) (by unfold Func.isWrapper; first | (rw [if_pos (by decide +kernel)]; kernel_rfl) | (rw [if_neg (by decide +kernel)]; exact ⟨rfl, rfl⟩)) stopsAre.symm rfl stopKnobs.symm (by kernel_rfl)
    (by kernel_rfl) (by kernel_rfl) (by kernel_rfl) (by kernel_rfl) (by kernel_rfl) (by kernel_rfl) (by kernel_rfl) (by kernel_rfl) (by kernel_rfl) rfl (by kernel_rfl) rfl rfl
    rfl rfl
    rfl (by kernel_rfl) (by kernel_rfl) (by kernel_rfl) (by decide) (by kernel_rfl) fnClaimSecondsTakesOnlyANumber_row_tie
    (OpenClaim.moreEntering_of (by kernel_rfl) (by kernel_rfl) (by kernel_rfl) (by kernel_rfl) (by kernel_rfl) (by kernel_rfl) (by kernel_rfl) (by kernel_rfl) (by kernel_rfl) (by kernel_rfl))
    ⟨_, WideRow.started_initial, quietOs _⟩
    (fun os started _ H enc _ => lifted os started H enc)
end Go.Proofs.Qxb6608619aFmt
