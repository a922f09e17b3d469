/-
  The walks: fmt.Errorf at the one format, claimSeconds, its four fronts.
-/
import Derived.Test.Qxb6608619aFmtSh
import Derived.Test.Qxb6608619aFmtFa
import Derived.WalkKit
import Derived.WalkSmall
import Derived.Outline
namespace Go.Proofs.Qxb6608619aFmt
open Go.RowKit Go.Extern.Stop Go.Stop Go.Extern

/-- What the walks ask of the two sentinels: that each variable holds an error. -/
def Vars (w : World) : Prop := ∃ t0 t1 p0 p1, w.var? Tryf.prog "strconv.ErrSyntax" = some #[.iface t0 p0] ∧ w.var? Tryf.prog "strconv.ErrRange" = some #[.iface t1 p1]

set_option maxHeartbeats 1000000 in
theorem errorf_any (F : Interp) (nm : ByteArray) (b : Nat) (w : World) (hF : F.answers w.tape) (hc : w.cell? ⟨b, 0, none⟩ = some (.iface 9 (.string nm))) :
    Calls Tryf.prog 11 #[.string ⟨#[37, 115, 32, 105, 115, 32, 110, 111, 116, 32, 97, 32, 119, 104, 111, 108, 101, 32, 110, 117, 109, 98, 101, 114, 32, 111, 102, 32, 115, 101, 99, 111, 110, 100, 115]⟩, .slice (some ⟨b, 0, none⟩) 1 1] w fun e w' =>
      (∃ p, e = .returned (.iface 47 (.pointer (some p)))) ∧ Below w.heap.size w w' := by
  have hF' := hF
  unfold Interp.answers at hF'
  have k1 := call14
  have k2 := guardF
  have k3 := fmt0
  have k4 := fmt0r
  have k5 := op9_115
  have k6 := op9_115w
  have k7 := ptr47
  have k8 := elem47
  have k9 := isError47
  go_enter Tryf.func11, Tryf.ntmps11
  go_wp2
  go_ret
  exact ⟨⟨_, rfl⟩, ((Below.refl _ _).alloc (Nat.le_refl _) _).drew⟩

set_option maxHeartbeats 1000000 in
/-- claimSeconds of a json.Number that reads as v. -/
theorem claim_ok (nm s : ByteArray) (w : World) (hs : s.size ≤ 65536) (v : Int) (h : parsed s = some v) :
    Calls Tryf.prog 9 #[.string nm, .iface 31 (.string s)] w fun e w' => e = .returned (.tuple #[.int .i64 v, .nilIface]) ∧ Below w.heap.size w w' := by
  have ka := as_number
  go_enter Tryf.func9, Tryf.ntmps9
  go_wp2_with (go_at_call 10; refine (parse_ok _ hs v h _).mono ?_; rintro e w1 ⟨rfl, hb⟩)
  go_ret2
  exact ⟨rfl, hb⟩

set_option maxHeartbeats 1000000 in
/-- claimSeconds of whatever value whose json.Number (the empty one where it is none) does not read as a number. -/
theorem claim_bad (F : Interp) (nm s : ByteArray) (x : Value) (c : Bool) (w : World) (hx : ∀ w, (Instr.typeAssert x 20 31 true).run Tryf.prog w = .ok (.tuple #[.string s, .bool c]) w)
    (hF : F.answers w.tape) (hv : Vars w) (hs : s.size ≤ 65536) (h : parsed s = none) :
    Calls Tryf.prog 9 #[.string nm, x] w fun e w' => (∃ p, e = .returned (.tuple #[.int .i64 0, .iface 47 (.pointer (some p))])) ∧ Below w.heap.size w w' := by
  obtain ⟨t0, t1, p0, p1, v0, v1⟩ := hv
  have hp := parse_bad s hs h w t0 t1 p0 p1 v0 v1
  clear v0 v1
  go_enter Tryf.func9, Tryf.ntmps9
  go_wp2_with (first
    | (go_at_call 10; refine hp.mono ?_; rintro e w1 ⟨⟨n, N, rfl⟩, hb⟩)
    | (go_at_call 11; refine (errorf_any F nm _ _ ?_ ?_).mono ?_
       · show F.answers w1.tape
         rw [hb.tape]
         exact hF
       · go_simp
       rintro e w2 ⟨⟨p, rfl⟩, hb2⟩))
  go_ret2
  exact ⟨⟨_, rfl⟩, (hb.alloc hb.size _).trans (hb2.mono (by simp; exact Nat.le_succ_of_le hb.size))⟩

/-- The four fronts. -/
theorem front_number_ok (nm s : ByteArray) (w : World) (hs : s.size ≤ 65536) (v : Int) (h : parsed s = some v) :
    Calls Tryf.prog 5 #[.string nm, .string s] w fun e w' => e = .returned (.tuple #[.int .i64 v, .nilIface]) ∧ Below w.heap.size w w' := by
  go_enter Tryf.func5, Tryf.ntmps5
  go_wp2_with (go_at_call 9; refine (claim_ok nm s _ hs v h).mono ?_; rintro e w1 ⟨rfl, hb⟩)
  go_ret2
  exact ⟨rfl, hb⟩
theorem front_number_bad (F : Interp) (nm s : ByteArray) (w : World) (hF : F.answers w.tape) (hv : Vars w) (hs : s.size ≤ 65536) (h : parsed s = none) :
    Calls Tryf.prog 5 #[.string nm, .string s] w fun e w' => (∃ p, e = .returned (.tuple #[.int .i64 0, .iface 47 (.pointer (some p))])) ∧ Below w.heap.size w w' := by
  go_enter Tryf.func5, Tryf.ntmps5
  go_wp2_with (go_at_call 9; refine (claim_bad F nm s _ true _ (as_number s) hF hv hs h).mono ?_; rintro e w1 ⟨⟨p, rfl⟩, hb⟩)
  go_ret2
  exact ⟨⟨_, rfl⟩, hb⟩
theorem front_string (F : Interp) (nm s : ByteArray) (w : World) (hF : F.answers w.tape) (hv : Vars w) :
    Calls Tryf.prog 6 #[.string nm, .string s] w fun e w' => (∃ p, e = .returned (.tuple #[.int .i64 0, .iface 47 (.pointer (some p))])) ∧ Below w.heap.size w w' := by
  go_enter Tryf.func6, Tryf.ntmps6
  go_wp2_with (go_at_call 9; refine (claim_bad F nm ⟨#[]⟩ _ false _ (as_string s) hF hv (by decide) parsed_empty).mono ?_; rintro e w1 ⟨⟨p, rfl⟩, hb⟩)
  go_ret2
  exact ⟨⟨_, rfl⟩, hb⟩
theorem front_float (F : Interp) (nm : ByteArray) (x : Value) (w : World) (hx : ∃ u, x = .float .f64 u) (hF : F.answers w.tape) (hv : Vars w) :
    Calls Tryf.prog 7 #[.string nm, x] w fun e w' => (∃ p, e = .returned (.tuple #[.int .i64 0, .iface 47 (.pointer (some p))])) ∧ Below w.heap.size w w' := by
  obtain ⟨u, rfl⟩ := hx
  go_enter Tryf.func7, Tryf.ntmps7
  go_wp2_with (go_at_call 9; refine (claim_bad F nm ⟨#[]⟩ _ false _ (as_float _) hF hv (by decide) parsed_empty).mono ?_; rintro e w1 ⟨⟨p, rfl⟩, hb⟩)
  go_ret2
  exact ⟨⟨_, rfl⟩, hb⟩
theorem front_nil (F : Interp) (nm : ByteArray) (w : World) (hF : F.answers w.tape) (hv : Vars w) :
    Calls Tryf.prog 8 #[.string nm] w fun e w' => (∃ p, e = .returned (.tuple #[.int .i64 0, .iface 47 (.pointer (some p))])) ∧ Below w.heap.size w w' := by
  go_enter Tryf.func8, Tryf.ntmps8
  go_wp2_with (go_at_call 9; refine (claim_bad F nm ⟨#[]⟩ _ false _ as_nil hF hv (by decide) parsed_empty).mono ?_; rintro e w1 ⟨⟨p, rfl⟩, hb⟩)
  go_ret2
  exact ⟨⟨_, rfl⟩, hb⟩
end Go.Proofs.Qxb6608619aFmt
