/-
  The shelf's laying of strconv.ParseInt and its callees at this dump, in plain words (written by the guide's lay-plain.mjs); and the one contract that this seat's walk takes: base 10, 64 bits, every string.
-/
import Derived.Shelf.LaysC
import Derived.Shelf.Strconv.ParseIntPublic10
import Derived.Shelf.Strconv.ErrVarParseInt
import Derived.Test.Qxb6608619aFmtProg
namespace Go.Proofs
open Go.Shelf
def Tryf.laysC174_ren : Go.Shelf.Ren := ⟨fun | 174 => 10 | 247 => 12 | 245 => 13 | 287 => 16 | 279 => 17 | 280 => 18 | 281 => 19 | 282 => 20 | 321 => 21 | 322 => 22 | 316 => 23 | 171 => 24 | 205 => 15 | 243 => 25 | 246 => 26 | 283 => 27 | 284 => 28 | 285 => 29 | 286 => 30 | 129 => 32 | 317 => 31 | 318 => 33 | 319 => 34 | 320 => 35 | 337 => 36 | 338 => 37 | n => n, fun | 9 => 9 | 3 => 3 | 2 => 2 | 75 => 25 | 85 => 26 | 4 => 4 | 167 => 39 | 5 => 5 | 53 => 40 | 175 => 41 | 46 => 43 | 168 => 44 | 37 => 51 | 0 => 0 | 210 => 55 | 21 => 21 | 127 => 57 | 145 => 49 | 143 => 47 | 171 => 59 | 173 => 62 | 212 => 66 | 51 => 67 | 20 => 20 | 213 => 68 | 232 => 72 | 233 => 73 | 80 => 75 | n => n, fun | 15 => 0 | 16 => 1 | 17 => 2 | 18 => 3 | 19 => 4 | n => n⟩
theorem Tryf.laysC174 : Go.Proofs.LaysC.n174 Tryf.prog Tryf.laysC174_ren := {
  mixed := by kernel_rfl
  f129 := Tryf.func32.trans (congrArg some (by kernel_rfl))
  f171 := Tryf.func24.trans (congrArg some (by kernel_rfl))
  f174 := Tryf.func10.trans (congrArg some (by kernel_rfl))
  f205 := Tryf.func15.trans (congrArg some (by kernel_rfl))
  f243 := Tryf.func25.trans (congrArg some (by kernel_rfl))
  f245 := Tryf.func13.trans (congrArg some (by kernel_rfl))
  f246 := Tryf.func26.trans (congrArg some (by kernel_rfl))
  f247 := Tryf.func12.trans (congrArg some (by kernel_rfl))
  f279 := Tryf.func17.trans (congrArg some (by kernel_rfl))
  f280 := Tryf.func18.trans (congrArg some (by kernel_rfl))
  f281 := Tryf.func19.trans (congrArg some (by kernel_rfl))
  f282 := Tryf.func20.trans (congrArg some (by kernel_rfl))
  f283 := Tryf.func27.trans (congrArg some (by kernel_rfl))
  f284 := Tryf.func28.trans (congrArg some (by kernel_rfl))
  f285 := Tryf.func29.trans (congrArg some (by kernel_rfl))
  f286 := Tryf.func30.trans (congrArg some (by kernel_rfl))
  f287 := Tryf.func16.trans (congrArg some (by kernel_rfl))
  f316 := Tryf.func23.trans (congrArg some (by kernel_rfl))
  f317 := Tryf.func31.trans (congrArg some (by kernel_rfl))
  f318 := Tryf.func33.trans (congrArg some (by kernel_rfl))
  f319 := Tryf.func34.trans (congrArg some (by kernel_rfl))
  f320 := Tryf.func35.trans (congrArg some (by kernel_rfl))
  f321 := Tryf.func21.trans (congrArg some (by kernel_rfl))
  f322 := Tryf.func22.trans (congrArg some (by kernel_rfl))
  f337 := Tryf.func36.trans (congrArg some (by kernel_rfl))
  f338 := Tryf.func37.trans (congrArg some (by kernel_rfl))
  t0 := Tryf.underlying0
  a0 := Tryf.isAgg0
  z0 := Tryf.sizeOf0
  v0 := Tryf.zeroValue0
  t2 := Tryf.underlying2
  a2 := Tryf.isAgg2
  z2 := Tryf.sizeOf2
  v2 := Tryf.zeroValue2
  t3 := Tryf.underlying3
  a3 := Tryf.isAgg3
  z3 := Tryf.sizeOf3
  v3 := Tryf.zeroValue3
  t4 := Tryf.underlying4
  a4 := Tryf.isAgg4
  z4 := Tryf.sizeOf4
  v4 := Tryf.zeroValue4
  t5 := Tryf.underlying5
  a5 := Tryf.isAgg5
  z5 := Tryf.sizeOf5
  v5 := Tryf.zeroValue5
  t9 := Tryf.underlying9
  a9 := Tryf.isAgg9
  z9 := Tryf.sizeOf9
  v9 := Tryf.zeroValue9
  t20 := Tryf.underlying20
  a20 := Tryf.isAgg20
  z20 := Tryf.sizeOf20
  v20 := Tryf.zeroValue20
  t21 := Tryf.underlying21
  a21 := Tryf.isAgg21
  z21 := Tryf.sizeOf21
  v21 := Tryf.zeroValue21
  t37 := Tryf.underlying51
  a37 := Tryf.isAgg51
  z37 := Tryf.sizeOf51
  v37 := Tryf.zeroValue51
  t46 := Tryf.underlying43
  a46 := Tryf.isAgg43
  z46 := Tryf.sizeOf43
  v46 := Tryf.zeroValue43
  t51 := Tryf.underlying67
  a51 := Tryf.isAgg67
  z51 := Tryf.sizeOf67
  v51 := Tryf.zeroValue67
  t53 := Tryf.underlying40
  a53 := Tryf.isAgg40
  z53 := Tryf.sizeOf40
  v53 := Tryf.zeroValue40
  t75 := Tryf.underlying25
  a75 := Tryf.isAgg25
  z75 := Tryf.sizeOf25
  v75 := Tryf.zeroValue25
  t85 := Tryf.underlying26
  a85 := Tryf.isAgg26
  z85 := Tryf.sizeOf26
  v85 := Tryf.zeroValue26
  t127 := Tryf.underlying57
  a127 := Tryf.isAgg57
  z127 := Tryf.sizeOf57
  v127 := Tryf.zeroValue57
  t143 := Tryf.underlying47
  a143 := Tryf.isAgg47
  z143 := Tryf.sizeOf47
  v143 := Tryf.zeroValue47
  t145 := Tryf.underlying49
  a145 := Tryf.isAgg49
  z145 := Tryf.sizeOf49
  v145 := Tryf.zeroValue49
  t167 := Tryf.underlying39
  a167 := Tryf.isAgg39
  z167 := Tryf.sizeOf39
  v167 := Tryf.zeroValue39
  t168 := Tryf.underlying44
  a168 := Tryf.isAgg44
  z168 := Tryf.sizeOf44
  v168 := Tryf.zeroValue44
  t171 := Tryf.underlying59
  a171 := Tryf.isAgg59
  z171 := Tryf.sizeOf59
  v171 := Tryf.zeroValue59
  t173 := Tryf.underlying62
  a173 := Tryf.isAgg62
  z173 := Tryf.sizeOf62
  v173 := Tryf.zeroValue62
  t175 := Tryf.underlying41
  a175 := Tryf.isAgg41
  z175 := Tryf.sizeOf41
  v175 := Tryf.zeroValue41
  t210 := Tryf.underlying55
  a210 := Tryf.isAgg55
  z210 := Tryf.sizeOf55
  v210 := Tryf.zeroValue55
  t212 := Tryf.underlying66
  a212 := Tryf.isAgg66
  z212 := Tryf.sizeOf66
  v212 := Tryf.zeroValue66
  t213 := Tryf.underlying68
  a213 := Tryf.isAgg68
  z213 := Tryf.sizeOf68
  t232 := Tryf.underlying72
  a232 := Tryf.isAgg72
  z232 := Tryf.sizeOf72
  v232 := Tryf.zeroValue72
  t233 := Tryf.underlying73
  a233 := Tryf.isAgg73
  z233 := Tryf.sizeOf73
  v233 := Tryf.zeroValue73
  g15 := by kernel_rfl
  g16 := by kernel_rfl
  g17 := by kernel_rfl
  g18 := by kernel_rfl
  g19 := by kernel_rfl
  t80 := Tryf.underlying75
  a80 := Tryf.isAgg75
  z80 := Tryf.sizeOf75
  v80 := Tryf.zeroValue75
  i0 := by kernel_rfl
  i2 := by kernel_rfl
  i3 := by kernel_rfl
  i4 := by kernel_rfl
  i5 := by kernel_rfl
  i9 := by kernel_rfl
  i20 := by kernel_rfl
  i21 := by kernel_rfl
  i37 := by kernel_rfl
  i46 := by kernel_rfl
  i51 := by kernel_rfl
  i53 := by kernel_rfl
  i75 := by kernel_rfl
  i80 := by kernel_rfl
  i85 := by kernel_rfl
  i127 := by kernel_rfl
  i143 := by kernel_rfl
  i145 := by kernel_rfl
  i167 := by kernel_rfl
  i168 := by kernel_rfl
  i171 := by kernel_rfl
  i173 := by kernel_rfl
  i175 := by kernel_rfl
  i210 := by kernel_rfl
  i212 := by kernel_rfl
  i232 := by kernel_rfl
  i233 := by kernel_rfl
  m15 := by kernel_rfl
  m16 := by kernel_rfl
  m17 := by kernel_rfl
  m18 := by kernel_rfl
  m19 := by kernel_rfl
  c0 := by kernel_rfl
  c2 := by kernel_rfl
  c3 := by kernel_rfl
  c4 := by kernel_rfl
  c5 := by kernel_rfl
  c9 := by kernel_rfl
  c20 := by kernel_rfl
  c21 := by kernel_rfl
  c37 := by kernel_rfl
  c46 := by kernel_rfl
  c51 := by kernel_rfl
  c53 := by kernel_rfl
  c75 := by kernel_rfl
  c80 := by kernel_rfl
  c85 := by kernel_rfl
  c127 := by kernel_rfl
  c143 := by kernel_rfl
  c145 := by kernel_rfl
  c167 := by kernel_rfl
  c168 := by kernel_rfl
  c171 := by kernel_rfl
  c173 := by kernel_rfl
  c175 := by kernel_rfl
  c210 := by kernel_rfl
  c212 := by kernel_rfl
  c213 := by kernel_rfl
  c232 := by kernel_rfl
  c233 := by kernel_rfl }
end Go.Proofs
namespace Go.Proofs.Qxb6608619aFmt
open Go.Shelf Go.RowKit

/-- What a text reads as: the number, or nothing where ParseInt refuses it. -/
def parsed (s : ByteArray) : Option Int := match Lib.parseIntB 64 s.data.toList with
  | .ok v => some v
  | _ => none
theorem parsed_empty : parsed ⟨#[]⟩ = none := by rfl

theorem parse_ok (s : ByteArray) (hlim : s.size ≤ 65536) (v : Int) (h : parsed s = some v) (w : World) :
    Calls Tryf.prog 10 #[.string s, .int .i64 10, .int .i64 64] w fun e w' => e = .returned (.tuple #[.int .i64 v, .nilIface]) ∧ Below w.heap.size w w' := by
  have h' : Lib.parseIntB 64 s.data.toList = .ok v := by
    unfold parsed at h
    split at h
    · rename_i u hu; rw [hu]; cases h; rfl
    · cases h
  refine (Any.strconv_ParseInt_10_at64_ok Tryf.laysC174 s (by omega) v h' w).mono fun e w' ⟨he, hw⟩ => ⟨he, ?_⟩
  rcases hw with rfl | ⟨t, rfl⟩
  · exact Below.refl _ _
  · exact Lib.bytesWorld_below _ _ _

theorem parse_bad (s : ByteArray) (hlim : s.size ≤ 65536) (h : parsed s = none) (w : World) (t0 t1 : TypeId) (p0 p1 : Value)
    (hv0 : w.var? Tryf.prog "strconv.ErrSyntax" = some #[.iface t0 p0]) (hv1 : w.var? Tryf.prog "strconv.ErrRange" = some #[.iface t1 p1]) :
    Calls Tryf.prog 10 #[.string s, .int .i64 10, .int .i64 64] w fun e w' => (∃ n N, e = .returned (.tuple #[.int .i64 n, .iface 44 (.pointer (some ⟨N, 0, none⟩))])) ∧ Below w.heap.size w w' := by
  rcases hend : Lib.parseIntB 64 s.data.toList with v | _ | _
  · unfold parsed at h; rw [hend] at h; cases h
  · exact (Any.strconv_ParseInt_10_at64_syntax_var Tryf.laysC174 s (by omega) hend t0 p0 w hv0).mono fun e w' ⟨N, he, _, _, hw⟩ => ⟨⟨_, N, he⟩, hw⟩
  · exact (Any.strconv_ParseInt_10_at64_range_var Tryf.laysC174 s (by omega) hend t1 p1 w hv1).mono fun e w' ⟨N, he, _, _, hw⟩ => ⟨⟨_, N, he⟩, hw⟩
end Go.Proofs.Qxb6608619aFmt
