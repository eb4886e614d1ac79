/-
  The shelf's contract of strconv.FormatInt at base 10, laid at this dump: the laying is the guide's own plain text (lay-plain.mjs), the table's name is taken off the row's own list.
-/
import Derived.Shelf.LaysM
import Derived.Shelf.Strconv.Itoa4
import Derived.Lib.AppendIntMem
import Derived.Test.Qxb6601187aDoorRows
namespace Go.Proofs.Qxb6601187aDoor
open Go.Shelf
def Tryd.laysM173_ren : Go.Shelf.Ren := ⟨fun | 173 => 11 | 246 => 12 | 283 => 13 | 284 => 14 | 285 => 15 | 286 => 16 | 129 => 18 | 317 => 17 | 318 => 19 | 319 => 20 | 320 => 21 | 337 => 22 | 338 => 23 | n => n, fun | 2 => 2 | 3 => 3 | 9 => 9 | 4 => 4 | 171 => 39 | 0 => 0 | 53 => 37 | 37 => 42 | 5 => 5 | 173 => 43 | 212 => 47 | 51 => 48 | 20 => 20 | 213 => 49 | 46 => 51 | 232 => 54 | 233 => 55 | n => n, fun | 17 => 0 | 18 => 1 | 19 => 2 | n => n⟩
theorem Tryd.laysM173 : Go.Proofs.LaysM.n173 Tryd.prog Tryd.laysM173_ren := {
  mixed := by kernel_rfl
  f129 := Tryd.func18.trans (congrArg some (by kernel_rfl))
  f173 := Tryd.func11.trans (congrArg some (by kernel_rfl))
  f246 := Tryd.func12.trans (congrArg some (by kernel_rfl))
  f283 := Tryd.func13.trans (congrArg some (by kernel_rfl))
  f284 := Tryd.func14.trans (congrArg some (by kernel_rfl))
  f285 := Tryd.func15.trans (congrArg some (by kernel_rfl))
  f286 := Tryd.func16.trans (congrArg some (by kernel_rfl))
  f317 := Tryd.func17.trans (congrArg some (by kernel_rfl))
  f318 := Tryd.func19.trans (congrArg some (by kernel_rfl))
  f319 := Tryd.func20.trans (congrArg some (by kernel_rfl))
  f320 := Tryd.func21.trans (congrArg some (by kernel_rfl))
  f337 := Tryd.func22.trans (congrArg some (by kernel_rfl))
  f338 := Tryd.func23.trans (congrArg some (by kernel_rfl))
  t0 := Tryd.underlying0
  a0 := Tryd.isAgg0
  z0 := Tryd.sizeOf0
  v0 := Tryd.zeroValue0
  t2 := Tryd.underlying2
  a2 := Tryd.isAgg2
  z2 := Tryd.sizeOf2
  v2 := Tryd.zeroValue2
  t3 := Tryd.underlying3
  a3 := Tryd.isAgg3
  z3 := Tryd.sizeOf3
  v3 := Tryd.zeroValue3
  t4 := Tryd.underlying4
  a4 := Tryd.isAgg4
  z4 := Tryd.sizeOf4
  v4 := Tryd.zeroValue4
  t5 := Tryd.underlying5
  a5 := Tryd.isAgg5
  z5 := Tryd.sizeOf5
  v5 := Tryd.zeroValue5
  t9 := Tryd.underlying9
  a9 := Tryd.isAgg9
  z9 := Tryd.sizeOf9
  v9 := Tryd.zeroValue9
  t20 := Tryd.underlying20
  a20 := Tryd.isAgg20
  z20 := Tryd.sizeOf20
  v20 := Tryd.zeroValue20
  t37 := Tryd.underlying42
  a37 := Tryd.isAgg42
  z37 := Tryd.sizeOf42
  v37 := Tryd.zeroValue42
  t46 := Tryd.underlying51
  a46 := Tryd.isAgg51
  z46 := Tryd.sizeOf51
  v46 := Tryd.zeroValue51
  t51 := Tryd.underlying48
  a51 := Tryd.isAgg48
  z51 := Tryd.sizeOf48
  v51 := Tryd.zeroValue48
  t53 := Tryd.underlying37
  a53 := Tryd.isAgg37
  z53 := Tryd.sizeOf37
  v53 := Tryd.zeroValue37
  t171 := Tryd.underlying39
  a171 := Tryd.isAgg39
  z171 := Tryd.sizeOf39
  v171 := Tryd.zeroValue39
  t173 := Tryd.underlying43
  a173 := Tryd.isAgg43
  z173 := Tryd.sizeOf43
  v173 := Tryd.zeroValue43
  t212 := Tryd.underlying47
  a212 := Tryd.isAgg47
  z212 := Tryd.sizeOf47
  v212 := Tryd.zeroValue47
  t213 := Tryd.underlying49
  a213 := Tryd.isAgg49
  z213 := Tryd.sizeOf49
  t232 := Tryd.underlying54
  a232 := Tryd.isAgg54
  z232 := Tryd.sizeOf54
  v232 := Tryd.zeroValue54
  t233 := Tryd.underlying55
  a233 := Tryd.isAgg55
  z233 := Tryd.sizeOf55
  v233 := Tryd.zeroValue55
  g17 := by kernel_rfl
  g18 := by kernel_rfl
  g19 := by kernel_rfl
  i0 := by kernel_rfl
  i2 := by kernel_rfl
  i3 := by kernel_rfl
  i4 := by kernel_rfl
  i5 := by kernel_rfl
  i9 := by kernel_rfl
  i20 := by kernel_rfl
  i37 := by kernel_rfl
  i46 := by kernel_rfl
  i51 := by kernel_rfl
  i53 := by kernel_rfl
  i171 := by kernel_rfl
  i173 := by kernel_rfl
  i212 := by kernel_rfl
  i232 := by kernel_rfl
  i233 := by kernel_rfl
  m17 := by kernel_rfl
  m18 := by kernel_rfl
  m19 := by kernel_rfl }

/-- The name of the table of powers of ten, as the row lists it. -/
def powName : String := ((Rows.fnStartAfterAgreesWithTextRow.laid[2]?).map (·.1)).getD ""

open Go.RowKit Go.Sort Go.Lib in
/-- strconv.FormatInt(n, 10) (11): n's decimal numeral. -/
theorem fmt_any (n : Int) (h0 : -9223372036854775808 ≤ n) (h1 : n ≤ 9223372036854775807) (w : World) (htab : Lib.TabIs Tryd.prog w powName .u64 Lib.pow10Tab) :
    Calls Tryd.prog 11 #[.int .i64 n, .int .i64 10] w fun e w' => e = .returned (.string ⟨(Lib.itoa n).toArray⟩) ∧ Below w.heap.size w w' :=
  Calls.mono (Any.strconv_FormatInt_10 Tryd.laysM173 n h0 h1 w htab) fun e w' ⟨he, k, os, hw⟩ => ⟨he, by rw [hw]; exact below_grow _ w (Nat.le_refl _) k os⟩
end Go.Proofs.Qxb6601187aDoor
