/-
  strconv.FormatInt at base 10 at this dump: the shelf's contract, laid in plain words by the kit's own tools (lay-shelf.mjs, lay-plain.mjs); cut to that one function. The table's name is taken out of the given row.
-/
import Derived.Shelf.Strconv.Itoa4
import Derived.Shelf.LaysM
import Derived.Test.Qxb6613022aDoorRows
namespace Go.Proofs
open Go.Shelf
/-- The name of the table of powers of ten, as the given row lists it. -/
def Qxb6613022aDoor.tabName : String := (Qxb6613022aDoor.Rows.fnLastReachedHangsOnIDAloneRow.named).headD ""
def Tryd.laysM173_ren : Go.Shelf.Ren := ⟨fun | 173 => 16 | 246 => 17 | 283 => 18 | 284 => 19 | 285 => 20 | 286 => 21 | 129 => 23 | 317 => 22 | 318 => 24 | 319 => 25 | 320 => 26 | 337 => 27 | 338 => 28 | n => n, fun | 2 => 2 | 3 => 3 | 9 => 9 | 4 => 4 | 171 => 39 | 0 => 0 | 53 => 32 | 37 => 34 | 5 => 5 | 173 => 42 | 212 => 46 | 51 => 47 | 20 => 20 | 213 => 48 | 46 => 50 | 232 => 53 | 233 => 54 | n => n, fun | 17 => 0 | 18 => 1 | 19 => 2 | n => n⟩
theorem Tryd.laysM173 : Go.Proofs.LaysM.n173 Tryd.prog Tryd.laysM173_ren := {
  mixed := by kernel_rfl
  f129 := Tryd.func23.trans (congrArg some (by kernel_rfl))
  f173 := Tryd.func16.trans (congrArg some (by kernel_rfl))
  f246 := Tryd.func17.trans (congrArg some (by kernel_rfl))
  f283 := Tryd.func18.trans (congrArg some (by kernel_rfl))
  f284 := Tryd.func19.trans (congrArg some (by kernel_rfl))
  f285 := Tryd.func20.trans (congrArg some (by kernel_rfl))
  f286 := Tryd.func21.trans (congrArg some (by kernel_rfl))
  f317 := Tryd.func22.trans (congrArg some (by kernel_rfl))
  f318 := Tryd.func24.trans (congrArg some (by kernel_rfl))
  f319 := Tryd.func25.trans (congrArg some (by kernel_rfl))
  f320 := Tryd.func26.trans (congrArg some (by kernel_rfl))
  f337 := Tryd.func27.trans (congrArg some (by kernel_rfl))
  f338 := Tryd.func28.trans (congrArg some (by kernel_rfl))
  t0 := Tryd.underlying0
  a0 := Tryd.isAgg0
  z0 := Tryd.sizeOf0
  v0 := Tryd.zeroValue0
  t2 := Tryd.underlying2
  a2 := Tryd.isAgg2
  z2 := Tryd.sizeOf2
  v2 := Tryd.zeroValue2
  t3 := Tryd.underlying3
  a3 := Tryd.isAgg3
  z3 := Tryd.sizeOf3
  v3 := Tryd.zeroValue3
  t4 := Tryd.underlying4
  a4 := Tryd.isAgg4
  z4 := Tryd.sizeOf4
  v4 := Tryd.zeroValue4
  t5 := Tryd.underlying5
  a5 := Tryd.isAgg5
  z5 := Tryd.sizeOf5
  v5 := Tryd.zeroValue5
  t9 := Tryd.underlying9
  a9 := Tryd.isAgg9
  z9 := Tryd.sizeOf9
  v9 := Tryd.zeroValue9
  t20 := Tryd.underlying20
  a20 := Tryd.isAgg20
  z20 := Tryd.sizeOf20
  v20 := Tryd.zeroValue20
  t37 := Tryd.underlying34
  a37 := Tryd.isAgg34
  z37 := Tryd.sizeOf34
  v37 := Tryd.zeroValue34
  t46 := Tryd.underlying50
  a46 := Tryd.isAgg50
  z46 := Tryd.sizeOf50
  v46 := Tryd.zeroValue50
  t51 := Tryd.underlying47
  a51 := Tryd.isAgg47
  z51 := Tryd.sizeOf47
  v51 := Tryd.zeroValue47
  t53 := Tryd.underlying32
  a53 := Tryd.isAgg32
  z53 := Tryd.sizeOf32
  v53 := Tryd.zeroValue32
  t171 := Tryd.underlying39
  a171 := Tryd.isAgg39
  z171 := Tryd.sizeOf39
  v171 := Tryd.zeroValue39
  t173 := Tryd.underlying42
  a173 := Tryd.isAgg42
  z173 := Tryd.sizeOf42
  v173 := Tryd.zeroValue42
  t212 := Tryd.underlying46
  a212 := Tryd.isAgg46
  z212 := Tryd.sizeOf46
  v212 := Tryd.zeroValue46
  t213 := Tryd.underlying48
  a213 := Tryd.isAgg48
  z213 := Tryd.sizeOf48
  t232 := Tryd.underlying53
  a232 := Tryd.isAgg53
  z232 := Tryd.sizeOf53
  v232 := Tryd.zeroValue53
  t233 := Tryd.underlying54
  a233 := Tryd.isAgg54
  z233 := Tryd.sizeOf54
  v233 := Tryd.zeroValue54
  g17 := by kernel_rfl
  g18 := by kernel_rfl
  g19 := by kernel_rfl
  i0 := by kernel_rfl
  i2 := by kernel_rfl
  i3 := by kernel_rfl
  i4 := by kernel_rfl
  i5 := by kernel_rfl
  i9 := by kernel_rfl
  i20 := by kernel_rfl
  i37 := by kernel_rfl
  i46 := by kernel_rfl
  i51 := by kernel_rfl
  i53 := by kernel_rfl
  i171 := by kernel_rfl
  i173 := by kernel_rfl
  i212 := by kernel_rfl
  i232 := by kernel_rfl
  i233 := by kernel_rfl
  m17 := by kernel_rfl
  m18 := by kernel_rfl
  m19 := by kernel_rfl }
open Go.RowKit Go.Sort Go.Lib in
/-- strconv.FormatInt: "FormatInt returns the string representation of i in the given base": AT BASE 10: i's decimal numeral, for every int64. (LAID: no walk: one application.) -/
theorem Tryd.strconv_FormatInt_10 (n : Int) (h0 : -9223372036854775808 ≤ n) (h1 : n ≤ 9223372036854775807) (w : World) (htab : Lib.TabIs Tryd.prog w Qxb6613022aDoor.tabName .u64 Lib.pow10Tab) :
    Calls Tryd.prog 16 #[.int .i64 n, .int .i64 10] w fun e w' => e = .returned (.string ⟨(Lib.itoa n).toArray⟩) ∧ ∃ k os, w' = grow (w.drewN k) os := Any.strconv_FormatInt_10 Tryd.laysM173 n h0 h1 w htab
end Go.Proofs
