/-
  The shelf's contract of strconv.Itoa, laid at this program by the kit's two commands (lay-shelf, lay-plain).
-/
import Derived.Shelf.LaysM
import Derived.Shelf.Strconv.Itoa3
import Derived.Test.Qxb6605998aDoorRows
namespace Go.Proofs.Qxb6605998aDoor
open Go.Shelf
def Tryd.laysM171_ren : Go.Shelf.Ren := ⟨fun | 171 => 22 | 243 => 26 | 246 => 32 | 283 => 39 | 284 => 40 | 285 => 41 | 286 => 42 | 129 => 46 | 317 => 45 | 318 => 47 | 319 => 48 | 320 => 49 | 337 => 51 | 338 => 52 | n => n, fun | 3 => 3 | 9 => 9 | 2 => 2 | 4 => 4 | 171 => 37 | 0 => 0 | 53 => 36 | 37 => 38 | 5 => 5 | 173 => 59 | 212 => 62 | 51 => 63 | 20 => 20 | 213 => 64 | 46 => 55 | 232 => 71 | 233 => 72 | n => n, fun | 17 => 1 | 18 => 4 | 19 => 5 | n => n⟩
theorem Tryd.laysM171 : Go.Proofs.LaysM.n171 Tryd.prog Tryd.laysM171_ren := {
  mixed := by kernel_rfl
  f129 := Tryd.func46.trans (congrArg some (by kernel_rfl))
  f171 := Tryd.func22.trans (congrArg some (by kernel_rfl))
  f243 := Tryd.func26.trans (congrArg some (by kernel_rfl))
  f246 := Tryd.func32.trans (congrArg some (by kernel_rfl))
  f283 := Tryd.func39.trans (congrArg some (by kernel_rfl))
  f284 := Tryd.func40.trans (congrArg some (by kernel_rfl))
  f285 := Tryd.func41.trans (congrArg some (by kernel_rfl))
  f286 := Tryd.func42.trans (congrArg some (by kernel_rfl))
  f317 := Tryd.func45.trans (congrArg some (by kernel_rfl))
  f318 := Tryd.func47.trans (congrArg some (by kernel_rfl))
  f319 := Tryd.func48.trans (congrArg some (by kernel_rfl))
  f320 := Tryd.func49.trans (congrArg some (by kernel_rfl))
  f337 := Tryd.func51.trans (congrArg some (by kernel_rfl))
  f338 := Tryd.func52.trans (congrArg some (by kernel_rfl))
  t0 := Tryd.underlying0
  a0 := Tryd.isAgg0
  z0 := Tryd.sizeOf0
  v0 := Tryd.zeroValue0
  t2 := Tryd.underlying2
  a2 := Tryd.isAgg2
  z2 := Tryd.sizeOf2
  v2 := Tryd.zeroValue2
  t3 := Tryd.underlying3
  a3 := Tryd.isAgg3
  z3 := Tryd.sizeOf3
  v3 := Tryd.zeroValue3
  t4 := Tryd.underlying4
  a4 := Tryd.isAgg4
  z4 := Tryd.sizeOf4
  v4 := Tryd.zeroValue4
  t5 := Tryd.underlying5
  a5 := Tryd.isAgg5
  z5 := Tryd.sizeOf5
  v5 := Tryd.zeroValue5
  t9 := Tryd.underlying9
  a9 := Tryd.isAgg9
  z9 := Tryd.sizeOf9
  v9 := Tryd.zeroValue9
  t20 := Tryd.underlying20
  a20 := Tryd.isAgg20
  z20 := Tryd.sizeOf20
  v20 := Tryd.zeroValue20
  t37 := Tryd.underlying38
  a37 := Tryd.isAgg38
  z37 := Tryd.sizeOf38
  v37 := Tryd.zeroValue38
  t46 := Tryd.underlying55
  a46 := Tryd.isAgg55
  z46 := Tryd.sizeOf55
  v46 := Tryd.zeroValue55
  t51 := Tryd.underlying63
  a51 := Tryd.isAgg63
  z51 := Tryd.sizeOf63
  v51 := Tryd.zeroValue63
  t53 := Tryd.underlying36
  a53 := Tryd.isAgg36
  z53 := Tryd.sizeOf36
  v53 := Tryd.zeroValue36
  t171 := Tryd.underlying37
  a171 := Tryd.isAgg37
  z171 := Tryd.sizeOf37
  v171 := Tryd.zeroValue37
  t173 := Tryd.underlying59
  a173 := Tryd.isAgg59
  z173 := Tryd.sizeOf59
  v173 := Tryd.zeroValue59
  t212 := Tryd.underlying62
  a212 := Tryd.isAgg62
  z212 := Tryd.sizeOf62
  v212 := Tryd.zeroValue62
  t213 := Tryd.underlying64
  a213 := Tryd.isAgg64
  z213 := Tryd.sizeOf64
  t232 := Tryd.underlying71
  a232 := Tryd.isAgg71
  z232 := Tryd.sizeOf71
  v232 := Tryd.zeroValue71
  t233 := Tryd.underlying72
  a233 := Tryd.isAgg72
  z233 := Tryd.sizeOf72
  v233 := Tryd.zeroValue72
  g17 := by kernel_rfl
  g18 := by kernel_rfl
  g19 := by kernel_rfl
  i0 := by kernel_rfl
  i2 := by kernel_rfl
  i3 := by kernel_rfl
  i4 := by kernel_rfl
  i5 := by kernel_rfl
  i9 := by kernel_rfl
  i20 := by kernel_rfl
  i37 := by kernel_rfl
  i46 := by kernel_rfl
  i51 := by kernel_rfl
  i53 := by kernel_rfl
  i171 := by kernel_rfl
  i173 := by kernel_rfl
  i212 := by kernel_rfl
  i232 := by kernel_rfl
  i233 := by kernel_rfl
  m17 := by kernel_rfl
  m18 := by kernel_rfl
  m19 := by kernel_rfl }

/-- the name of the table of powers of ten, as the given row names it -/
def tabName : String := Rows.fnStatementNameReadsBackRow.named.headD default

open Go.RowKit Go.Sort Go.Lib in
/-- strconv.Itoa at this program: the decimal numeral, for every int; the table is asked for. -/
theorem Tryd.strconv_Itoa (n : Int) (h0 : -9223372036854775808 ≤ n) (h1 : n ≤ 9223372036854775807) (w : World) (htab : Lib.TabIs Tryd.prog w tabName .u64 Lib.pow10Tab) :
    Calls Tryd.prog 22 #[.int .i64 n] w fun e w' => e = .returned (.string ⟨(Lib.itoa n).toArray⟩) ∧ ∃ k os, w' = grow (w.drewN k) os := Any.strconv_Itoa Tryd.laysM171 n h0 h1 w htab
end Go.Proofs.Qxb6605998aDoor
