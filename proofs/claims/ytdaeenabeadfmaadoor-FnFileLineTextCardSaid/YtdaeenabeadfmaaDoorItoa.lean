/-
  The shelf's contract of strconv.Itoa laid at this program: the decimal numeral of every int. Asks that the library's table of powers of ten reads as its text lays it.
-/
import Derived.Shelf.LaysM
import Derived.Shelf.Strconv.Itoa3
import Derived.Test.YtdaeenabeadfmaaDoorProg
import Derived.Test.YtdaeenabeadfmaaDoorRows
namespace Go.Proofs.YtdaeenabeadfmaaDoor
open Go.Shelf
/-- the name of the library's table of powers of ten, as the row lists it -/
def pow10Name : String := Rows.fnFileLineTextRow.named.headD Tryd.f0.name
def itoaLays_ren : Go.Shelf.Ren := ⟨fun | 171 => 6 | 243 => 8 | 246 => 10 | 283 => 11 | 284 => 12 | 285 => 13 | 286 => 14 | 129 => 16 | 317 => 15 | 318 => 17 | 319 => 18 | 320 => 19 | 337 => 20 | 338 => 21 | n => n, fun | 3 => 3 | 9 => 9 | 2 => 2 | 4 => 4 | 171 => 31 | 0 => 0 | 53 => 32 | 37 => 27 | 5 => 5 | 173 => 35 | 212 => 39 | 51 => 40 | 20 => 20 | 213 => 41 | 46 => 30 | 232 => 45 | 233 => 46 | n => n, fun | 17 => 0 | 18 => 1 | 19 => 2 | n => n⟩
theorem itoaLays : Go.Proofs.LaysM.n171 Tryd.prog itoaLays_ren := {
  mixed := by kernel_rfl
  f129 := Tryd.func16.trans (congrArg some (by kernel_rfl))
  f171 := Tryd.func6.trans (congrArg some (by kernel_rfl))
  f243 := Tryd.func8.trans (congrArg some (by kernel_rfl))
  f246 := Tryd.func10.trans (congrArg some (by kernel_rfl))
  f283 := Tryd.func11.trans (congrArg some (by kernel_rfl))
  f284 := Tryd.func12.trans (congrArg some (by kernel_rfl))
  f285 := Tryd.func13.trans (congrArg some (by kernel_rfl))
  f286 := Tryd.func14.trans (congrArg some (by kernel_rfl))
  f317 := Tryd.func15.trans (congrArg some (by kernel_rfl))
  f318 := Tryd.func17.trans (congrArg some (by kernel_rfl))
  f319 := Tryd.func18.trans (congrArg some (by kernel_rfl))
  f320 := Tryd.func19.trans (congrArg some (by kernel_rfl))
  f337 := Tryd.func20.trans (congrArg some (by kernel_rfl))
  f338 := Tryd.func21.trans (congrArg some (by kernel_rfl))
  t0 := Tryd.underlying0
  a0 := Tryd.isAgg0
  z0 := Tryd.sizeOf0
  v0 := Tryd.zeroValue0
  t2 := Tryd.underlying2
  a2 := Tryd.isAgg2
  z2 := Tryd.sizeOf2
  v2 := Tryd.zeroValue2
  t3 := Tryd.underlying3
  a3 := Tryd.isAgg3
  z3 := Tryd.sizeOf3
  v3 := Tryd.zeroValue3
  t4 := Tryd.underlying4
  a4 := Tryd.isAgg4
  z4 := Tryd.sizeOf4
  v4 := Tryd.zeroValue4
  t5 := Tryd.underlying5
  a5 := Tryd.isAgg5
  z5 := Tryd.sizeOf5
  v5 := Tryd.zeroValue5
  t9 := Tryd.underlying9
  a9 := Tryd.isAgg9
  z9 := Tryd.sizeOf9
  v9 := Tryd.zeroValue9
  t20 := Tryd.underlying20
  a20 := Tryd.isAgg20
  z20 := Tryd.sizeOf20
  v20 := Tryd.zeroValue20
  t37 := Tryd.underlying27
  a37 := Tryd.isAgg27
  z37 := Tryd.sizeOf27
  v37 := Tryd.zeroValue27
  t46 := Tryd.underlying30
  a46 := Tryd.isAgg30
  z46 := Tryd.sizeOf30
  v46 := Tryd.zeroValue30
  t51 := Tryd.underlying40
  a51 := Tryd.isAgg40
  z51 := Tryd.sizeOf40
  v51 := Tryd.zeroValue40
  t53 := Tryd.underlying32
  a53 := Tryd.isAgg32
  z53 := Tryd.sizeOf32
  v53 := Tryd.zeroValue32
  t171 := Tryd.underlying31
  a171 := Tryd.isAgg31
  z171 := Tryd.sizeOf31
  v171 := Tryd.zeroValue31
  t173 := Tryd.underlying35
  a173 := Tryd.isAgg35
  z173 := Tryd.sizeOf35
  v173 := Tryd.zeroValue35
  t212 := Tryd.underlying39
  a212 := Tryd.isAgg39
  z212 := Tryd.sizeOf39
  v212 := Tryd.zeroValue39
  t213 := Tryd.underlying41
  a213 := Tryd.isAgg41
  z213 := Tryd.sizeOf41
  t232 := Tryd.underlying45
  a232 := Tryd.isAgg45
  z232 := Tryd.sizeOf45
  v232 := Tryd.zeroValue45
  t233 := Tryd.underlying46
  a233 := Tryd.isAgg46
  z233 := Tryd.sizeOf46
  v233 := Tryd.zeroValue46
  g17 := by kernel_rfl
  g18 := by kernel_rfl
  g19 := by kernel_rfl
  i0 := by kernel_rfl
  i2 := by kernel_rfl
  i3 := by kernel_rfl
  i4 := by kernel_rfl
  i5 := by kernel_rfl
  i9 := by kernel_rfl
  i20 := by kernel_rfl
  i37 := by kernel_rfl
  i46 := by kernel_rfl
  i51 := by kernel_rfl
  i53 := by kernel_rfl
  i171 := by kernel_rfl
  i173 := by kernel_rfl
  i212 := by kernel_rfl
  i232 := by kernel_rfl
  i233 := by kernel_rfl
  m17 := by kernel_rfl
  m18 := by kernel_rfl
  m19 := by kernel_rfl }
open Go.RowKit Go.Sort Go.Lib in
theorem itoa_any (n : Int) (h0 : -9223372036854775808 ≤ n) (h1 : n ≤ 9223372036854775807) (w : World) (htab : Lib.TabIs Tryd.prog w pow10Name .u64 Lib.pow10Tab) :
    Calls Tryd.prog 6 #[.int .i64 n] w fun e w' => e = .returned (.string ⟨(Lib.itoa n).toArray⟩) ∧ ∃ k os, w' = grow (w.drewN k) os := Any.strconv_Itoa itoaLays n h0 h1 w htab
end Go.Proofs.YtdaeenabeadfmaaDoor
