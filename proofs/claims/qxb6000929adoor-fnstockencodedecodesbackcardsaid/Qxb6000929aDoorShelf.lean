/-
  THE SHELF's CONTRACTS THAT THIS SEAT's ROAD USES, laid at this dump in plain words (by the shelf's own commands lay-shelf, lay-plain; cut down to two): strconv.FormatInt at base 10, strings.IndexByte.
-/
import Derived.Shelf.Small.Strs
import Derived.Shelf.LaysM
import Derived.Shelf.Strconv.Itoa4
import Derived.Test.Qxb6000929aDoorRows
namespace Go.Proofs.Qxb6000929aDoor
open Go.Shelf
def sh173_ren : Go.Shelf.Ren := ⟨fun | 173 => 30 | 246 => 34 | 283 => 37 | 284 => 38 | 285 => 39 | 286 => 40 | 129 => 43 | 317 => 42 | 318 => 44 | 319 => 45 | 320 => 46 | 337 => 48 | 338 => 49 | n => n, fun | 2 => 2 | 3 => 3 | 9 => 9 | 4 => 4 | 171 => 61 | 0 => 0 | 53 => 62 | 37 => 49 | 5 => 5 | 173 => 77 | 212 => 81 | 51 => 82 | 20 => 20 | 213 => 83 | 46 => 85 | 232 => 88 | 233 => 89 | n => n, fun | 17 => 0 | 18 => 2 | 19 => 3 | n => n⟩
theorem sh173 : Go.Proofs.LaysM.n173 Tryd.prog sh173_ren := {
  mixed := by kernel_rfl
  f129 := Tryd.func43.trans (congrArg some (by kernel_rfl))
  f173 := Tryd.func30.trans (congrArg some (by kernel_rfl))
  f246 := Tryd.func34.trans (congrArg some (by kernel_rfl))
  f283 := Tryd.func37.trans (congrArg some (by kernel_rfl))
  f284 := Tryd.func38.trans (congrArg some (by kernel_rfl))
  f285 := Tryd.func39.trans (congrArg some (by kernel_rfl))
  f286 := Tryd.func40.trans (congrArg some (by kernel_rfl))
  f317 := Tryd.func42.trans (congrArg some (by kernel_rfl))
  f318 := Tryd.func44.trans (congrArg some (by kernel_rfl))
  f319 := Tryd.func45.trans (congrArg some (by kernel_rfl))
  f320 := Tryd.func46.trans (congrArg some (by kernel_rfl))
  f337 := Tryd.func48.trans (congrArg some (by kernel_rfl))
  f338 := Tryd.func49.trans (congrArg some (by kernel_rfl))
  t0 := Tryd.underlying0
  a0 := Tryd.isAgg0
  z0 := Tryd.sizeOf0
  v0 := Tryd.zeroValue0
  t2 := Tryd.underlying2
  a2 := Tryd.isAgg2
  z2 := Tryd.sizeOf2
  v2 := Tryd.zeroValue2
  t3 := Tryd.underlying3
  a3 := Tryd.isAgg3
  z3 := Tryd.sizeOf3
  v3 := Tryd.zeroValue3
  t4 := Tryd.underlying4
  a4 := Tryd.isAgg4
  z4 := Tryd.sizeOf4
  v4 := Tryd.zeroValue4
  t5 := Tryd.underlying5
  a5 := Tryd.isAgg5
  z5 := Tryd.sizeOf5
  v5 := Tryd.zeroValue5
  t9 := Tryd.underlying9
  a9 := Tryd.isAgg9
  z9 := Tryd.sizeOf9
  v9 := Tryd.zeroValue9
  t20 := Tryd.underlying20
  a20 := Tryd.isAgg20
  z20 := Tryd.sizeOf20
  v20 := Tryd.zeroValue20
  t37 := Tryd.underlying49
  a37 := Tryd.isAgg49
  z37 := Tryd.sizeOf49
  v37 := Tryd.zeroValue49
  t46 := Tryd.underlying85
  a46 := Tryd.isAgg85
  z46 := Tryd.sizeOf85
  v46 := Tryd.zeroValue85
  t51 := Tryd.underlying82
  a51 := Tryd.isAgg82
  z51 := Tryd.sizeOf82
  v51 := Tryd.zeroValue82
  t53 := Tryd.underlying62
  a53 := Tryd.isAgg62
  z53 := Tryd.sizeOf62
  v53 := Tryd.zeroValue62
  t171 := Tryd.underlying61
  a171 := Tryd.isAgg61
  z171 := Tryd.sizeOf61
  v171 := Tryd.zeroValue61
  t173 := Tryd.underlying77
  a173 := Tryd.isAgg77
  z173 := Tryd.sizeOf77
  v173 := Tryd.zeroValue77
  t212 := Tryd.underlying81
  a212 := Tryd.isAgg81
  z212 := Tryd.sizeOf81
  v212 := Tryd.zeroValue81
  t213 := Tryd.underlying83
  a213 := Tryd.isAgg83
  z213 := Tryd.sizeOf83
  t232 := Tryd.underlying88
  a232 := Tryd.isAgg88
  z232 := Tryd.sizeOf88
  v232 := Tryd.zeroValue88
  t233 := Tryd.underlying89
  a233 := Tryd.isAgg89
  z233 := Tryd.sizeOf89
  v233 := Tryd.zeroValue89
  g17 := by kernel_rfl
  g18 := by kernel_rfl
  g19 := by kernel_rfl
  i0 := by kernel_rfl
  i2 := by kernel_rfl
  i3 := by kernel_rfl
  i4 := by kernel_rfl
  i5 := by kernel_rfl
  i9 := by kernel_rfl
  i20 := by kernel_rfl
  i37 := by kernel_rfl
  i46 := by kernel_rfl
  i51 := by kernel_rfl
  i53 := by kernel_rfl
  i171 := by kernel_rfl
  i173 := by kernel_rfl
  i212 := by kernel_rfl
  i232 := by kernel_rfl
  i233 := by kernel_rfl
  m17 := by kernel_rfl
  m18 := by kernel_rfl
  m19 := by kernel_rfl }
def sh137_ren : Go.Shelf.Ren := ⟨fun | 137 => 35 | 217 => 41 | 266 => 47 | n => n, fun | 9 => 9 | 5 => 5 | 3 => 3 | n => n, fun | n => n⟩
theorem sh137 : Go.Proofs.Lays.n137 Tryd.prog sh137_ren := {
  mixed := by kernel_rfl
  f137 := Tryd.func35.trans (congrArg some (by kernel_rfl))
  f217 := Tryd.func41.trans (congrArg some (by kernel_rfl))
  f266 := Tryd.func47.trans (congrArg some (by kernel_rfl))
  t3 := Tryd.underlying3
  a3 := Tryd.isAgg3
  z3 := Tryd.sizeOf3
  v3 := Tryd.zeroValue3
  t5 := Tryd.underlying5
  a5 := Tryd.isAgg5
  z5 := Tryd.sizeOf5
  v5 := Tryd.zeroValue5
  t9 := Tryd.underlying9
  a9 := Tryd.isAgg9
  z9 := Tryd.sizeOf9
  v9 := Tryd.zeroValue9 }

/-- The name of the table of powers of ten, as the given row's cell 'named' bears it. -/
def powName : String := Rows.fnStockEncodeDecodesBackRow.named.headD default

theorem formatInt (n : Int) (h0 : -9223372036854775808 ≤ n) (h1 : n ≤ 9223372036854775807) (w : World) (htab : Lib.TabIs Tryd.prog w powName .u64 Lib.pow10Tab) :
    Calls Tryd.prog 30 #[.int .i64 n, .int .i64 10] w fun e w' => e = .returned (.string ⟨(Lib.itoa n).toArray⟩) ∧ ∃ k os, w' = Sort.grow (w.drewN k) os :=
  Any.strconv_FormatInt_10 sh173 n h0 h1 w htab

theorem indexByte (s : ByteArray) (c : Int) (w : World) :
    Calls Tryd.prog 35 #[.string s, .int .u8 c] w fun e w' => e = .returned (.int .i64 (Lib.indexByte s.data.toList c.toNat.toUInt8)) ∧ w' = w :=
  Any.strings_IndexByte sh137 s c w
end Go.Proofs.Qxb6000929aDoor
