/-
  DERIVED. Seat b6600084aD: strconv.AppendInt at base 10 at this program: the library's own contract, laid by the kit's tool in plain words.
-/
import Derived.Shelf.Strconv.AppendIntPublic10
import Derived.Test.Qxb6600084aDoorRows
namespace Go.Proofs
open Go.Shelf
def Tryd.laysAI_ren : Go.Shelf.Ren := ⟨fun | 176 => 26 | 249 => 27 | 288 => 28 | 283 => 29 | 284 => 30 | 285 => 31 | 286 => 32 | 129 => 34 | 317 => 33 | 318 => 35 | 319 => 36 | 320 => 37 | 337 => 38 | 338 => 39 | n => n, fun | 37 => 22 | 2 => 2 | 3 => 3 | 53 => 46 | 4 => 4 | 9 => 9 | 171 => 49 | 0 => 0 | 173 => 52 | 212 => 56 | 51 => 57 | 5 => 5 | 20 => 20 | 213 => 58 | 46 => 45 | 232 => 62 | 233 => 63 | n => n, fun | 17 => 0 | 18 => 1 | 19 => 2 | n => n⟩
theorem Tryd.laysAI : Go.Proofs.LaysM.n176 Tryd.prog Tryd.laysAI_ren := {
  mixed := by kernel_rfl
  f129 := Tryd.func34.trans (congrArg some (by kernel_rfl))
  f176 := Tryd.func26.trans (congrArg some (by kernel_rfl))
  f249 := Tryd.func27.trans (congrArg some (by kernel_rfl))
  f283 := Tryd.func29.trans (congrArg some (by kernel_rfl))
  f284 := Tryd.func30.trans (congrArg some (by kernel_rfl))
  f285 := Tryd.func31.trans (congrArg some (by kernel_rfl))
  f286 := Tryd.func32.trans (congrArg some (by kernel_rfl))
  f288 := Tryd.func28.trans (congrArg some (by kernel_rfl))
  f317 := Tryd.func33.trans (congrArg some (by kernel_rfl))
  f318 := Tryd.func35.trans (congrArg some (by kernel_rfl))
  f319 := Tryd.func36.trans (congrArg some (by kernel_rfl))
  f320 := Tryd.func37.trans (congrArg some (by kernel_rfl))
  f337 := Tryd.func38.trans (congrArg some (by kernel_rfl))
  f338 := Tryd.func39.trans (congrArg some (by kernel_rfl))
  t0 := Tryd.underlying0
  a0 := Tryd.isAgg0
  z0 := Tryd.sizeOf0
  v0 := Tryd.zeroValue0
  t2 := Tryd.underlying2
  a2 := Tryd.isAgg2
  z2 := Tryd.sizeOf2
  v2 := Tryd.zeroValue2
  t3 := Tryd.underlying3
  a3 := Tryd.isAgg3
  z3 := Tryd.sizeOf3
  v3 := Tryd.zeroValue3
  t4 := Tryd.underlying4
  a4 := Tryd.isAgg4
  z4 := Tryd.sizeOf4
  v4 := Tryd.zeroValue4
  t5 := Tryd.underlying5
  a5 := Tryd.isAgg5
  z5 := Tryd.sizeOf5
  v5 := Tryd.zeroValue5
  t9 := Tryd.underlying9
  a9 := Tryd.isAgg9
  z9 := Tryd.sizeOf9
  v9 := Tryd.zeroValue9
  t20 := Tryd.underlying20
  a20 := Tryd.isAgg20
  z20 := Tryd.sizeOf20
  v20 := Tryd.zeroValue20
  t37 := Tryd.underlying22
  a37 := Tryd.isAgg22
  z37 := Tryd.sizeOf22
  v37 := Tryd.zeroValue22
  t46 := Tryd.underlying45
  a46 := Tryd.isAgg45
  z46 := Tryd.sizeOf45
  v46 := Tryd.zeroValue45
  t51 := Tryd.underlying57
  a51 := Tryd.isAgg57
  z51 := Tryd.sizeOf57
  v51 := Tryd.zeroValue57
  t53 := Tryd.underlying46
  a53 := Tryd.isAgg46
  z53 := Tryd.sizeOf46
  v53 := Tryd.zeroValue46
  t171 := Tryd.underlying49
  a171 := Tryd.isAgg49
  z171 := Tryd.sizeOf49
  v171 := Tryd.zeroValue49
  t173 := Tryd.underlying52
  a173 := Tryd.isAgg52
  z173 := Tryd.sizeOf52
  v173 := Tryd.zeroValue52
  t212 := Tryd.underlying56
  a212 := Tryd.isAgg56
  z212 := Tryd.sizeOf56
  v212 := Tryd.zeroValue56
  t213 := Tryd.underlying58
  a213 := Tryd.isAgg58
  z213 := Tryd.sizeOf58
  t232 := Tryd.underlying62
  a232 := Tryd.isAgg62
  z232 := Tryd.sizeOf62
  v232 := Tryd.zeroValue62
  t233 := Tryd.underlying63
  a233 := Tryd.isAgg63
  z233 := Tryd.sizeOf63
  v233 := Tryd.zeroValue63
  g17 := by kernel_rfl
  g18 := by kernel_rfl
  g19 := by kernel_rfl
  i0 := by kernel_rfl
  i2 := by kernel_rfl
  i3 := by kernel_rfl
  i4 := by kernel_rfl
  i5 := by kernel_rfl
  i9 := by kernel_rfl
  i20 := by kernel_rfl
  i37 := by kernel_rfl
  i46 := by kernel_rfl
  i51 := by kernel_rfl
  i53 := by kernel_rfl
  i171 := by kernel_rfl
  i173 := by kernel_rfl
  i212 := by kernel_rfl
  i232 := by kernel_rfl
  i233 := by kernel_rfl
  m17 := by kernel_rfl
  m18 := by kernel_rfl
  m19 := by kernel_rfl }
theorem Tryd.strconv_AppendInt_10_laid (B n : Nat) (i : Int) (h0 : -9223372036854775808 ≤ i) (h1 : i ≤ 9223372036854775807) (sv : Value) (xs : List Value) (w : World) (hown : w.ownsRow B 5 1 sv n xs) (hBw : B ≤ w.heap.size) (hlim : n + 21 ≤ 140737488355328)
    (htab : Lib.TabBelow Tryd.prog B w (Qxb6600084aDoor.Rows.fnAppendFormUnsignedIgnoresSignatureRow.named.headD "") .u64 Lib.pow10Tab) :
    Calls Tryd.prog 26 #[sv, .int .i64 i, .int .i64 10] w fun e w' => ∃ v', e = .returned v' ∧ w'.ownsRow B 5 1 v' (n + (Lib.itoa i).length) (xs ++ Lib.byteCells (Lib.itoa i)) ∧ RowKit.Below B w w' ∧ Lib.OthersKept 5 none w w' := Any.strconv_AppendInt_10 Tryd.laysAI B n i h0 h1 sv xs w hown hBw hlim htab
end Go.Proofs
