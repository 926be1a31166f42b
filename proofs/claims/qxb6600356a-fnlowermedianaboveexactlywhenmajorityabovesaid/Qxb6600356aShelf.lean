import Derived.Shelf.Small.Bits
import Derived.Shelf.Strconv.Itoa0
import Derived.Test.Qxb6600356aProg
namespace Go.Proofs
open Go.Shelf
def Try.lays128_ren : Go.Shelf.Ren := ⟨fun | 128 => 45 | n => n, fun | 51 => 72 | 3 => 3 | 4 => 4 | 46 => 57 | 5 => 5 | 9 => 9 | n => n, fun | n => n⟩
theorem Try.lays128 : Go.Proofs.Lays.n128 Try.prog Try.lays128_ren := {
  mixed := by kernel_rfl
  f128 := Try.func45.trans (congrArg some (by kernel_rfl))
  t3 := Try.underlying3
  a3 := Try.isAgg3
  z3 := Try.sizeOf3
  v3 := Try.zeroValue3
  t4 := Try.underlying4
  a4 := Try.isAgg4
  z4 := Try.sizeOf4
  v4 := Try.zeroValue4
  t5 := Try.underlying5
  a5 := Try.isAgg5
  z5 := Try.sizeOf5
  v5 := Try.zeroValue5
  t9 := Try.underlying9
  a9 := Try.isAgg9
  z9 := Try.sizeOf9
  v9 := Try.zeroValue9
  t46 := Try.underlying57
  a46 := Try.isAgg57
  z46 := Try.sizeOf57
  v46 := Try.zeroValue57
  t51 := Try.underlying72
  a51 := Try.isAgg72
  z51 := Try.sizeOf72
  v51 := Try.zeroValue72 }

theorem Try.bits_Len32 (x : Int) (w : World) (h0 : 0 ≤ x) (h1 : x ≤ 4294967295) :
    Calls Try.prog 45 #[.int .u32 x] w fun e w' => e = .returned (.int .i64 (Lib.bitLen x.toNat)) ∧ w' = w := Any.bits_Len32 Try.lays128 x w h0 h1
def Try.lays125_ren : Go.Shelf.Ren := ⟨fun | 125 => 35 | 128 => 45 | 129 => 46 | n => n, fun | 46 => 57 | 3 => 3 | 51 => 72 | 53 => 25 | 4 => 4 | 5 => 5 | 9 => 9 | n => n, fun | n => n⟩
theorem Try.lays125 : Go.Proofs.Lays.n125 Try.prog Try.lays125_ren := {
  mixed := by kernel_rfl
  f125 := Try.func35.trans (congrArg some (by kernel_rfl))
  f128 := Try.func45.trans (congrArg some (by kernel_rfl))
  f129 := Try.func46.trans (congrArg some (by kernel_rfl))
  t3 := Try.underlying3
  a3 := Try.isAgg3
  z3 := Try.sizeOf3
  v3 := Try.zeroValue3
  t4 := Try.underlying4
  a4 := Try.isAgg4
  z4 := Try.sizeOf4
  v4 := Try.zeroValue4
  t5 := Try.underlying5
  a5 := Try.isAgg5
  z5 := Try.sizeOf5
  v5 := Try.zeroValue5
  t9 := Try.underlying9
  a9 := Try.isAgg9
  z9 := Try.sizeOf9
  v9 := Try.zeroValue9
  t46 := Try.underlying57
  a46 := Try.isAgg57
  z46 := Try.sizeOf57
  v46 := Try.zeroValue57
  t51 := Try.underlying72
  a51 := Try.isAgg72
  z51 := Try.sizeOf72
  v51 := Try.zeroValue72
  t53 := Try.underlying25
  a53 := Try.isAgg25
  z53 := Try.sizeOf25
  v53 := Try.zeroValue25 }

theorem Try.bits_Len (x : Int) (w : World) (h0 : 0 ≤ x) (h1 : x ≤ 18446744073709551615) :
    Calls Try.prog 35 #[.int .u64 x] w fun e w' => e = .returned (.int .i64 (Lib.bitLen x.toNat)) ∧ w' = w := Any.bits_Len Try.lays125 x w h0 h1
def Try.lays129_ren : Go.Shelf.Ren := ⟨fun | 129 => 46 | n => n, fun | 53 => 25 | 3 => 3 | 4 => 4 | 46 => 57 | 5 => 5 | 9 => 9 | n => n, fun | n => n⟩
theorem Try.lays129 : Go.Proofs.Lays.n129 Try.prog Try.lays129_ren := {
  mixed := by kernel_rfl
  f129 := Try.func46.trans (congrArg some (by kernel_rfl))
  t3 := Try.underlying3
  a3 := Try.isAgg3
  z3 := Try.sizeOf3
  v3 := Try.zeroValue3
  t4 := Try.underlying4
  a4 := Try.isAgg4
  z4 := Try.sizeOf4
  v4 := Try.zeroValue4
  t5 := Try.underlying5
  a5 := Try.isAgg5
  z5 := Try.sizeOf5
  v5 := Try.zeroValue5
  t9 := Try.underlying9
  a9 := Try.isAgg9
  z9 := Try.sizeOf9
  v9 := Try.zeroValue9
  t46 := Try.underlying57
  a46 := Try.isAgg57
  z46 := Try.sizeOf57
  v46 := Try.zeroValue57
  t53 := Try.underlying25
  a53 := Try.isAgg25
  z53 := Try.sizeOf25
  v53 := Try.zeroValue25 }

theorem Try.bits_Len64 (x : Int) (w : World) (h0 : 0 ≤ x) (h1 : x ≤ 18446744073709551615) :
    Calls Try.prog 46 #[.int .u64 x] w fun e w' => e = .returned (.int .i64 (Lib.bitLen x.toNat)) ∧ w' = w := Any.bits_Len64 Try.lays129 x w h0 h1
end Go.Proofs
