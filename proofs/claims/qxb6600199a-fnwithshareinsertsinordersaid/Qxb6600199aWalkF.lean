/-
  DERIVED. Seat b6600199a: the walks of zzTokenBytes, zzInsert.
-/
import Derived.Test.Qxb6600199aWalkE
namespace Go.Proofs.Qxb6600199a
open Go.RowKit

theorem be8_cells (T : Nat) : (Lib.byteCells (be8 T)).toArray = #[.int .u8 ((T : Int) / 256 / 256 / 256 / 256 / 256 / 256 / 256 % 256), .int .u8 ((T : Int) / 256 / 256 / 256 / 256 / 256 / 256 % 256), .int .u8 ((T : Int) / 256 / 256 / 256 / 256 / 256 % 256), .int .u8 ((T : Int) / 256 / 256 / 256 / 256 % 256), .int .u8 ((T : Int) / 256 / 256 / 256 % 256), .int .u8 ((T : Int) / 256 / 256 % 256), .int .u8 ((T : Int) / 256 % 256), .int .u8 ((T : Int) % 256)] := by
  simp only [Lib.byteCells, be8, List.map_cons, List.map_nil, tkb_toNat, Nat.reduceMul, Nat.reduceSub, Nat.reducePow]
  refine congrArg List.toArray ?_
  simp only [List.cons.injEq, Value.int.injEq, true_and, and_true]
  refine ⟨?_, ?_, ?_, ?_, ?_, ?_, ?_, ?_⟩ <;> omega

set_option maxHeartbeats 4000000 in
theorem tokenBytes_any (T : Nat) (w : World) (hT : T < 18446744073709551616) :
    Calls Try.prog 33 #[.int .u64 T] w fun e w' => e = .returned (.agg (Lib.byteCells (be8 T)).toArray) ∧ Below w.heap.size w w' := by
  go_enter Try.func33, Try.ntmps33
  go_wp2
  refine wp_loop_rounds 9 ?_
  rw [rounds_succ]
  go_wp2
  rw [rounds_succ]
  go_wp2
  rw [rounds_succ]
  go_wp2
  rw [rounds_succ]
  go_wp2
  rw [rounds_succ]
  go_wp2
  rw [rounds_succ]
  go_wp2
  rw [rounds_succ]
  go_wp2
  rw [rounds_succ]
  go_wp2
  rw [rounds_succ]
  go_wp2
  refine bodyPost_ret (v := .agg #[.int .u8 ((T : Int) / 256 / 256 / 256 / 256 / 256 / 256 / 256 % 256), .int .u8 ((T : Int) / 256 / 256 / 256 / 256 / 256 / 256 % 256), .int .u8 ((T : Int) / 256 / 256 / 256 / 256 / 256 % 256), .int .u8 ((T : Int) / 256 / 256 / 256 / 256 % 256), .int .u8 ((T : Int) / 256 / 256 / 256 % 256), .int .u8 ((T : Int) / 256 / 256 % 256), .int .u8 ((T : Int) / 256 % 256), .int .u8 ((T : Int) % 256)]) (by simp [results, Try.results33, go_sem]) rfl ⟨?_, ((Below.refl _ _).alloc (Nat.le_refl _) _).alloc (by simp) _⟩
  rw [be8_cells]

end Go.Proofs.Qxb6600199a
