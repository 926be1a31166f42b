import Derived.Test.Qxb6600356aSortB
import Derived.Test.Qxb6600356aSortD
import Derived.Test.Qxb6600356aSortE
import Derived.Test.Qxb6600356aSortF
import Derived.Test.Qxb6600356aSortG
import Derived.Test.Qxb6600356aSortH
import Derived.Sort.AssemblyPlain
namespace Go.Proofs
open Go.RowKit Go.Sort

def pdqWalk_u64 : Prop := ∀ (blk off cap a b limit : Nat) (d : Array Int) (w : World), Holds (Value.int .u64) w blk off d → blk < w.heap.size → a ≤ b → b ≤ d.size → d.size < 4611686018427387904 → limit < 4611686018427387904 → Below ltInt a b d →
  Calls Try.prog 34 #[.slice (some ⟨blk, off, none⟩) d.size cap, .int .i64 a, .int .i64 b, .int .i64 limit] w fun e w' =>
    e = .returned (.tuple #[]) ∧ ∃ n os, w' = grow (putRow (Value.int .u64) (Sort.ahead w n) blk off (Sort.pdq ltInt d a b limit true true)) os

set_option maxRecDepth 100000 in

theorem Try.Sort_int (hpdq : pdqWalk_u64) (blk off cap : Nat) (d : Array Int) (w : World) (hH : Holds (Value.int .u64) w blk off d) (hblk : blk < w.heap.size) (hsz : d.size < 4611686018427387904) :
    Calls Try.prog 33 #[.slice (some ⟨blk, off, none⟩) d.size cap] w fun e w' => e = .returned (.tuple #[]) ∧ ∃ n os, w' = grow (putRow (Value.int .u64) (Sort.ahead w n) blk off (Sort.sort ltInt d)) os := by
  have HH : Hid (Holds (Value.int .u64) w blk off d) := hH
  clear hH
  have hLen : ∀ w, Calls Try.prog 35 #[.int .u64 (d.size : Int)] w fun e w' => e = .returned (.int .i64 (bitsLen d.size : Nat)) ∧ w' = w := fun w => by
    have h := Try.bits_Len (d.size : Int) w (by omega) (by omega)
    rwa [Int.toNat_natCast, bitLen_eq _ (by omega)] at h
  have hk : bitsLen d.size ≤ 62 := (bitsLen_le_iff d.size 62).2 (by omega)
  go_enter Try.func33, Try.ntmps33
  go_wp2_with (first
    | (go_at_call 35; refine (hLen _).mono ?_; rintro e w' ⟨rfl, rfl⟩)
    | (go_at_call 34; refine (hpdq blk off cap 0 d.size (bitsLen d.size) d _ (by exact HH.out) (by exact hblk) (Nat.zero_le _) (Nat.le_refl _) hsz (by omega) (Or.inl rfl)).mono ?_; rintro e w' ⟨rfl, n, os, rfl⟩))
  go_end0
  exact ⟨rfl, n, os, rfl⟩

theorem callees13U : Callees13U where
  ins := Try.insertionSort_int
  brk := Try.breakPatterns_int
  piv := Try.choosePivot_int
  par := Try.partialInsertionSort_int
  peq := Try.partitionEqualOrdered_int
  prt := Try.partitionOrdered_int

theorem plain13U : Plain13 where
  swo := swo_ltInt
  ins := insertionSort_holds
  par := partialInsertionSort_holds
  prt := partition_holds _
  peq := partitionEqual_holds _
  pdq := pdq_sorts _

theorem pdqWalkU64 : pdqWalk_u64 := fun blk off cap a b limit d w hH hb hab hbd hsz hl hB =>
  Try.pdqsort_int callees13U plain13U (b - a + 1) blk off cap a b limit d w (by omega) hH hb hab hbd hsz hl hB

theorem sort_u64_eq (zs : List Int) : Sort.sort ltInt zs.toArray = (zs.mergeSort fun x y => decide (x ≤ y)).toArray := by
  rw [← sortInt zs]

theorem Try.slices_Sort_int (blk off cap : Nat) (zs : List Int) (w : World) (hH : Holds (Value.int .u64) w blk off zs.toArray) (hblk : blk < w.heap.size) (hsz : zs.length < 4611686018427387904) :
    Calls Try.prog 33 #[.slice (some ⟨blk, off, none⟩) zs.length cap] w fun e w' =>
      e = .returned (.tuple #[]) ∧ ∃ n os, w' = grow (putRow (Value.int .u64) (Sort.ahead w n) blk off (zs.mergeSort fun x y => decide (x ≤ y)).toArray) os := by
  have h := Try.Sort_int pdqWalkU64 blk off cap zs.toArray w hH hblk (by simpa using hsz)
  rw [sort_u64_eq] at h
  simpa using h

end Go.Proofs
