/-
  DERIVED. Seat b6600199a: the walk of (state).shareAt.
-/
import Derived.Test.Qxb6600199aWalkB
namespace Go.Proofs.Qxb6600199a
open Go.RowKit

/-- The names ascend. -/
theorem sorted_le {h : ByteArray} (hw : WellP h) {i j : Nat} (hij : i ≤ j) (hj : 12 * j < h.size) : num (nm h i) ≤ num (nm h j) := by
  induction j with
  | zero => obtain rfl : i = 0 := by omega
            exact Nat.le_refl _
  | succ j ih =>
    rcases Nat.lt_or_ge i (j + 1) with h' | h'
    · have := ih (by omega) (by omega)
      have h2 := hw.2.2 j hj
      omega
    · obtain rfl : i = j + 1 := by omega
      exact Nat.le_refl _

set_option maxHeartbeats 1000000 in
theorem shareAt_none (h s : ByteArray) (l r : Int) (g : Bool) (w : World) (h0 : h.size = 0) :
    Calls Try.prog 30 #[.agg #[.string h, .int .u64 l, .int .u32 r, .bool g], .string s] w fun e w' => e = .returned (.tuple #[.int .i64 0, .bool false]) ∧ Below w.heap.size w w' := by
  have d0 : decide ((4 : Int) < (h.size : Int)) = false := by simp; omega
  clear h0
  go_enter Try.func30, Try.ntmps30
  go_wp2_with (go_at_call 37; refine (shared_any h l r g _).mono ?_; rintro e w1 ⟨rfl, hb1⟩; rw [d0])
  go_ret2
  exact ⟨rfl, ((Below.refl _ _).alloc (Nat.le_refl _) _).trans (hb1.mono (by simp))⟩

set_option maxHeartbeats 2000000 in
theorem shareAt_some (h s : ByteArray) (l r : Int) (g : Bool) (w : World) (hh : h.size ≤ 2000000) (hw : WellP h) (hs : s.size = 4) :
    Calls Try.prog 30 #[.agg #[.string h, .int .u64 l, .int .u32 r, .bool g], .string s] w fun e w' => ∃ (lo : Nat) (b : Bool), e = .returned (.tuple #[.int .i64 (12 * lo : Nat), .bool b]) ∧ 12 * lo ≤ h.size ∧
      (∀ i, i < lo → num (nm h i) < num s) ∧ (∀ i, lo ≤ i → 12 * i < h.size → num s ≤ num (nm h i)) ∧ Below w.heap.size w w' := by
  have HW := Lib.hid hw
  have HS := Lib.hid hs
  have h12 : 12 ≤ h.size := hw.1
  have d0 : decide ((4 : Int) < (h.size : Int)) = true := by simp; omega
  obtain ⟨m0, hm0⟩ : ∃ m0, h.size = 12 * m0 := ⟨h.size / 12, by have := hw.2.1; omega⟩
  have e0 : (h.size : Int) / 12 = (m0 : Int) := by omega
  have HM0 := Lib.hid hm0
  clear hw hs hm0
  go_enter Try.func30, Try.ntmps30
  go_wp2_with (first | (go_at_call 37; refine (shared_any h l r g _).mono ?_; rintro e w1 ⟨rfl, hb1⟩; rw [d0]; have hc1 := hb1.cell (p := ⟨w.heap.size, 0, none⟩) (by simp)) | (go_at_call 38; refine (number_any s _ HS.out).mono ?_; rintro e w2 ⟨rfl, q2, rfl⟩))
  have hcb : w1.cell? ⟨w.heap.size, 0, none⟩ = some (.string h) := by rw [hc1]; simp
  have hB1 : Below w.heap.size w w1 := ((Below.refl _ _).alloc (Nat.le_refl _) _).trans (hb1.mono (by simp))
  clear hc1 hb1
  go_quiet (fail)
  go_wp2_with fail
  have HCB := Lib.hid hcb
  clear hcb
  go_loopw [7, 8] (fun lo hi wr => ∃ a b : Nat, a ≤ b ∧ b ≤ m0 ∧ lo = .int .i64 a ∧ hi = .int .i64 b ∧ (∀ i, i < a → num (nm h i) < num s) ∧ (∀ i, b ≤ i → 12 * i < h.size → num s ≤ num (nm h i)) ∧ wr.cell? ⟨w.heap.size, 0, none⟩ = some (.string h) ∧ Below w.heap.size w wr) (fun lo hi _ => (intOf hi).toNat - (intOf lo).toNat)
  case atStart => exact ⟨0, m0, Nat.zero_le _, Nat.le_refl _, rfl, rfl, fun i hi => absurd hi (Nat.not_lt_zero _), fun i hi hj => by have := HM0.out; omega, HCB.out, ⟨hB1.os, hB1.tape, hB1.output, hB1.size, hB1.block⟩⟩
  case round =>
    obtain ⟨a, b, hab, hbm, rfl, rfl, hlo, hhi, hcr, hBr⟩ := hrel
    have HLO := Lib.hid hlo
    have HHI := Lib.hid hhi
    clear hlo hhi
    have hsz : 12 * m0 ≤ h.size := by have := HM0.out; omega
    by_cases hlt : a < b
    · obtain ⟨m, hm⟩ : ∃ m, m = (a + b) / 2 := ⟨_, rfl⟩
      have e1 : ((a : Int) + (b : Int)) / 2 = (m : Int) := by omega
      have hm1 : a ≤ m := by omega
      have hm2 : m < b := by omega
      have hm3 : m * 12 + 12 ≤ h.size := by omega
      clear hm
      have en : h.extract (m * 12) (m * 12 + 4) = nm h m := by unfold nm; rw [Nat.mul_comm]
      have n1 : ((m : Int) * 12).toNat = m * 12 := by omega
      have n2 : ((m : Int) * 12 + 4).toNat = m * 12 + 4 := by omega
      have sz : (nm h m).size = 4 := nm_size h m (by omega)
      have SZ := Lib.hid sz
      clear sz
      by_cases hc : num (nm h m) < num s
      · have hc' : ((num (nm h m) : Nat) : Int) < ((num s : Nat) : Int) := by omega
        have HC := Lib.hid hc
        clear hc
        go_wp2_with (go_at_call 38; refine (number_any (nm h m) _ SZ.out).mono ?_; rintro e w2 ⟨rfl, q3, rfl⟩)
        go_roundw
        case rel =>
          refine ⟨m + 1, b, by omega, hbm, by go_num, rfl, fun i hi => ?_, HHI.out, hcr, ⟨hBr.os, hBr.tape, hBr.output, hBr.size, hBr.block⟩⟩
          have := sorted_le HW.out (show i ≤ m by omega) (by omega)
          have := HC.out
          omega
        case measure => simp [intOf]; omega
      · have hc' : ¬ ((num (nm h m) : Nat) : Int) < ((num s : Nat) : Int) := by omega
        have HC := Lib.hid hc
        clear hc
        go_wp2_with (go_at_call 38; refine (number_any (nm h m) _ SZ.out).mono ?_; rintro e w2 ⟨rfl, q3, rfl⟩)
        go_roundw
        case rel =>
          refine ⟨a, m, by omega, by omega, rfl, rfl, HLO.out, fun i hi hj => ?_, hcr, ⟨hBr.os, hBr.tape, hBr.output, hBr.size, hBr.block⟩⟩
          have := sorted_le HW.out hi hj
          have := HC.out
          omega
        case measure => simp [intOf]; omega
    · obtain rfl : a = b := by omega
      have n3 : ((12 * a : Nat) : Int) = (a : Int) * 12 := by omega
      have N3 := Lib.hid n3
      clear n3
      by_cases hend : a * 12 < h.size
      · have hm3 : a * 12 + 12 ≤ h.size := by have := HM0.out; omega
        have c0 : (a : Int) * 12 < (h.size : Int) := by omega
        have d3 : decide ((a : Int) * 12 < (h.size : Int)) = true := by simp; omega
        have w1' : IntKind.i64.wrap ((a : Int) * 12 + 4) = (a : Int) * 12 + 4 := by rw [IntKind.wrap_i64]; omega
        have c1 : (0 : Int) ≤ (a : Int) * 12 + 4 ∧ (a : Int) * 12 + 4 ≤ (h.size : Int) := by omega
        have c2 : (0 : Int) ≤ (a : Int) * 12 ∧ (a : Int) * 12 ≤ (a : Int) * 12 + 4 := by omega
        go_wp2_with fail
        go_quiet (fail)
        go_wp2
        go_ret2
        refine ⟨a, ((h.extract (a * 12) (a * 12 + 4)).toList == s.toList), ?_, by omega, HLO.out, HHI.out, ⟨hBr.os, hBr.tape, hBr.output, hBr.size, hBr.block⟩⟩
        rw [N3.out]; rfl
      · have d3 : decide ((a : Int) * 12 < (h.size : Int)) = false := by simp; omega
        go_wp2_with fail
        go_quiet (fail)
        go_wp2
        go_ret2
        refine ⟨a, false, ?_, by omega, HLO.out, HHI.out, ⟨hBr.os, hBr.tape, hBr.output, hBr.size, hBr.block⟩⟩
        rw [N3.out]; rfl

end Go.Proofs.Qxb6600199a
