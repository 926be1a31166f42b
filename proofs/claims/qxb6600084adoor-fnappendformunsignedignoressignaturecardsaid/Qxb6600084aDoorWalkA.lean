/-
  DERIVED. Seat b6600084aD: the small walks: zzBytes, zzSealTooBig, zzSealBytes, zzToSeal.
-/
import Derived.Test.Qxb6600084aDoorProg
import Derived.WalkKit
import Derived.WalkSpells
import Derived.WalkLawsBesides
namespace Go.Proofs.Qxb6600084aDoor
open Go.RowKit

/-- The nine cells of a seal: eight strings and the number. -/
def zcells (a0 : ByteArray) (n : Int) (a2 a3 a4 a5 a6 a7 a8 : ByteArray) : Array Value :=
  #[.string a0, .int .i64 n, .string a2, .string a3, .string a4, .string a5, .string a6, .string a7, .string a8]

set_option maxHeartbeats 1000000 in
theorem bytes_any (a0 : ByteArray) (n : Int) (a2 a3 a4 a5 a6 a7 a8 t : ByteArray) (w : World)
    (h0 : a0.size ≤ maxLen) (h2 : a2.size ≤ maxLen) (h3 : a3.size ≤ maxLen) (h4 : a4.size ≤ maxLen) (h5 : a5.size ≤ maxLen) (h6 : a6.size ≤ maxLen) (h7 : a7.size ≤ maxLen) (h8 : a8.size ≤ maxLen) (ht : t.size ≤ maxLen) :
    Calls Tryd.prog 15 #[.agg #[.string a0, .int .i64 n, .string a2, .string a3, .string a4, .string a5, .string a6, .string a7, .string a8], .string t] w fun e w' =>
      (∃ b, e = .returned (.bool b) ∧ (b = true → a0.size + a2.size + a3.size + a4.size + a5.size + a6.size + a7.size + a8.size + t.size ≤ 1048576)) ∧
      Below w.heap.size w w' := by
  unfold maxLen at h0 h2 h3 h4 h5 h6 h7 h8 ht
  go_enter Tryd.func15, Tryd.ntmps15
  go_wp2
  all_goals go_ret
  all_goals refine ⟨⟨_, rfl, fun h => ?_⟩, (Below.refl _ _).alloc (Nat.le_refl _) _⟩
  all_goals first | (exact absurd h (by decide)) | omega


set_option maxHeartbeats 1000000 in
theorem tooBig_any (a0 : ByteArray) (n : Int) (a2 a3 a4 a5 a6 a7 a8 : ByteArray) (w : World)
    (h : a0.size + a2.size + a3.size + a4.size + a5.size + a6.size + a7.size + a8.size ≤ 1048576) :
    Calls Tryd.prog 9 #[.agg #[.string a0, .int .i64 n, .string a2, .string a3, .string a4, .string a5, .string a6, .string a7, .string a8]] w fun e w' =>
      e = .returned (.bool false) ∧ Below w.heap.size w w' := by
  have h0 : (decide ((1048576 : Int) < (a0.size : Int))) = false := by simp; omega
  have h2 : (decide ((1048576 : Int) < (a2.size : Int))) = false := by simp; omega
  have h3 : (decide ((1048576 : Int) < (a3.size : Int))) = false := by simp; omega
  have h4 : (decide ((1048576 : Int) < (a4.size : Int))) = false := by simp; omega
  have h5 : (decide ((1048576 : Int) < (a5.size : Int))) = false := by simp; omega
  have h6 : (decide ((1048576 : Int) < (a6.size : Int))) = false := by simp; omega
  have h7 : (decide ((1048576 : Int) < (a7.size : Int))) = false := by simp; omega
  have h8 : (decide ((1048576 : Int) < (a8.size : Int))) = false := by simp; omega
  go_enter Tryd.func9, Tryd.ntmps9
  go_wp2
  go_ret
  exact ⟨rfl, (Below.refl _ _).alloc (Nat.le_refl _) _⟩

set_option maxHeartbeats 1000000 in
theorem sealBytes_any (a0 : ByteArray) (n : Int) (a2 a3 a4 a5 a6 a7 a8 : ByteArray) (w : World)
    (h : a0.size + a2.size + a3.size + a4.size + a5.size + a6.size + a7.size + a8.size ≤ 1048576) :
    Calls Tryd.prog 10 #[.agg #[.string a0, .int .i64 n, .string a2, .string a3, .string a4, .string a5, .string a6, .string a7, .string a8]] w fun e w' =>
      (∃ k : Nat, e = .returned (.int .i64 k) ∧ k ≤ a0.size + a2.size + a3.size + a4.size + a5.size + a6.size + a7.size + a8.size) ∧ Below w.heap.size w w' := by
  go_enter Tryd.func10, Tryd.ntmps10
  go_wp2
  go_ret
  refine ⟨⟨_, ?_, Nat.le_refl _⟩, (Below.refl _ _).alloc (Nat.le_refl _) _⟩
  have e1 : ((a0.size + a2.size + a3.size + a4.size + a5.size + a6.size + a7.size + a8.size : Nat) : Int) = (a0.size : Int) + a2.size + a3.size + a4.size + a5.size + a6.size + a7.size + a8.size := by omega
  rw [e1]; rfl

set_option maxHeartbeats 1000000 in
theorem toSeal_any (a0 : ByteArray) (n : Int) (a2 a3 a4 a5 a6 a7 a8 : ByteArray) (w : World) :
    Calls Tryd.prog 14 #[.agg #[.string a0, .int .i64 n, .string a2, .string a3, .string a4, .string a5, .string a6, .string a7, .string a8]] w fun e w' =>
      e = .returned (.pointer (some ⟨w.heap.size + 1, 0, none⟩)) ∧
      w' = (w.alloc (.cells #[.string a0, .int .i64 n, .string a2, .string a3, .string a4, .string a5, .string a6, .string a7, .string a8] 25)).alloc (.cells #[.string a0, .int .i64 n, .string a2, .string a3, .string a4, .string a5, .string a6, .string a7, .string a8] 43) := by
  go_enter Tryd.func14, Tryd.ntmps14
  go_wp2
  go_ret
  exact ⟨rfl, rfl⟩

end Go.Proofs.Qxb6600084aDoor
