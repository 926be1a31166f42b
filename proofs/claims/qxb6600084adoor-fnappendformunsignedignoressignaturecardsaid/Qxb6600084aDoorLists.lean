/-
  DERIVED. Seat b6600084aD: the plain law: no Go in sight: where the two forms part.
-/
import Derived.Test.Qxb6600084aDoorWalkC
namespace Go.Proofs.Qxb6600084aDoor
open Go

theorem decDigits_last (u : Nat) : ∃ l d, Lib.decDigits u = l ++ [d] ∧ d ≠ 34 := by
  unfold Lib.decDigits
  split
  · rename_i h
    refine ⟨[], _, rfl, ?_⟩
    intro e
    have := congrArg UInt8.toNat e
    rw [UInt8.toNat_ofNat'] at this
    simp at this
    omega
  · refine ⟨_, _, rfl, ?_⟩
    intro e
    have := congrArg UInt8.toNat e
    rw [UInt8.toNat_ofNat'] at this
    simp at this
    omega

theorem itoa_last (n : Int) : ∃ l d, Lib.itoa n = l ++ [d] ∧ d ≠ 34 := by
  unfold Lib.itoa
  split
  · obtain ⟨l, d, h, hd⟩ := decDigits_last n.natAbs
    exact ⟨45 :: l, d, by rw [h]; rfl, hd⟩
  · exact decDigits_last n.toNat

theorem pre_last (n : Int) (a2 a3 a4 a5 a6 : List UInt8) : ∃ l d, formPre n a2 a3 a4 a5 a6 = l ++ [d] ∧ d ≠ 34 := by
  obtain ⟨l, d, h, hd⟩ := itoa_last n
  unfold formPre
  rw [h, ← List.append_assoc]
  exact ⟨_, d, rfl, hd⟩

theorem sig_last (a8 : List UInt8) : ∃ l, formSig a8 = l ++ [34] := by
  unfold formSig quo
  rw [← List.append_assoc]
  exact ⟨_, rfl⟩

theorem formOf_false (a0 : List UInt8) (n : Int) (a2 a3 a4 a5 a6 a7 a8 : List UInt8) : formOf false a0 n a2 a3 a4 a5 a6 a7 a8 = formPre n a2 a3 a4 a5 a6 ++ formSuf a0 a7 := by simp [formOf]
theorem formOf_true (a0 : List UInt8) (n : Int) (a2 a3 a4 a5 a6 a7 a8 : List UInt8) : formOf true a0 n a2 a3 a4 a5 a6 a7 a8 = formPre n a2 a3 a4 a5 a6 ++ formSig a8 ++ formSuf a0 a7 := by simp [formOf]

section
variable (P I S : List UInt8)

/-- The tails read alike. -/
theorem tail_eq (k : Nat) (hk : k < S.length) : (P ++ S).getD ((P ++ S).length - 1 - k) 0 = (P ++ I ++ S).getD ((P ++ I ++ S).length - 1 - k) 0 := by
  have e1 : (P ++ S).length - 1 - k = P.length + (S.length - 1 - k) := by simp; omega
  have e2 : (P ++ I ++ S).length - 1 - k = (P ++ I).length + (S.length - 1 - k) := by simp; omega
  rw [e1, e2]
  simp only [List.getD_eq_getElem?_getD]
  rw [List.getElem?_append_right (by omega), List.getElem?_append_right (by omega)]
  simp

theorem head_eq (i : Nat) (hi : i < P.length) : (P ++ S).getD i 0 = (P ++ I ++ S).getD i 0 := by
  simp only [List.getD_eq_getElem?_getD]
  rw [List.getElem?_append_left hi, List.append_assoc, List.getElem?_append_left hi]

theorem mid_eq (i : Nat) (hi : i < I.length) : (P ++ I ++ S).getD (P.length + i) 0 = I.getD i 0 := by
  simp only [List.getD_eq_getElem?_getD]
  rw [List.append_assoc, List.getElem?_append_right (by omega), List.getElem?_append_left (by omega)]
  simp

theorem rest_eq (i : Nat) (hi : P.length ≤ i) : (P ++ I ++ S).getD (i + I.length) 0 = (P ++ S).getD i 0 := by
  simp only [List.getD_eq_getElem?_getD]
  rw [List.getElem?_append_right (by simp; omega), List.getElem?_append_right (by omega)]
  have e : i + I.length - (P ++ I).length = i - P.length := by simp; omega
  rw [e]

theorem stop_ne (hP : ∃ l d, P = l ++ [d] ∧ d ≠ 34) (hI : ∃ l, I = l ++ [34]) : (P ++ S).getD ((P ++ S).length - 1 - S.length) 0 ≠ (P ++ I ++ S).getD ((P ++ I ++ S).length - 1 - S.length) 0 := by
  obtain ⟨l, d, rfl, hd⟩ := hP
  obtain ⟨m, rfl⟩ := hI
  have e1 : (l ++ [d] ++ S).length - 1 - S.length = l.length := by simp
  have e2 : (l ++ [d] ++ (m ++ [34]) ++ S).length - 1 - S.length = (l ++ [d] ++ m).length := by simp; omega
  rw [e1, e2]
  have f1 : (l ++ [d] ++ S).getD l.length 0 = d := by simp [List.getD_eq_getElem?_getD]
  have f2 : (l ++ [d] ++ (m ++ [34]) ++ S).getD (l ++ [d] ++ m).length 0 = 34 := by
    have e3 : l ++ [d] ++ (m ++ [34]) ++ S = (l ++ [d] ++ m) ++ ([34] ++ S) := by simp
    rw [e3, List.getD_eq_getElem?_getD, List.getElem?_append_right (Nat.le_refl _)]
    simp
  rw [f1, f2]
  exact hd
end
end Go.Proofs.Qxb6600084aDoor
