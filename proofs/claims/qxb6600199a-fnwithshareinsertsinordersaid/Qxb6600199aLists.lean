/-
  DERIVED. Seat b6600199a: the plain law: the share lies in order. No Go in sight.
-/
import Derived.Test.Qxb6600199aWalkG
namespace Go.Proofs.Qxb6600199a
open Go

/-- The number at place p of a list of bytes. -/
def numAt (l : List UInt8) (p : Nat) : Nat := (l.getD p 0).toNat * 16777216 + (l.getD (p + 1) 0).toNat * 65536 + (l.getD (p + 2) 0).toNat * 256 + (l.getD (p + 3) 0).toNat

theorem bt_nm (h : ByteArray) (i j : Nat) (hj : j < 4) : bt (nm h i) j = (h.data.toList.getD (12 * i + j) 0).toNat := by
  have e : (nm h i).data.toList = (h.data.toList.drop (12 * i)).take 4 := by
    unfold nm
    simp [List.take_drop]
  unfold bt
  rw [e]
  simp only [List.getD_eq_getElem?_getD, List.getElem?_take, List.getElem?_drop, hj, if_true]

theorem num_nm (h : ByteArray) (i : Nat) : num (nm h i) = numAt h.data.toList (12 * i) := by
  unfold num numAt
  rw [bt_nm h i 0 (by omega), bt_nm h i 1 (by omega), bt_nm h i 2 (by omega), bt_nm h i 3 (by omega)]
  rfl

theorem numAt_left (A B : List UInt8) (p : Nat) (hp : p + 4 ≤ A.length) : numAt (A ++ B) p = numAt A p := by
  have g : ∀ q, q < A.length → (A ++ B).getD q 0 = A.getD q 0 := fun q hq => by
    simp only [List.getD_eq_getElem?_getD, List.getElem?_append_left hq]
  unfold numAt
  rw [g p (by omega), g (p + 1) (by omega), g (p + 2) (by omega), g (p + 3) (by omega)]

theorem numAt_right (A B : List UInt8) (p n : Nat) (hn : A.length = n) : numAt (A ++ B) (n + p) = numAt B p := by
  subst hn
  have g : ∀ q, (A ++ B).getD (A.length + q) 0 = B.getD q 0 := fun q => by
    simp only [List.getD_eq_getElem?_getD]
    rw [List.getElem?_append_right (by omega)]
    congr 2
    omega
  unfold numAt
  rw [g p, show A.length + p + 1 = A.length + (p + 1) by omega, g (p + 1), show A.length + p + 2 = A.length + (p + 2) by omega, g (p + 2), show A.length + p + 3 = A.length + (p + 3) by omega, g (p + 3)]

theorem numAt_take (H : List UInt8) (a p : Nat) (hp : p + 4 ≤ a) : numAt (H.take a) p = numAt H p := by
  have g : ∀ q, q < a → (H.take a).getD q 0 = H.getD q 0 := fun q hq => by
    simp only [List.getD_eq_getElem?_getD, List.getElem?_take, hq, if_true]
  unfold numAt
  rw [g p (by omega), g (p + 1) (by omega), g (p + 2) (by omega), g (p + 3) (by omega)]

theorem numAt_drop (H : List UInt8) (a p : Nat) : numAt (H.drop a) p = numAt H (a + p) := by
  have g : ∀ q, (H.drop a).getD q 0 = H.getD (a + q) 0 := fun q => by
    simp only [List.getD_eq_getElem?_getD, List.getElem?_drop]
  unfold numAt
  rw [g p, g (p + 1), g (p + 2), g (p + 3)]
  rfl

theorem num_self (s : ByteArray) : num s = numAt s.data.toList 0 := rfl

/-- No session of that name holds a share. -/
def NoneP (h s : ByteArray) : Prop := ∀ i, 12 * i + 12 ≤ h.size → num (nm h i) ≠ num s

section
variable {h s res : ByteArray} {T lo : Nat}

theorem res_size (hs : s.size = 4) (hlo : 12 * lo ≤ h.size) (hr : res.data.toList = h.data.toList.take (12 * lo) ++ s.data.toList ++ be8 T ++ h.data.toList.drop (12 * lo)) : res.size = h.size + 12 := by
  have h1 := congrArg List.length hr
  have hl : h.data.toList.length = h.size := by simp
  have hl2 : s.data.toList.length = s.size := by simp
  have hl3 : res.data.toList.length = res.size := by simp
  have hb8 : (be8 T).length = 8 := rfl
  simp only [List.length_append, List.length_take, List.length_drop, hl, hl2, hl3, hb8] at h1
  omega

theorem res_lt (hlo : 12 * lo ≤ h.size) (hr : res.data.toList = h.data.toList.take (12 * lo) ++ s.data.toList ++ be8 T ++ h.data.toList.drop (12 * lo)) (i : Nat) (hi : i < lo) : num (nm res i) = num (nm h i) := by
  have hl : h.data.toList.length = h.size := by simp
  have ht : (h.data.toList.take (12 * lo)).length = 12 * lo := by rw [List.length_take]; omega
  rw [num_nm, num_nm, hr, List.append_assoc, List.append_assoc, numAt_left _ _ _ (by omega), numAt_take _ _ _ (by omega)]

theorem res_at (hs : s.size = 4) (hlo : 12 * lo ≤ h.size) (hr : res.data.toList = h.data.toList.take (12 * lo) ++ s.data.toList ++ be8 T ++ h.data.toList.drop (12 * lo)) : num (nm res lo) = num s := by
  have hl : h.data.toList.length = h.size := by simp
  have hl2 : s.data.toList.length = s.size := by simp
  have ht : (h.data.toList.take (12 * lo)).length = 12 * lo := by rw [List.length_take]; omega
  have e := numAt_right (h.data.toList.take (12 * lo)) (s.data.toList ++ (be8 T ++ h.data.toList.drop (12 * lo))) 0 (12 * lo) ht
  rw [Nat.add_zero] at e
  rw [num_nm, hr, List.append_assoc, List.append_assoc, e, numAt_left _ _ _ (by omega), num_self]

theorem res_gt (hs : s.size = 4) (hlo : 12 * lo ≤ h.size) (hr : res.data.toList = h.data.toList.take (12 * lo) ++ s.data.toList ++ be8 T ++ h.data.toList.drop (12 * lo)) (i : Nat) (hi : lo ≤ i) : num (nm res (i + 1)) = num (nm h i) := by
  have hl : h.data.toList.length = h.size := by simp
  have hl2 : s.data.toList.length = s.size := by simp
  have hb8 : (be8 T).length = 8 := rfl
  have ht : (h.data.toList.take (12 * lo) ++ s.data.toList ++ be8 T).length = 12 * lo + 12 := by simp only [List.length_append, List.length_take, hl, hl2, hb8]; omega
  rw [num_nm, num_nm, hr, show 12 * (i + 1) = (12 * lo + 12) + (12 * i - 12 * lo) by omega, numAt_right _ _ _ _ ht, numAt_drop]
  congr 1
  omega
end

/-- THE ROW WITH THE SHARE LAID IN IS WELL FORMED. -/
theorem well_res {h s res : ByteArray} {T : Nat} (hw : h.size = 0 ∨ WellP h) (hs : s.size = 4) (hN : NoneP h s) (hR : ResP h s T res) : WellP res := by
  obtain ⟨a, ha, ⟨lo, rfl, hlo, hhi⟩, hr⟩ := hR
  have hsz := res_size hs ha hr
  have hm : h.size % 12 = 0 := by rcases hw with h0 | hw; omega; exact hw.2.1
  refine ⟨by omega, by omega, fun i hi => ?_⟩
  rcases Nat.lt_trichotomy i lo with h1 | h1 | h1
  · rw [res_lt ha hr i h1]
    rcases Nat.lt_or_ge (i + 1) lo with h2 | h2
    · rw [res_lt ha hr (i + 1) h2]
      rcases hw with h0 | hw
      · omega
      · exact hw.2.2 i (by omega)
    · obtain rfl : lo = i + 1 := by omega
      rw [res_at hs ha hr]
      exact hlo i (by omega)
  · subst h1
    rw [res_at hs ha hr, res_gt hs ha hr i (Nat.le_refl _)]
    have h2 := hhi i (Nat.le_refl _) (by omega)
    have h3 := hN i (by omega)
    omega
  · obtain ⟨j, rfl⟩ : ∃ j, i = j + 1 := ⟨i - 1, by omega⟩
    rw [res_gt hs ha hr j (by omega), res_gt hs ha hr (j + 1) (by omega)]
    rcases hw with h0 | hw
    · omega
    · exact hw.2.2 j (by omega)

/-- THE TWO WAYS LAY IT AT ONE PLACE. -/
theorem same_res {h s r1 r2 : ByteArray} {T : Nat} (hm : h.size % 12 = 0) (hN : NoneP h s) (h1 : ResP h s T r1) (h2 : InsP h s T r2) : r1 = r2 := by
  obtain ⟨a, ha, ⟨lo, rfl, hlo, hhi⟩, hr1⟩ := h1
  obtain ⟨b, hb, ⟨l2, rfl, hq1, hq2⟩, hr2⟩ := h2
  have he : lo = l2 := by
    rcases Nat.lt_trichotomy lo l2 with h' | h' | h'
    · exfalso
      have x1 := hq1 lo h'
      have x2 := hhi lo (Nat.le_refl _) (by omega)
      have x3 := hN lo (by omega)
      omega
    · exact h'
    · exfalso
      have x1 := hq2 (by omega)
      have x2 := hlo l2 h'
      omega
  subst he
  apply ByteArray.ext
  apply Array.ext'
  exact hr1.trans hr2.symm

end Go.Proofs.Qxb6600199a
