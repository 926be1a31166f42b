/-
  DERIVED. Seat b6600199a: plain functions: names as numbers.
-/
namespace Go.Proofs.Qxb6600199a

/-- Byte i of a text, as a number. -/
def bt (a : ByteArray) (i : Nat) : Nat := (a.data.toList.getD i 0).toNat

/-- The number that the first four bytes stand for. -/
def num (a : ByteArray) : Nat := bt a 0 * 16777216 + bt a 1 * 65536 + bt a 2 * 256 + bt a 3

def lessB (a b : ByteArray) : Bool := decide (num a < num b)

theorem bt_lt (a : ByteArray) (i : Nat) : bt a i < 256 := UInt8.toNat_lt _

theorem bt_get (a : ByteArray) (i : Nat) (h : i < a.size) : (a[i]'h).toNat = bt a i := by
  unfold bt
  rw [List.getD_eq_getElem?_getD, List.getElem?_eq_getElem (by simpa using h)]
  rfl

/-- Where the first three agree the next one decides. -/
theorem less_at (a b : ByteArray) (k : Nat) (hk : k < 4) (he : ∀ j, j < k → bt a j = bt b j) (hne : bt a k ≠ bt b k) : lessB a b = decide (bt a k < bt b k) := by
  unfold lessB num
  have a0 := bt_lt a 0; have a1 := bt_lt a 1; have a2 := bt_lt a 2; have a3 := bt_lt a 3
  have b0 := bt_lt b 0; have b1 := bt_lt b 1; have b2 := bt_lt b 2; have b3 := bt_lt b 3
  have e0 := he 0; have e1 := he 1; have e2 := he 2
  rcases (show k = 0 ∨ k = 1 ∨ k = 2 ∨ k = 3 by omega) with rfl | rfl | rfl | rfl
  all_goals (apply decide_eq_decide.2; simp at e0 e1 e2; omega)

theorem less_same (a b : ByteArray) (he : ∀ j, j < 4 → bt a j = bt b j) : lessB a b = false := by
  unfold lessB num
  have e0 := he 0 (by omega); have e1 := he 1 (by omega); have e2 := he 2 (by omega); have e3 := he 3 (by omega)
  simp
  omega

/-- Names of four bytes are their numbers. -/
theorem num_inj (a b : ByteArray) (ha : a.size = 4) (hb : b.size = 4) (h : num a = num b) : a = b := by
  have a0 := bt_lt a 0; have a1 := bt_lt a 1; have a2 := bt_lt a 2; have a3 := bt_lt a 3
  have b0 := bt_lt b 0; have b1 := bt_lt b 1; have b2 := bt_lt b 2; have b3 := bt_lt b 3
  unfold num at h
  have he : ∀ i, i < 4 → bt a i = bt b i := by
    intro i hi
    rcases (show i = 0 ∨ i = 1 ∨ i = 2 ∨ i = 3 by omega) with rfl | rfl | rfl | rfl <;> omega
  apply ByteArray.ext
  apply Array.ext
  · exact ha.trans hb.symm
  · intro i h1 h2
    have e := he i (by have : a.data.size = 4 := ha; omega)
    have e1 := bt_get a i h1
    have e2 := bt_get b i h2
    exact UInt8.toNat_inj.1 (by have := e1.trans (e.trans e2.symm); exact this)

end Go.Proofs.Qxb6600199a
