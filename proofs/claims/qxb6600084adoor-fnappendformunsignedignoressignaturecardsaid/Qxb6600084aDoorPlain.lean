/-
  DERIVED. Seat b6600084aD: plain functions: what appendString and appendForm write; no Go in sight.
-/
import Derived.Lib.UnsafeStr
namespace Go.Proofs.Qxb6600084aDoor
open Go

def hexd (n : Nat) : UInt8 := [48, 49, 50, 51, 52, 53, 54, 55, 56, 57, 97, 98, 99, 100, 101, 102].getD n 0

/-- What the loop writes for one byte. -/
def esc (c : UInt8) : List UInt8 :=
  if c.toNat = 34 ∨ c.toNat = 92 then [92, c]
  else if 32 ≤ c.toNat then [c]
  else if c.toNat = 8 then [92, 98]
  else if c.toNat = 12 then [92, 102]
  else if c.toNat = 10 then [92, 110]
  else if c.toNat = 13 then [92, 114]
  else if c.toNat = 9 then [92, 116]
  else [92, 117, 48, 48, hexd (c.toNat / 16), hexd (c.toNat % 16)]

def escs (l : List UInt8) : List UInt8 := l.flatMap esc

/-- What appendString writes. -/
def quo (l : List UInt8) : List UInt8 := [34] ++ escs l ++ [34]

theorem esc_le (c : UInt8) : (esc c).length ≤ 6 := by
  unfold esc
  repeat' split
  all_goals simp

theorem escs_le (l : List UInt8) : (escs l).length ≤ 6 * l.length := by
  induction l with
  | nil => simp [escs]
  | cons a l ih =>
    have := esc_le a
    simp only [escs, List.flatMap_cons, List.length_append, List.length_cons] at ih ⊢
    omega

theorem escs_snoc (l : List UInt8) (c : UInt8) : escs (l ++ [c]) = escs l ++ esc c := by simp [escs]

theorem quo_len (l : List UInt8) : (quo l).length ≤ 6 * l.length + 2 := by
  have := escs_le l
  simp [quo]
  omega

theorem take_snoc (s : ByteArray) (k : Nat) (h : k < s.size) : s.data.toList.take (k + 1) = s.data.toList.take k ++ [s[k]] := by
  rw [List.take_succ_eq_append_getElem (by simpa using h)]; rfl

end Go.Proofs.Qxb6600084aDoor
