/-
  DERIVED. Seat b6600084aD: the walk of (*seal.Seal).appendForm, strconv.AppendInt by its contract (a hypothesis here, paid in the proof's text).
-/
import Derived.Test.Qxb6600084aDoorWalkB
import Derived.Lib.AppendIntMem
import Derived.Lib.ItoaLen
namespace Go.Proofs.Qxb6600084aDoor
open Go.RowKit
set_option linter.unusedVariables false

def formPre (n : Int) (a2 a3 a4 a5 a6 : List UInt8) : List UInt8 :=
  [123, 34, 97, 108, 103, 34, 58] ++ quo [69, 100, 50, 53, 53, 49, 57] ++ [44, 34, 99, 104, 97, 105, 110, 95, 104, 97, 115, 104, 34, 58] ++ quo a4 ++ [44, 34, 99, 111, 110, 116, 101, 110, 116, 95, 104, 97, 115, 104, 34, 58] ++ quo a2 ++ [44, 34, 107, 101, 121, 95, 105, 100, 34, 58] ++ quo a5 ++ [44, 34, 110, 111, 110, 99, 101, 34, 58] ++ quo a6 ++ [44, 34, 112, 114, 101, 118, 95, 99, 104, 97, 105, 110, 95, 104, 97, 115, 104, 34, 58] ++ quo a3 ++ [44, 34, 115, 101, 113, 34, 58] ++ Lib.itoa n
def formSig (a8 : List UInt8) : List UInt8 := [44, 34, 115, 105, 103, 110, 97, 116, 117, 114, 101, 34, 58] ++ quo a8
def formSuf (a0 a7 : List UInt8) : List UInt8 :=
  [44, 34, 115, 105, 103, 110, 101, 100, 95, 97, 116, 34, 58] ++ quo a7 ++ [44, 34, 115, 116, 114, 101, 97, 109, 34, 58] ++ quo a0 ++ [44, 34, 118, 34, 58] ++ Lib.itoa 1 ++ [125]
/-- What appendForm writes. -/
def formOf (sg : Bool) (a0 : List UInt8) (n : Int) (a2 a3 a4 a5 a6 a7 a8 : List UInt8) : List UInt8 :=
  formPre n a2 a3 a4 a5 a6 ++ (if sg then formSig a8 else []) ++ formSuf a0 a7

/-- strconv.AppendInt at base 10, over this program. -/
def AppendIntSaid (tn : String) : Prop := ∀ (B n : Nat) (i : Int), -9223372036854775808 ≤ i → i ≤ 9223372036854775807 → ∀ (sv : Value) (xs : List Value) (w : World), w.ownsRow B 5 1 sv n xs → B ≤ w.heap.size → n + 21 ≤ 140737488355328 →
    Lib.TabBelow Tryd.prog B w tn .u64 Lib.pow10Tab →
    Calls Tryd.prog 26 #[sv, .int .i64 i, .int .i64 10] w fun e w' => ∃ v', e = .returned v' ∧ w'.ownsRow B 5 1 v' (n + (Lib.itoa i).length) (xs ++ Lib.byteCells (Lib.itoa i)) ∧ Below B w w'

set_option maxHeartbeats 4000000 in
theorem appendForm_plain (tn : String) (hAI : AppendIntSaid tn) (B g : Nat) (a0 : ByteArray) (n : Int) (a2 a3 a4 a5 a6 a7 a8 : ByteArray) (w : World) (hg : g < B) (hB : B ≤ w.heap.size)
    (h0 : a0.size ≤ 1048576) (h2 : a2.size ≤ 1048576) (h3 : a3.size ≤ 1048576) (h4 : a4.size ≤ 1048576) (h5 : a5.size ≤ 1048576) (h6 : a6.size ≤ 1048576) (h7 : a7.size ≤ 1048576) (h8 : a8.size ≤ 1048576)
    (hn0 : -9223372036854775808 ≤ n) (hn1 : n ≤ 9223372036854775807)
    (hT : Lib.TabBelow Tryd.prog B w tn .u64 Lib.pow10Tab)
    (c0 : w.cell? ⟨g, 0, none⟩ = some (.string a0)) (c1 : w.cell? ⟨g, 1, none⟩ = some (.int .i64 n)) (c2 : w.cell? ⟨g, 2, none⟩ = some (.string a2)) (c3 : w.cell? ⟨g, 3, none⟩ = some (.string a3))
    (c4 : w.cell? ⟨g, 4, none⟩ = some (.string a4)) (c5 : w.cell? ⟨g, 5, none⟩ = some (.string a5)) (c6 : w.cell? ⟨g, 6, none⟩ = some (.string a6)) (c7 : w.cell? ⟨g, 7, none⟩ = some (.string a7)) (c8 : w.cell? ⟨g, 8, none⟩ = some (.string a8)) :
    Calls Tryd.prog 24 #[.pointer (some ⟨g, 0, none⟩), .slice none 0 0, .bool false] w fun e w' => ∃ v', e = .returned v' ∧
      w'.ownsRow B 5 1 v' (formOf false a0.data.toList n a2.data.toList a3.data.toList a4.data.toList a5.data.toList a6.data.toList a7.data.toList a8.data.toList).length
        (Lib.byteCells (formOf false a0.data.toList n a2.data.toList a3.data.toList a4.data.toList a5.data.toList a6.data.toList a7.data.toList a8.data.toList)) ∧ Below B w w' := by
  obtain ⟨i0, hi, hz0, hz1, hz2⟩ := info_parts infoByte
  have C0 := Lib.hid c0; have C1 := Lib.hid c1; have C2 := Lib.hid c2; have C3 := Lib.hid c3; have C4 := Lib.hid c4; have C5 := Lib.hid c5; have C6 := Lib.hid c6; have C7 := Lib.hid c7; have C8 := Lib.hid c8
  have HT := Lib.hid hT
  have HAI := Lib.hid hAI
  clear c0 c1 c2 c3 c4 c5 c6 c7 c8 hT hAI
  have hb0 : Below B w w := Below.refl _ _
  have hs0 : B ≤ w.heap.size := hB
  obtain ⟨L0, hL0⟩ : ∃ L : List UInt8, L = [] := ⟨_, rfl⟩
  have hl0 : L0.length ≤ 0 := by rw [hL0]; simp
  have hown0 : w.ownsRow B 5 1 (.slice none 0 0) L0.length (Lib.byteCells L0) := by rw [hL0]; exact World.ownsRow_nil _ _ _ _
  have HL0 := Lib.hid hL0
  clear hL0
  go_enter Tryd.func24, Tryd.ntmps24
  go_wp2_with (at_builtin; refine Lib.wpList_append_own_string _ rfl (.tmp 7) _ 22 9 rfl B 5 i0 Tryd.underlying22 Tryd.underlying9 hi hz0 hz1 hz2 (.slice none 0 0) L0.length (Lib.byteCells L0) rfl hown0 ⟨#[123, 34, 97, 108, 103, 34, 58]⟩ rfl (by have : (⟨#[123, 34, 97, 108, 103, 34, 58]⟩ : ByteArray).size = 7 := rfl; unfold maxLen; omega) (by have : (⟨#[123, 34, 97, 108, 103, 34, 58]⟩ : ByteArray).size = 7 := rfl; omega) hs0 ?_)
  intro v1 w1 hx1 hgr1 hnl1
  clear hnl1
  obtain ⟨L1, hL1⟩ : ∃ L : List UInt8, L = L0 ++ [123, 34, 97, 108, 103, 34, 58] := ⟨_, rfl⟩
  have hb1 : Below B w w1 := hb0.grown hgr1 hs0 (fun k hk => (hown0.lt k hk).1)
  have hs1 : B ≤ w1.heap.size := by have := hb1.size; omega
  have hl1 : L1.length ≤ 7 := by rw [hL1, List.length_append]; simp only [List.length_cons, List.length_nil]; omega
  have hown1 : w1.ownsRow B 5 1 v1 L1.length (Lib.byteCells L1) := by rw [hL1, Lib.byteCells_append, List.length_append]; exact hx1
  have HL1 := Lib.hid hL1
  clear hx1 hgr1 hown0 hL1 hs0 hl0 hb0
  go_wp2_with (go_at_call 17; refine (AppendString_any B v1 L1 ⟨#[69, 100, 50, 53, 53, 49, 57]⟩ _ hown1 hs1 (by decide) (by omega)).mono ?_; rintro e w2 ⟨v2, rfl, hx2, hbb2⟩; refine Hid.out ?_)
  refine Lib.hid ?_
  obtain ⟨L2, hL2⟩ : ∃ L : List UInt8, L = L1 ++ quo [69, 100, 50, 53, 53, 49, 57] := ⟨_, rfl⟩
  have hb2 : Below B w w2 := hb1.trans hbb2
  have hs2 : B ≤ w2.heap.size := by have := hb2.size; omega
  have hl2 : L2.length ≤ 51 := by rw [hL2, List.length_append]; have := quo_len [69, 100, 50, 53, 53, 49, 57]; have h' : ([69, 100, 50, 53, 53, 49, 57] : List UInt8).length ≤ 7 := (by simp); omega
  have hown2 : w2.ownsRow B 5 1 v2 L2.length (Lib.byteCells L2) := by rw [hL2]; exact hx2
  have HL2 := Lib.hid hL2
  clear hx2 hbb2 hown1 hL2 hs1 hl1 hb1
  go_wp2_with (at_builtin; refine Lib.wpList_append_own_string _ rfl (.tmp 11) _ 22 9 rfl B 5 i0 Tryd.underlying22 Tryd.underlying9 hi hz0 hz1 hz2 v2 L2.length (Lib.byteCells L2) rfl hown2 ⟨#[44, 34, 99, 104, 97, 105, 110, 95, 104, 97, 115, 104, 34, 58]⟩ rfl (by have : (⟨#[44, 34, 99, 104, 97, 105, 110, 95, 104, 97, 115, 104, 34, 58]⟩ : ByteArray).size = 14 := rfl; unfold maxLen; omega) (by have : (⟨#[44, 34, 99, 104, 97, 105, 110, 95, 104, 97, 115, 104, 34, 58]⟩ : ByteArray).size = 14 := rfl; omega) hs2 ?_)
  intro v3 w3 hx3 hgr3 hnl3
  clear hnl3
  obtain ⟨L3, hL3⟩ : ∃ L : List UInt8, L = L2 ++ [44, 34, 99, 104, 97, 105, 110, 95, 104, 97, 115, 104, 34, 58] := ⟨_, rfl⟩
  have hb3 : Below B w w3 := hb2.grown hgr3 hs2 (fun k hk => (hown2.lt k hk).1)
  have hs3 : B ≤ w3.heap.size := by have := hb3.size; omega
  have hl3 : L3.length ≤ 65 := by rw [hL3, List.length_append]; simp only [List.length_cons, List.length_nil]; omega
  have hown3 : w3.ownsRow B 5 1 v3 L3.length (Lib.byteCells L3) := by rw [hL3, Lib.byteCells_append, List.length_append]; exact hx3
  have HL3 := Lib.hid hL3
  clear hx3 hgr3 hown2 hL3 hs2 hl2 hb2
  have cc4 : w3.cell? ⟨g, 4, none⟩ = some (.string a4) := (hb3.cell (p := ⟨g, 4, none⟩) hg).trans C4.out
  go_wp2_with (go_at_call 17; refine (AppendString_any B v3 L3 a4 _ hown3 hs3 h4 (by omega)).mono ?_; rintro e w4 ⟨v4, rfl, hx4, hbb4⟩; refine Hid.out ?_)
  refine Lib.hid ?_
  obtain ⟨L4, hL4⟩ : ∃ L : List UInt8, L = L3 ++ quo a4.data.toList := ⟨_, rfl⟩
  have hb4 : Below B w w4 := hb3.trans hbb4
  have hs4 : B ≤ w4.heap.size := by have := hb4.size; omega
  have hl4 : L4.length ≤ 6291523 := by rw [hL4, List.length_append]; have := quo_len a4.data.toList; have h' : (a4.data.toList : List UInt8).length ≤ 1048576 := (by simpa using h4); omega
  have hown4 : w4.ownsRow B 5 1 v4 L4.length (Lib.byteCells L4) := by rw [hL4]; exact hx4
  have HL4 := Lib.hid hL4
  clear hx4 hbb4 hown3 hL4 hs3 hl3 hb3 cc4
  go_wp2_with (at_builtin; refine Lib.wpList_append_own_string _ rfl (.tmp 19) _ 22 9 rfl B 5 i0 Tryd.underlying22 Tryd.underlying9 hi hz0 hz1 hz2 v4 L4.length (Lib.byteCells L4) rfl hown4 ⟨#[44, 34, 99, 111, 110, 116, 101, 110, 116, 95, 104, 97, 115, 104, 34, 58]⟩ rfl (by have : (⟨#[44, 34, 99, 111, 110, 116, 101, 110, 116, 95, 104, 97, 115, 104, 34, 58]⟩ : ByteArray).size = 16 := rfl; unfold maxLen; omega) (by have : (⟨#[44, 34, 99, 111, 110, 116, 101, 110, 116, 95, 104, 97, 115, 104, 34, 58]⟩ : ByteArray).size = 16 := rfl; omega) hs4 ?_)
  intro v5 w5 hx5 hgr5 hnl5
  clear hnl5
  obtain ⟨L5, hL5⟩ : ∃ L : List UInt8, L = L4 ++ [44, 34, 99, 111, 110, 116, 101, 110, 116, 95, 104, 97, 115, 104, 34, 58] := ⟨_, rfl⟩
  have hb5 : Below B w w5 := hb4.grown hgr5 hs4 (fun k hk => (hown4.lt k hk).1)
  have hs5 : B ≤ w5.heap.size := by have := hb5.size; omega
  have hl5 : L5.length ≤ 6291539 := by rw [hL5, List.length_append]; simp only [List.length_cons, List.length_nil]; omega
  have hown5 : w5.ownsRow B 5 1 v5 L5.length (Lib.byteCells L5) := by rw [hL5, Lib.byteCells_append, List.length_append]; exact hx5
  have HL5 := Lib.hid hL5
  clear hx5 hgr5 hown4 hL5 hs4 hl4 hb4
  have cc6 : w5.cell? ⟨g, 2, none⟩ = some (.string a2) := (hb5.cell (p := ⟨g, 2, none⟩) hg).trans C2.out
  go_wp2_with (go_at_call 17; refine (AppendString_any B v5 L5 a2 _ hown5 hs5 h2 (by omega)).mono ?_; rintro e w6 ⟨v6, rfl, hx6, hbb6⟩; refine Hid.out ?_)
  refine Lib.hid ?_
  obtain ⟨L6, hL6⟩ : ∃ L : List UInt8, L = L5 ++ quo a2.data.toList := ⟨_, rfl⟩
  have hb6 : Below B w w6 := hb5.trans hbb6
  have hs6 : B ≤ w6.heap.size := by have := hb6.size; omega
  have hl6 : L6.length ≤ 12582997 := by rw [hL6, List.length_append]; have := quo_len a2.data.toList; have h' : (a2.data.toList : List UInt8).length ≤ 1048576 := (by simpa using h2); omega
  have hown6 : w6.ownsRow B 5 1 v6 L6.length (Lib.byteCells L6) := by rw [hL6]; exact hx6
  have HL6 := Lib.hid hL6
  clear hx6 hbb6 hown5 hL6 hs5 hl5 hb5 cc6
  go_wp2_with (at_builtin; refine Lib.wpList_append_own_string _ rfl (.tmp 27) _ 22 9 rfl B 5 i0 Tryd.underlying22 Tryd.underlying9 hi hz0 hz1 hz2 v6 L6.length (Lib.byteCells L6) rfl hown6 ⟨#[44, 34, 107, 101, 121, 95, 105, 100, 34, 58]⟩ rfl (by have : (⟨#[44, 34, 107, 101, 121, 95, 105, 100, 34, 58]⟩ : ByteArray).size = 10 := rfl; unfold maxLen; omega) (by have : (⟨#[44, 34, 107, 101, 121, 95, 105, 100, 34, 58]⟩ : ByteArray).size = 10 := rfl; omega) hs6 ?_)
  intro v7 w7 hx7 hgr7 hnl7
  clear hnl7
  obtain ⟨L7, hL7⟩ : ∃ L : List UInt8, L = L6 ++ [44, 34, 107, 101, 121, 95, 105, 100, 34, 58] := ⟨_, rfl⟩
  have hb7 : Below B w w7 := hb6.grown hgr7 hs6 (fun k hk => (hown6.lt k hk).1)
  have hs7 : B ≤ w7.heap.size := by have := hb7.size; omega
  have hl7 : L7.length ≤ 12583007 := by rw [hL7, List.length_append]; simp only [List.length_cons, List.length_nil]; omega
  have hown7 : w7.ownsRow B 5 1 v7 L7.length (Lib.byteCells L7) := by rw [hL7, Lib.byteCells_append, List.length_append]; exact hx7
  have HL7 := Lib.hid hL7
  clear hx7 hgr7 hown6 hL7 hs6 hl6 hb6
  have cc8 : w7.cell? ⟨g, 5, none⟩ = some (.string a5) := (hb7.cell (p := ⟨g, 5, none⟩) hg).trans C5.out
  go_wp2_with (go_at_call 17; refine (AppendString_any B v7 L7 a5 _ hown7 hs7 h5 (by omega)).mono ?_; rintro e w8 ⟨v8, rfl, hx8, hbb8⟩; refine Hid.out ?_)
  refine Lib.hid ?_
  obtain ⟨L8, hL8⟩ : ∃ L : List UInt8, L = L7 ++ quo a5.data.toList := ⟨_, rfl⟩
  have hb8 : Below B w w8 := hb7.trans hbb8
  have hs8 : B ≤ w8.heap.size := by have := hb8.size; omega
  have hl8 : L8.length ≤ 18874465 := by rw [hL8, List.length_append]; have := quo_len a5.data.toList; have h' : (a5.data.toList : List UInt8).length ≤ 1048576 := (by simpa using h5); omega
  have hown8 : w8.ownsRow B 5 1 v8 L8.length (Lib.byteCells L8) := by rw [hL8]; exact hx8
  have HL8 := Lib.hid hL8
  clear hx8 hbb8 hown7 hL8 hs7 hl7 hb7 cc8
  go_wp2_with (at_builtin; refine Lib.wpList_append_own_string _ rfl (.tmp 35) _ 22 9 rfl B 5 i0 Tryd.underlying22 Tryd.underlying9 hi hz0 hz1 hz2 v8 L8.length (Lib.byteCells L8) rfl hown8 ⟨#[44, 34, 110, 111, 110, 99, 101, 34, 58]⟩ rfl (by have : (⟨#[44, 34, 110, 111, 110, 99, 101, 34, 58]⟩ : ByteArray).size = 9 := rfl; unfold maxLen; omega) (by have : (⟨#[44, 34, 110, 111, 110, 99, 101, 34, 58]⟩ : ByteArray).size = 9 := rfl; omega) hs8 ?_)
  intro v9 w9 hx9 hgr9 hnl9
  clear hnl9
  obtain ⟨L9, hL9⟩ : ∃ L : List UInt8, L = L8 ++ [44, 34, 110, 111, 110, 99, 101, 34, 58] := ⟨_, rfl⟩
  have hb9 : Below B w w9 := hb8.grown hgr9 hs8 (fun k hk => (hown8.lt k hk).1)
  have hs9 : B ≤ w9.heap.size := by have := hb9.size; omega
  have hl9 : L9.length ≤ 18874474 := by rw [hL9, List.length_append]; simp only [List.length_cons, List.length_nil]; omega
  have hown9 : w9.ownsRow B 5 1 v9 L9.length (Lib.byteCells L9) := by rw [hL9, Lib.byteCells_append, List.length_append]; exact hx9
  have HL9 := Lib.hid hL9
  clear hx9 hgr9 hown8 hL9 hs8 hl8 hb8
  have cc10 : w9.cell? ⟨g, 6, none⟩ = some (.string a6) := (hb9.cell (p := ⟨g, 6, none⟩) hg).trans C6.out
  go_wp2_with (go_at_call 17; refine (AppendString_any B v9 L9 a6 _ hown9 hs9 h6 (by omega)).mono ?_; rintro e w10 ⟨v10, rfl, hx10, hbb10⟩; refine Hid.out ?_)
  refine Lib.hid ?_
  obtain ⟨L10, hL10⟩ : ∃ L : List UInt8, L = L9 ++ quo a6.data.toList := ⟨_, rfl⟩
  have hb10 : Below B w w10 := hb9.trans hbb10
  have hs10 : B ≤ w10.heap.size := by have := hb10.size; omega
  have hl10 : L10.length ≤ 25165932 := by rw [hL10, List.length_append]; have := quo_len a6.data.toList; have h' : (a6.data.toList : List UInt8).length ≤ 1048576 := (by simpa using h6); omega
  have hown10 : w10.ownsRow B 5 1 v10 L10.length (Lib.byteCells L10) := by rw [hL10]; exact hx10
  have HL10 := Lib.hid hL10
  clear hx10 hbb10 hown9 hL10 hs9 hl9 hb9 cc10
  go_wp2_with (at_builtin; refine Lib.wpList_append_own_string _ rfl (.tmp 43) _ 22 9 rfl B 5 i0 Tryd.underlying22 Tryd.underlying9 hi hz0 hz1 hz2 v10 L10.length (Lib.byteCells L10) rfl hown10 ⟨#[44, 34, 112, 114, 101, 118, 95, 99, 104, 97, 105, 110, 95, 104, 97, 115, 104, 34, 58]⟩ rfl (by have : (⟨#[44, 34, 112, 114, 101, 118, 95, 99, 104, 97, 105, 110, 95, 104, 97, 115, 104, 34, 58]⟩ : ByteArray).size = 19 := rfl; unfold maxLen; omega) (by have : (⟨#[44, 34, 112, 114, 101, 118, 95, 99, 104, 97, 105, 110, 95, 104, 97, 115, 104, 34, 58]⟩ : ByteArray).size = 19 := rfl; omega) hs10 ?_)
  intro v11 w11 hx11 hgr11 hnl11
  clear hnl11
  obtain ⟨L11, hL11⟩ : ∃ L : List UInt8, L = L10 ++ [44, 34, 112, 114, 101, 118, 95, 99, 104, 97, 105, 110, 95, 104, 97, 115, 104, 34, 58] := ⟨_, rfl⟩
  have hb11 : Below B w w11 := hb10.grown hgr11 hs10 (fun k hk => (hown10.lt k hk).1)
  have hs11 : B ≤ w11.heap.size := by have := hb11.size; omega
  have hl11 : L11.length ≤ 25165951 := by rw [hL11, List.length_append]; simp only [List.length_cons, List.length_nil]; omega
  have hown11 : w11.ownsRow B 5 1 v11 L11.length (Lib.byteCells L11) := by rw [hL11, Lib.byteCells_append, List.length_append]; exact hx11
  have HL11 := Lib.hid hL11
  clear hx11 hgr11 hown10 hL11 hs10 hl10 hb10
  have cc12 : w11.cell? ⟨g, 3, none⟩ = some (.string a3) := (hb11.cell (p := ⟨g, 3, none⟩) hg).trans C3.out
  go_wp2_with (go_at_call 17; refine (AppendString_any B v11 L11 a3 _ hown11 hs11 h3 (by omega)).mono ?_; rintro e w12 ⟨v12, rfl, hx12, hbb12⟩; refine Hid.out ?_)
  refine Lib.hid ?_
  obtain ⟨L12, hL12⟩ : ∃ L : List UInt8, L = L11 ++ quo a3.data.toList := ⟨_, rfl⟩
  have hb12 : Below B w w12 := hb11.trans hbb12
  have hs12 : B ≤ w12.heap.size := by have := hb12.size; omega
  have hl12 : L12.length ≤ 31457409 := by rw [hL12, List.length_append]; have := quo_len a3.data.toList; have h' : (a3.data.toList : List UInt8).length ≤ 1048576 := (by simpa using h3); omega
  have hown12 : w12.ownsRow B 5 1 v12 L12.length (Lib.byteCells L12) := by rw [hL12]; exact hx12
  have HL12 := Lib.hid hL12
  clear hx12 hbb12 hown11 hL12 hs11 hl11 hb11 cc12
  go_wp2_with (at_builtin; refine Lib.wpList_append_own_string _ rfl (.tmp 51) _ 22 9 rfl B 5 i0 Tryd.underlying22 Tryd.underlying9 hi hz0 hz1 hz2 v12 L12.length (Lib.byteCells L12) rfl hown12 ⟨#[44, 34, 115, 101, 113, 34, 58]⟩ rfl (by have : (⟨#[44, 34, 115, 101, 113, 34, 58]⟩ : ByteArray).size = 7 := rfl; unfold maxLen; omega) (by have : (⟨#[44, 34, 115, 101, 113, 34, 58]⟩ : ByteArray).size = 7 := rfl; omega) hs12 ?_)
  intro v13 w13 hx13 hgr13 hnl13
  clear hnl13
  obtain ⟨L13, hL13⟩ : ∃ L : List UInt8, L = L12 ++ [44, 34, 115, 101, 113, 34, 58] := ⟨_, rfl⟩
  have hb13 : Below B w w13 := hb12.grown hgr13 hs12 (fun k hk => (hown12.lt k hk).1)
  have hs13 : B ≤ w13.heap.size := by have := hb13.size; omega
  have hl13 : L13.length ≤ 31457416 := by rw [hL13, List.length_append]; simp only [List.length_cons, List.length_nil]; omega
  have hown13 : w13.ownsRow B 5 1 v13 L13.length (Lib.byteCells L13) := by rw [hL13, Lib.byteCells_append, List.length_append]; exact hx13
  have HL13 := Lib.hid hL13
  clear hx13 hgr13 hown12 hL13 hs12 hl12 hb12
  have cc14 : w13.cell? ⟨g, 1, none⟩ = some (.int .i64 n) := (hb13.cell (p := ⟨g, 1, none⟩) hg).trans C1.out
  go_wp2_with (go_at_call 26; refine (HAI.out B L13.length n hn0 hn1 v13 (Lib.byteCells L13) _ hown13 hs13 (by omega) (HT.out.on hb13)).mono ?_; rintro e w14 ⟨v14, rfl, hx14, hbb14⟩; refine Hid.out ?_)
  refine Lib.hid ?_
  obtain ⟨L14, hL14⟩ : ∃ L : List UInt8, L = L13 ++ Lib.itoa n := ⟨_, rfl⟩
  have hb14 : Below B w w14 := hb13.trans hbb14
  have hs14 : B ≤ w14.heap.size := by have := hb14.size; omega
  have hl14 : L14.length ≤ 31457437 := by rw [hL14, List.length_append]; have := Lib.itoa_length_le n hn0 hn1; omega
  have hown14 : w14.ownsRow B 5 1 v14 L14.length (Lib.byteCells L14) := by rw [hL14, Lib.byteCells_append, List.length_append]; exact hx14
  have HL14 := Lib.hid hL14
  clear hx14 hbb14 hown13 hL14 hs13 hl13 hb13 cc14
  go_wp2_with (at_builtin; refine Lib.wpList_append_own_string _ rfl (.tmp 68) _ 22 9 rfl B 5 i0 Tryd.underlying22 Tryd.underlying9 hi hz0 hz1 hz2 v14 L14.length (Lib.byteCells L14) rfl hown14 ⟨#[44, 34, 115, 105, 103, 110, 101, 100, 95, 97, 116, 34, 58]⟩ rfl (by have : (⟨#[44, 34, 115, 105, 103, 110, 101, 100, 95, 97, 116, 34, 58]⟩ : ByteArray).size = 13 := rfl; unfold maxLen; omega) (by have : (⟨#[44, 34, 115, 105, 103, 110, 101, 100, 95, 97, 116, 34, 58]⟩ : ByteArray).size = 13 := rfl; omega) hs14 ?_)
  intro v15 w15 hx15 hgr15 hnl15
  clear hnl15
  obtain ⟨L15, hL15⟩ : ∃ L : List UInt8, L = L14 ++ [44, 34, 115, 105, 103, 110, 101, 100, 95, 97, 116, 34, 58] := ⟨_, rfl⟩
  have hb15 : Below B w w15 := hb14.grown hgr15 hs14 (fun k hk => (hown14.lt k hk).1)
  have hs15 : B ≤ w15.heap.size := by have := hb15.size; omega
  have hl15 : L15.length ≤ 31457450 := by rw [hL15, List.length_append]; simp only [List.length_cons, List.length_nil]; omega
  have hown15 : w15.ownsRow B 5 1 v15 L15.length (Lib.byteCells L15) := by rw [hL15, Lib.byteCells_append, List.length_append]; exact hx15
  have HL15 := Lib.hid hL15
  clear hx15 hgr15 hown14 hL15 hs14 hl14 hb14
  have cc16 : w15.cell? ⟨g, 7, none⟩ = some (.string a7) := (hb15.cell (p := ⟨g, 7, none⟩) hg).trans C7.out
  go_wp2_with (go_at_call 17; refine (AppendString_any B v15 L15 a7 _ hown15 hs15 h7 (by omega)).mono ?_; rintro e w16 ⟨v16, rfl, hx16, hbb16⟩; refine Hid.out ?_)
  refine Lib.hid ?_
  obtain ⟨L16, hL16⟩ : ∃ L : List UInt8, L = L15 ++ quo a7.data.toList := ⟨_, rfl⟩
  have hb16 : Below B w w16 := hb15.trans hbb16
  have hs16 : B ≤ w16.heap.size := by have := hb16.size; omega
  have hl16 : L16.length ≤ 37748908 := by rw [hL16, List.length_append]; have := quo_len a7.data.toList; have h' : (a7.data.toList : List UInt8).length ≤ 1048576 := (by simpa using h7); omega
  have hown16 : w16.ownsRow B 5 1 v16 L16.length (Lib.byteCells L16) := by rw [hL16]; exact hx16
  have HL16 := Lib.hid hL16
  clear hx16 hbb16 hown15 hL16 hs15 hl15 hb15 cc16
  go_wp2_with (at_builtin; refine Lib.wpList_append_own_string _ rfl (.tmp 76) _ 22 9 rfl B 5 i0 Tryd.underlying22 Tryd.underlying9 hi hz0 hz1 hz2 v16 L16.length (Lib.byteCells L16) rfl hown16 ⟨#[44, 34, 115, 116, 114, 101, 97, 109, 34, 58]⟩ rfl (by have : (⟨#[44, 34, 115, 116, 114, 101, 97, 109, 34, 58]⟩ : ByteArray).size = 10 := rfl; unfold maxLen; omega) (by have : (⟨#[44, 34, 115, 116, 114, 101, 97, 109, 34, 58]⟩ : ByteArray).size = 10 := rfl; omega) hs16 ?_)
  intro v17 w17 hx17 hgr17 hnl17
  clear hnl17
  obtain ⟨L17, hL17⟩ : ∃ L : List UInt8, L = L16 ++ [44, 34, 115, 116, 114, 101, 97, 109, 34, 58] := ⟨_, rfl⟩
  have hb17 : Below B w w17 := hb16.grown hgr17 hs16 (fun k hk => (hown16.lt k hk).1)
  have hs17 : B ≤ w17.heap.size := by have := hb17.size; omega
  have hl17 : L17.length ≤ 37748918 := by rw [hL17, List.length_append]; simp only [List.length_cons, List.length_nil]; omega
  have hown17 : w17.ownsRow B 5 1 v17 L17.length (Lib.byteCells L17) := by rw [hL17, Lib.byteCells_append, List.length_append]; exact hx17
  have HL17 := Lib.hid hL17
  clear hx17 hgr17 hown16 hL17 hs16 hl16 hb16
  have cc18 : w17.cell? ⟨g, 0, none⟩ = some (.string a0) := (hb17.cell (p := ⟨g, 0, none⟩) hg).trans C0.out
  go_wp2_with (go_at_call 17; refine (AppendString_any B v17 L17 a0 _ hown17 hs17 h0 (by omega)).mono ?_; rintro e w18 ⟨v18, rfl, hx18, hbb18⟩; refine Hid.out ?_)
  refine Lib.hid ?_
  obtain ⟨L18, hL18⟩ : ∃ L : List UInt8, L = L17 ++ quo a0.data.toList := ⟨_, rfl⟩
  have hb18 : Below B w w18 := hb17.trans hbb18
  have hs18 : B ≤ w18.heap.size := by have := hb18.size; omega
  have hl18 : L18.length ≤ 44040376 := by rw [hL18, List.length_append]; have := quo_len a0.data.toList; have h' : (a0.data.toList : List UInt8).length ≤ 1048576 := (by simpa using h0); omega
  have hown18 : w18.ownsRow B 5 1 v18 L18.length (Lib.byteCells L18) := by rw [hL18]; exact hx18
  have HL18 := Lib.hid hL18
  clear hx18 hbb18 hown17 hL18 hs17 hl17 hb17 cc18
  go_wp2_with (at_builtin; refine Lib.wpList_append_own_string _ rfl (.tmp 84) _ 22 9 rfl B 5 i0 Tryd.underlying22 Tryd.underlying9 hi hz0 hz1 hz2 v18 L18.length (Lib.byteCells L18) rfl hown18 ⟨#[44, 34, 118, 34, 58]⟩ rfl (by have : (⟨#[44, 34, 118, 34, 58]⟩ : ByteArray).size = 5 := rfl; unfold maxLen; omega) (by have : (⟨#[44, 34, 118, 34, 58]⟩ : ByteArray).size = 5 := rfl; omega) hs18 ?_)
  intro v19 w19 hx19 hgr19 hnl19
  clear hnl19
  obtain ⟨L19, hL19⟩ : ∃ L : List UInt8, L = L18 ++ [44, 34, 118, 34, 58] := ⟨_, rfl⟩
  have hb19 : Below B w w19 := hb18.grown hgr19 hs18 (fun k hk => (hown18.lt k hk).1)
  have hs19 : B ≤ w19.heap.size := by have := hb19.size; omega
  have hl19 : L19.length ≤ 44040381 := by rw [hL19, List.length_append]; simp only [List.length_cons, List.length_nil]; omega
  have hown19 : w19.ownsRow B 5 1 v19 L19.length (Lib.byteCells L19) := by rw [hL19, Lib.byteCells_append, List.length_append]; exact hx19
  have HL19 := Lib.hid hL19
  clear hx19 hgr19 hown18 hL19 hs18 hl18 hb18
  go_wp2_with (go_at_call 26; refine (HAI.out B L19.length 1 (by decide) (by decide) v19 (Lib.byteCells L19) _ hown19 hs19 (by omega) (HT.out.on hb19)).mono ?_; rintro e w20 ⟨v20, rfl, hx20, hbb20⟩; refine Hid.out ?_)
  refine Lib.hid ?_
  obtain ⟨L20, hL20⟩ : ∃ L : List UInt8, L = L19 ++ Lib.itoa 1 := ⟨_, rfl⟩
  have hb20 : Below B w w20 := hb19.trans hbb20
  have hs20 : B ≤ w20.heap.size := by have := hb20.size; omega
  have hl20 : L20.length ≤ 44040402 := by rw [hL20, List.length_append]; have := Lib.itoa_length_le 1 (by decide) (by decide); omega
  have hown20 : w20.ownsRow B 5 1 v20 L20.length (Lib.byteCells L20) := by rw [hL20, Lib.byteCells_append, List.length_append]; exact hx20
  have HL20 := Lib.hid hL20
  clear hx20 hbb20 hown19 hL20 hs19 hl19 hb19
  go_wp2_with (at_builtin; refine wpList_append_own _ rfl (.tmp 88) (.tmp 89) 22 rfl B 5 i0 (.int .u8 0) 1 1 Tryd.underlying22 hi hz0 hz1 hz2 rfl (by decide) v20 L20.length (Lib.byteCells L20) rfl (hown20.alloc _) ⟨w20.heap.size, 0, none⟩ 1 1 (Lib.byteCells [125]) rfl rfl (cells_new _ _ _) (ones _) (by unfold maxLen; omega) (by omega) (by simp; omega) ?_)
  intro v21 w21 hx21 hgr21 hnl21
  clear hnl21
  have hb21 : Below B w w21 := (hb20.alloc hs20 _).grown hgr21 (by simp; omega) (fun k hk => (hown20.lt k hk).1)
  have hown21 : w21.ownsRow B 5 1 v21 (L20 ++ [125]).length (Lib.byteCells (L20 ++ [125])) := by rw [Lib.byteCells_append, List.length_append]; exact hx21
  clear hx21 hgr21 hown20
  go_wp2
  go_ret
  have eL : L20 ++ [125] = formOf false a0.data.toList n a2.data.toList a3.data.toList a4.data.toList a5.data.toList a6.data.toList a7.data.toList a8.data.toList := by
    rw [HL20.out, HL19.out, HL18.out, HL17.out, HL16.out, HL15.out, HL14.out, HL13.out, HL12.out, HL11.out, HL10.out, HL9.out, HL8.out, HL7.out, HL6.out, HL5.out, HL4.out, HL3.out, HL2.out, HL1.out, HL0.out]
    simp [formOf, formPre, formSuf]
  rw [eL] at hown21
  exact ⟨v21, rfl, hown21, hb21⟩

set_option maxHeartbeats 4000000 in
theorem appendForm_signed (tn : String) (hAI : AppendIntSaid tn) (B g : Nat) (a0 : ByteArray) (n : Int) (a2 a3 a4 a5 a6 a7 a8 : ByteArray) (w : World) (hg : g < B) (hB : B ≤ w.heap.size)
    (h0 : a0.size ≤ 1048576) (h2 : a2.size ≤ 1048576) (h3 : a3.size ≤ 1048576) (h4 : a4.size ≤ 1048576) (h5 : a5.size ≤ 1048576) (h6 : a6.size ≤ 1048576) (h7 : a7.size ≤ 1048576) (h8 : a8.size ≤ 1048576)
    (hn0 : -9223372036854775808 ≤ n) (hn1 : n ≤ 9223372036854775807)
    (hT : Lib.TabBelow Tryd.prog B w tn .u64 Lib.pow10Tab)
    (c0 : w.cell? ⟨g, 0, none⟩ = some (.string a0)) (c1 : w.cell? ⟨g, 1, none⟩ = some (.int .i64 n)) (c2 : w.cell? ⟨g, 2, none⟩ = some (.string a2)) (c3 : w.cell? ⟨g, 3, none⟩ = some (.string a3))
    (c4 : w.cell? ⟨g, 4, none⟩ = some (.string a4)) (c5 : w.cell? ⟨g, 5, none⟩ = some (.string a5)) (c6 : w.cell? ⟨g, 6, none⟩ = some (.string a6)) (c7 : w.cell? ⟨g, 7, none⟩ = some (.string a7)) (c8 : w.cell? ⟨g, 8, none⟩ = some (.string a8)) :
    Calls Tryd.prog 24 #[.pointer (some ⟨g, 0, none⟩), .slice none 0 0, .bool true] w fun e w' => ∃ v', e = .returned v' ∧
      w'.ownsRow B 5 1 v' (formOf true a0.data.toList n a2.data.toList a3.data.toList a4.data.toList a5.data.toList a6.data.toList a7.data.toList a8.data.toList).length
        (Lib.byteCells (formOf true a0.data.toList n a2.data.toList a3.data.toList a4.data.toList a5.data.toList a6.data.toList a7.data.toList a8.data.toList)) ∧ Below B w w' := by
  obtain ⟨i0, hi, hz0, hz1, hz2⟩ := info_parts infoByte
  have C0 := Lib.hid c0; have C1 := Lib.hid c1; have C2 := Lib.hid c2; have C3 := Lib.hid c3; have C4 := Lib.hid c4; have C5 := Lib.hid c5; have C6 := Lib.hid c6; have C7 := Lib.hid c7; have C8 := Lib.hid c8
  have HT := Lib.hid hT
  have HAI := Lib.hid hAI
  clear c0 c1 c2 c3 c4 c5 c6 c7 c8 hT hAI
  have hb0 : Below B w w := Below.refl _ _
  have hs0 : B ≤ w.heap.size := hB
  obtain ⟨L0, hL0⟩ : ∃ L : List UInt8, L = [] := ⟨_, rfl⟩
  have hl0 : L0.length ≤ 0 := by rw [hL0]; simp
  have hown0 : w.ownsRow B 5 1 (.slice none 0 0) L0.length (Lib.byteCells L0) := by rw [hL0]; exact World.ownsRow_nil _ _ _ _
  have HL0 := Lib.hid hL0
  clear hL0
  go_enter Tryd.func24, Tryd.ntmps24
  go_wp2_with (at_builtin; refine Lib.wpList_append_own_string _ rfl (.tmp 7) _ 22 9 rfl B 5 i0 Tryd.underlying22 Tryd.underlying9 hi hz0 hz1 hz2 (.slice none 0 0) L0.length (Lib.byteCells L0) rfl hown0 ⟨#[123, 34, 97, 108, 103, 34, 58]⟩ rfl (by have : (⟨#[123, 34, 97, 108, 103, 34, 58]⟩ : ByteArray).size = 7 := rfl; unfold maxLen; omega) (by have : (⟨#[123, 34, 97, 108, 103, 34, 58]⟩ : ByteArray).size = 7 := rfl; omega) hs0 ?_)
  intro v1 w1 hx1 hgr1 hnl1
  clear hnl1
  obtain ⟨L1, hL1⟩ : ∃ L : List UInt8, L = L0 ++ [123, 34, 97, 108, 103, 34, 58] := ⟨_, rfl⟩
  have hb1 : Below B w w1 := hb0.grown hgr1 hs0 (fun k hk => (hown0.lt k hk).1)
  have hs1 : B ≤ w1.heap.size := by have := hb1.size; omega
  have hl1 : L1.length ≤ 7 := by rw [hL1, List.length_append]; simp only [List.length_cons, List.length_nil]; omega
  have hown1 : w1.ownsRow B 5 1 v1 L1.length (Lib.byteCells L1) := by rw [hL1, Lib.byteCells_append, List.length_append]; exact hx1
  have HL1 := Lib.hid hL1
  clear hx1 hgr1 hown0 hL1 hs0 hl0 hb0
  go_wp2_with (go_at_call 17; refine (AppendString_any B v1 L1 ⟨#[69, 100, 50, 53, 53, 49, 57]⟩ _ hown1 hs1 (by decide) (by omega)).mono ?_; rintro e w2 ⟨v2, rfl, hx2, hbb2⟩; refine Hid.out ?_)
  refine Lib.hid ?_
  obtain ⟨L2, hL2⟩ : ∃ L : List UInt8, L = L1 ++ quo [69, 100, 50, 53, 53, 49, 57] := ⟨_, rfl⟩
  have hb2 : Below B w w2 := hb1.trans hbb2
  have hs2 : B ≤ w2.heap.size := by have := hb2.size; omega
  have hl2 : L2.length ≤ 51 := by rw [hL2, List.length_append]; have := quo_len [69, 100, 50, 53, 53, 49, 57]; have h' : ([69, 100, 50, 53, 53, 49, 57] : List UInt8).length ≤ 7 := (by simp); omega
  have hown2 : w2.ownsRow B 5 1 v2 L2.length (Lib.byteCells L2) := by rw [hL2]; exact hx2
  have HL2 := Lib.hid hL2
  clear hx2 hbb2 hown1 hL2 hs1 hl1 hb1
  go_wp2_with (at_builtin; refine Lib.wpList_append_own_string _ rfl (.tmp 11) _ 22 9 rfl B 5 i0 Tryd.underlying22 Tryd.underlying9 hi hz0 hz1 hz2 v2 L2.length (Lib.byteCells L2) rfl hown2 ⟨#[44, 34, 99, 104, 97, 105, 110, 95, 104, 97, 115, 104, 34, 58]⟩ rfl (by have : (⟨#[44, 34, 99, 104, 97, 105, 110, 95, 104, 97, 115, 104, 34, 58]⟩ : ByteArray).size = 14 := rfl; unfold maxLen; omega) (by have : (⟨#[44, 34, 99, 104, 97, 105, 110, 95, 104, 97, 115, 104, 34, 58]⟩ : ByteArray).size = 14 := rfl; omega) hs2 ?_)
  intro v3 w3 hx3 hgr3 hnl3
  clear hnl3
  obtain ⟨L3, hL3⟩ : ∃ L : List UInt8, L = L2 ++ [44, 34, 99, 104, 97, 105, 110, 95, 104, 97, 115, 104, 34, 58] := ⟨_, rfl⟩
  have hb3 : Below B w w3 := hb2.grown hgr3 hs2 (fun k hk => (hown2.lt k hk).1)
  have hs3 : B ≤ w3.heap.size := by have := hb3.size; omega
  have hl3 : L3.length ≤ 65 := by rw [hL3, List.length_append]; simp only [List.length_cons, List.length_nil]; omega
  have hown3 : w3.ownsRow B 5 1 v3 L3.length (Lib.byteCells L3) := by rw [hL3, Lib.byteCells_append, List.length_append]; exact hx3
  have HL3 := Lib.hid hL3
  clear hx3 hgr3 hown2 hL3 hs2 hl2 hb2
  have cc4 : w3.cell? ⟨g, 4, none⟩ = some (.string a4) := (hb3.cell (p := ⟨g, 4, none⟩) hg).trans C4.out
  go_wp2_with (go_at_call 17; refine (AppendString_any B v3 L3 a4 _ hown3 hs3 h4 (by omega)).mono ?_; rintro e w4 ⟨v4, rfl, hx4, hbb4⟩; refine Hid.out ?_)
  refine Lib.hid ?_
  obtain ⟨L4, hL4⟩ : ∃ L : List UInt8, L = L3 ++ quo a4.data.toList := ⟨_, rfl⟩
  have hb4 : Below B w w4 := hb3.trans hbb4
  have hs4 : B ≤ w4.heap.size := by have := hb4.size; omega
  have hl4 : L4.length ≤ 6291523 := by rw [hL4, List.length_append]; have := quo_len a4.data.toList; have h' : (a4.data.toList : List UInt8).length ≤ 1048576 := (by simpa using h4); omega
  have hown4 : w4.ownsRow B 5 1 v4 L4.length (Lib.byteCells L4) := by rw [hL4]; exact hx4
  have HL4 := Lib.hid hL4
  clear hx4 hbb4 hown3 hL4 hs3 hl3 hb3 cc4
  go_wp2_with (at_builtin; refine Lib.wpList_append_own_string _ rfl (.tmp 19) _ 22 9 rfl B 5 i0 Tryd.underlying22 Tryd.underlying9 hi hz0 hz1 hz2 v4 L4.length (Lib.byteCells L4) rfl hown4 ⟨#[44, 34, 99, 111, 110, 116, 101, 110, 116, 95, 104, 97, 115, 104, 34, 58]⟩ rfl (by have : (⟨#[44, 34, 99, 111, 110, 116, 101, 110, 116, 95, 104, 97, 115, 104, 34, 58]⟩ : ByteArray).size = 16 := rfl; unfold maxLen; omega) (by have : (⟨#[44, 34, 99, 111, 110, 116, 101, 110, 116, 95, 104, 97, 115, 104, 34, 58]⟩ : ByteArray).size = 16 := rfl; omega) hs4 ?_)
  intro v5 w5 hx5 hgr5 hnl5
  clear hnl5
  obtain ⟨L5, hL5⟩ : ∃ L : List UInt8, L = L4 ++ [44, 34, 99, 111, 110, 116, 101, 110, 116, 95, 104, 97, 115, 104, 34, 58] := ⟨_, rfl⟩
  have hb5 : Below B w w5 := hb4.grown hgr5 hs4 (fun k hk => (hown4.lt k hk).1)
  have hs5 : B ≤ w5.heap.size := by have := hb5.size; omega
  have hl5 : L5.length ≤ 6291539 := by rw [hL5, List.length_append]; simp only [List.length_cons, List.length_nil]; omega
  have hown5 : w5.ownsRow B 5 1 v5 L5.length (Lib.byteCells L5) := by rw [hL5, Lib.byteCells_append, List.length_append]; exact hx5
  have HL5 := Lib.hid hL5
  clear hx5 hgr5 hown4 hL5 hs4 hl4 hb4
  have cc6 : w5.cell? ⟨g, 2, none⟩ = some (.string a2) := (hb5.cell (p := ⟨g, 2, none⟩) hg).trans C2.out
  go_wp2_with (go_at_call 17; refine (AppendString_any B v5 L5 a2 _ hown5 hs5 h2 (by omega)).mono ?_; rintro e w6 ⟨v6, rfl, hx6, hbb6⟩; refine Hid.out ?_)
  refine Lib.hid ?_
  obtain ⟨L6, hL6⟩ : ∃ L : List UInt8, L = L5 ++ quo a2.data.toList := ⟨_, rfl⟩
  have hb6 : Below B w w6 := hb5.trans hbb6
  have hs6 : B ≤ w6.heap.size := by have := hb6.size; omega
  have hl6 : L6.length ≤ 12582997 := by rw [hL6, List.length_append]; have := quo_len a2.data.toList; have h' : (a2.data.toList : List UInt8).length ≤ 1048576 := (by simpa using h2); omega
  have hown6 : w6.ownsRow B 5 1 v6 L6.length (Lib.byteCells L6) := by rw [hL6]; exact hx6
  have HL6 := Lib.hid hL6
  clear hx6 hbb6 hown5 hL6 hs5 hl5 hb5 cc6
  go_wp2_with (at_builtin; refine Lib.wpList_append_own_string _ rfl (.tmp 27) _ 22 9 rfl B 5 i0 Tryd.underlying22 Tryd.underlying9 hi hz0 hz1 hz2 v6 L6.length (Lib.byteCells L6) rfl hown6 ⟨#[44, 34, 107, 101, 121, 95, 105, 100, 34, 58]⟩ rfl (by have : (⟨#[44, 34, 107, 101, 121, 95, 105, 100, 34, 58]⟩ : ByteArray).size = 10 := rfl; unfold maxLen; omega) (by have : (⟨#[44, 34, 107, 101, 121, 95, 105, 100, 34, 58]⟩ : ByteArray).size = 10 := rfl; omega) hs6 ?_)
  intro v7 w7 hx7 hgr7 hnl7
  clear hnl7
  obtain ⟨L7, hL7⟩ : ∃ L : List UInt8, L = L6 ++ [44, 34, 107, 101, 121, 95, 105, 100, 34, 58] := ⟨_, rfl⟩
  have hb7 : Below B w w7 := hb6.grown hgr7 hs6 (fun k hk => (hown6.lt k hk).1)
  have hs7 : B ≤ w7.heap.size := by have := hb7.size; omega
  have hl7 : L7.length ≤ 12583007 := by rw [hL7, List.length_append]; simp only [List.length_cons, List.length_nil]; omega
  have hown7 : w7.ownsRow B 5 1 v7 L7.length (Lib.byteCells L7) := by rw [hL7, Lib.byteCells_append, List.length_append]; exact hx7
  have HL7 := Lib.hid hL7
  clear hx7 hgr7 hown6 hL7 hs6 hl6 hb6
  have cc8 : w7.cell? ⟨g, 5, none⟩ = some (.string a5) := (hb7.cell (p := ⟨g, 5, none⟩) hg).trans C5.out
  go_wp2_with (go_at_call 17; refine (AppendString_any B v7 L7 a5 _ hown7 hs7 h5 (by omega)).mono ?_; rintro e w8 ⟨v8, rfl, hx8, hbb8⟩; refine Hid.out ?_)
  refine Lib.hid ?_
  obtain ⟨L8, hL8⟩ : ∃ L : List UInt8, L = L7 ++ quo a5.data.toList := ⟨_, rfl⟩
  have hb8 : Below B w w8 := hb7.trans hbb8
  have hs8 : B ≤ w8.heap.size := by have := hb8.size; omega
  have hl8 : L8.length ≤ 18874465 := by rw [hL8, List.length_append]; have := quo_len a5.data.toList; have h' : (a5.data.toList : List UInt8).length ≤ 1048576 := (by simpa using h5); omega
  have hown8 : w8.ownsRow B 5 1 v8 L8.length (Lib.byteCells L8) := by rw [hL8]; exact hx8
  have HL8 := Lib.hid hL8
  clear hx8 hbb8 hown7 hL8 hs7 hl7 hb7 cc8
  go_wp2_with (at_builtin; refine Lib.wpList_append_own_string _ rfl (.tmp 35) _ 22 9 rfl B 5 i0 Tryd.underlying22 Tryd.underlying9 hi hz0 hz1 hz2 v8 L8.length (Lib.byteCells L8) rfl hown8 ⟨#[44, 34, 110, 111, 110, 99, 101, 34, 58]⟩ rfl (by have : (⟨#[44, 34, 110, 111, 110, 99, 101, 34, 58]⟩ : ByteArray).size = 9 := rfl; unfold maxLen; omega) (by have : (⟨#[44, 34, 110, 111, 110, 99, 101, 34, 58]⟩ : ByteArray).size = 9 := rfl; omega) hs8 ?_)
  intro v9 w9 hx9 hgr9 hnl9
  clear hnl9
  obtain ⟨L9, hL9⟩ : ∃ L : List UInt8, L = L8 ++ [44, 34, 110, 111, 110, 99, 101, 34, 58] := ⟨_, rfl⟩
  have hb9 : Below B w w9 := hb8.grown hgr9 hs8 (fun k hk => (hown8.lt k hk).1)
  have hs9 : B ≤ w9.heap.size := by have := hb9.size; omega
  have hl9 : L9.length ≤ 18874474 := by rw [hL9, List.length_append]; simp only [List.length_cons, List.length_nil]; omega
  have hown9 : w9.ownsRow B 5 1 v9 L9.length (Lib.byteCells L9) := by rw [hL9, Lib.byteCells_append, List.length_append]; exact hx9
  have HL9 := Lib.hid hL9
  clear hx9 hgr9 hown8 hL9 hs8 hl8 hb8
  have cc10 : w9.cell? ⟨g, 6, none⟩ = some (.string a6) := (hb9.cell (p := ⟨g, 6, none⟩) hg).trans C6.out
  go_wp2_with (go_at_call 17; refine (AppendString_any B v9 L9 a6 _ hown9 hs9 h6 (by omega)).mono ?_; rintro e w10 ⟨v10, rfl, hx10, hbb10⟩; refine Hid.out ?_)
  refine Lib.hid ?_
  obtain ⟨L10, hL10⟩ : ∃ L : List UInt8, L = L9 ++ quo a6.data.toList := ⟨_, rfl⟩
  have hb10 : Below B w w10 := hb9.trans hbb10
  have hs10 : B ≤ w10.heap.size := by have := hb10.size; omega
  have hl10 : L10.length ≤ 25165932 := by rw [hL10, List.length_append]; have := quo_len a6.data.toList; have h' : (a6.data.toList : List UInt8).length ≤ 1048576 := (by simpa using h6); omega
  have hown10 : w10.ownsRow B 5 1 v10 L10.length (Lib.byteCells L10) := by rw [hL10]; exact hx10
  have HL10 := Lib.hid hL10
  clear hx10 hbb10 hown9 hL10 hs9 hl9 hb9 cc10
  go_wp2_with (at_builtin; refine Lib.wpList_append_own_string _ rfl (.tmp 43) _ 22 9 rfl B 5 i0 Tryd.underlying22 Tryd.underlying9 hi hz0 hz1 hz2 v10 L10.length (Lib.byteCells L10) rfl hown10 ⟨#[44, 34, 112, 114, 101, 118, 95, 99, 104, 97, 105, 110, 95, 104, 97, 115, 104, 34, 58]⟩ rfl (by have : (⟨#[44, 34, 112, 114, 101, 118, 95, 99, 104, 97, 105, 110, 95, 104, 97, 115, 104, 34, 58]⟩ : ByteArray).size = 19 := rfl; unfold maxLen; omega) (by have : (⟨#[44, 34, 112, 114, 101, 118, 95, 99, 104, 97, 105, 110, 95, 104, 97, 115, 104, 34, 58]⟩ : ByteArray).size = 19 := rfl; omega) hs10 ?_)
  intro v11 w11 hx11 hgr11 hnl11
  clear hnl11
  obtain ⟨L11, hL11⟩ : ∃ L : List UInt8, L = L10 ++ [44, 34, 112, 114, 101, 118, 95, 99, 104, 97, 105, 110, 95, 104, 97, 115, 104, 34, 58] := ⟨_, rfl⟩
  have hb11 : Below B w w11 := hb10.grown hgr11 hs10 (fun k hk => (hown10.lt k hk).1)
  have hs11 : B ≤ w11.heap.size := by have := hb11.size; omega
  have hl11 : L11.length ≤ 25165951 := by rw [hL11, List.length_append]; simp only [List.length_cons, List.length_nil]; omega
  have hown11 : w11.ownsRow B 5 1 v11 L11.length (Lib.byteCells L11) := by rw [hL11, Lib.byteCells_append, List.length_append]; exact hx11
  have HL11 := Lib.hid hL11
  clear hx11 hgr11 hown10 hL11 hs10 hl10 hb10
  have cc12 : w11.cell? ⟨g, 3, none⟩ = some (.string a3) := (hb11.cell (p := ⟨g, 3, none⟩) hg).trans C3.out
  go_wp2_with (go_at_call 17; refine (AppendString_any B v11 L11 a3 _ hown11 hs11 h3 (by omega)).mono ?_; rintro e w12 ⟨v12, rfl, hx12, hbb12⟩; refine Hid.out ?_)
  refine Lib.hid ?_
  obtain ⟨L12, hL12⟩ : ∃ L : List UInt8, L = L11 ++ quo a3.data.toList := ⟨_, rfl⟩
  have hb12 : Below B w w12 := hb11.trans hbb12
  have hs12 : B ≤ w12.heap.size := by have := hb12.size; omega
  have hl12 : L12.length ≤ 31457409 := by rw [hL12, List.length_append]; have := quo_len a3.data.toList; have h' : (a3.data.toList : List UInt8).length ≤ 1048576 := (by simpa using h3); omega
  have hown12 : w12.ownsRow B 5 1 v12 L12.length (Lib.byteCells L12) := by rw [hL12]; exact hx12
  have HL12 := Lib.hid hL12
  clear hx12 hbb12 hown11 hL12 hs11 hl11 hb11 cc12
  go_wp2_with (at_builtin; refine Lib.wpList_append_own_string _ rfl (.tmp 51) _ 22 9 rfl B 5 i0 Tryd.underlying22 Tryd.underlying9 hi hz0 hz1 hz2 v12 L12.length (Lib.byteCells L12) rfl hown12 ⟨#[44, 34, 115, 101, 113, 34, 58]⟩ rfl (by have : (⟨#[44, 34, 115, 101, 113, 34, 58]⟩ : ByteArray).size = 7 := rfl; unfold maxLen; omega) (by have : (⟨#[44, 34, 115, 101, 113, 34, 58]⟩ : ByteArray).size = 7 := rfl; omega) hs12 ?_)
  intro v13 w13 hx13 hgr13 hnl13
  clear hnl13
  obtain ⟨L13, hL13⟩ : ∃ L : List UInt8, L = L12 ++ [44, 34, 115, 101, 113, 34, 58] := ⟨_, rfl⟩
  have hb13 : Below B w w13 := hb12.grown hgr13 hs12 (fun k hk => (hown12.lt k hk).1)
  have hs13 : B ≤ w13.heap.size := by have := hb13.size; omega
  have hl13 : L13.length ≤ 31457416 := by rw [hL13, List.length_append]; simp only [List.length_cons, List.length_nil]; omega
  have hown13 : w13.ownsRow B 5 1 v13 L13.length (Lib.byteCells L13) := by rw [hL13, Lib.byteCells_append, List.length_append]; exact hx13
  have HL13 := Lib.hid hL13
  clear hx13 hgr13 hown12 hL13 hs12 hl12 hb12
  have cc14 : w13.cell? ⟨g, 1, none⟩ = some (.int .i64 n) := (hb13.cell (p := ⟨g, 1, none⟩) hg).trans C1.out
  go_wp2_with (go_at_call 26; refine (HAI.out B L13.length n hn0 hn1 v13 (Lib.byteCells L13) _ hown13 hs13 (by omega) (HT.out.on hb13)).mono ?_; rintro e w14 ⟨v14, rfl, hx14, hbb14⟩; refine Hid.out ?_)
  refine Lib.hid ?_
  obtain ⟨L14, hL14⟩ : ∃ L : List UInt8, L = L13 ++ Lib.itoa n := ⟨_, rfl⟩
  have hb14 : Below B w w14 := hb13.trans hbb14
  have hs14 : B ≤ w14.heap.size := by have := hb14.size; omega
  have hl14 : L14.length ≤ 31457437 := by rw [hL14, List.length_append]; have := Lib.itoa_length_le n hn0 hn1; omega
  have hown14 : w14.ownsRow B 5 1 v14 L14.length (Lib.byteCells L14) := by rw [hL14, Lib.byteCells_append, List.length_append]; exact hx14
  have HL14 := Lib.hid hL14
  clear hx14 hbb14 hown13 hL14 hs13 hl13 hb13 cc14
  go_wp2_with (at_builtin; refine Lib.wpList_append_own_string _ rfl (.tmp 60) _ 22 9 rfl B 5 i0 Tryd.underlying22 Tryd.underlying9 hi hz0 hz1 hz2 v14 L14.length (Lib.byteCells L14) rfl hown14 ⟨#[44, 34, 115, 105, 103, 110, 97, 116, 117, 114, 101, 34, 58]⟩ rfl (by have : (⟨#[44, 34, 115, 105, 103, 110, 97, 116, 117, 114, 101, 34, 58]⟩ : ByteArray).size = 13 := rfl; unfold maxLen; omega) (by have : (⟨#[44, 34, 115, 105, 103, 110, 97, 116, 117, 114, 101, 34, 58]⟩ : ByteArray).size = 13 := rfl; omega) hs14 ?_)
  intro v15 w15 hx15 hgr15 hnl15
  clear hnl15
  obtain ⟨L15, hL15⟩ : ∃ L : List UInt8, L = L14 ++ [44, 34, 115, 105, 103, 110, 97, 116, 117, 114, 101, 34, 58] := ⟨_, rfl⟩
  have hb15 : Below B w w15 := hb14.grown hgr15 hs14 (fun k hk => (hown14.lt k hk).1)
  have hs15 : B ≤ w15.heap.size := by have := hb15.size; omega
  have hl15 : L15.length ≤ 31457450 := by rw [hL15, List.length_append]; simp only [List.length_cons, List.length_nil]; omega
  have hown15 : w15.ownsRow B 5 1 v15 L15.length (Lib.byteCells L15) := by rw [hL15, Lib.byteCells_append, List.length_append]; exact hx15
  have HL15 := Lib.hid hL15
  clear hx15 hgr15 hown14 hL15 hs14 hl14 hb14
  have cc16 : w15.cell? ⟨g, 8, none⟩ = some (.string a8) := (hb15.cell (p := ⟨g, 8, none⟩) hg).trans C8.out
  go_wp2_with (go_at_call 17; refine (AppendString_any B v15 L15 a8 _ hown15 hs15 h8 (by omega)).mono ?_; rintro e w16 ⟨v16, rfl, hx16, hbb16⟩; refine Hid.out ?_)
  refine Lib.hid ?_
  obtain ⟨L16, hL16⟩ : ∃ L : List UInt8, L = L15 ++ quo a8.data.toList := ⟨_, rfl⟩
  have hb16 : Below B w w16 := hb15.trans hbb16
  have hs16 : B ≤ w16.heap.size := by have := hb16.size; omega
  have hl16 : L16.length ≤ 37748908 := by rw [hL16, List.length_append]; have := quo_len a8.data.toList; have h' : (a8.data.toList : List UInt8).length ≤ 1048576 := (by simpa using h8); omega
  have hown16 : w16.ownsRow B 5 1 v16 L16.length (Lib.byteCells L16) := by rw [hL16]; exact hx16
  have HL16 := Lib.hid hL16
  clear hx16 hbb16 hown15 hL16 hs15 hl15 hb15 cc16
  go_wp2_with (at_builtin; refine Lib.wpList_append_own_string _ rfl (.tmp 68) _ 22 9 rfl B 5 i0 Tryd.underlying22 Tryd.underlying9 hi hz0 hz1 hz2 v16 L16.length (Lib.byteCells L16) rfl hown16 ⟨#[44, 34, 115, 105, 103, 110, 101, 100, 95, 97, 116, 34, 58]⟩ rfl (by have : (⟨#[44, 34, 115, 105, 103, 110, 101, 100, 95, 97, 116, 34, 58]⟩ : ByteArray).size = 13 := rfl; unfold maxLen; omega) (by have : (⟨#[44, 34, 115, 105, 103, 110, 101, 100, 95, 97, 116, 34, 58]⟩ : ByteArray).size = 13 := rfl; omega) hs16 ?_)
  intro v17 w17 hx17 hgr17 hnl17
  clear hnl17
  obtain ⟨L17, hL17⟩ : ∃ L : List UInt8, L = L16 ++ [44, 34, 115, 105, 103, 110, 101, 100, 95, 97, 116, 34, 58] := ⟨_, rfl⟩
  have hb17 : Below B w w17 := hb16.grown hgr17 hs16 (fun k hk => (hown16.lt k hk).1)
  have hs17 : B ≤ w17.heap.size := by have := hb17.size; omega
  have hl17 : L17.length ≤ 37748921 := by rw [hL17, List.length_append]; simp only [List.length_cons, List.length_nil]; omega
  have hown17 : w17.ownsRow B 5 1 v17 L17.length (Lib.byteCells L17) := by rw [hL17, Lib.byteCells_append, List.length_append]; exact hx17
  have HL17 := Lib.hid hL17
  clear hx17 hgr17 hown16 hL17 hs16 hl16 hb16
  have cc18 : w17.cell? ⟨g, 7, none⟩ = some (.string a7) := (hb17.cell (p := ⟨g, 7, none⟩) hg).trans C7.out
  go_wp2_with (go_at_call 17; refine (AppendString_any B v17 L17 a7 _ hown17 hs17 h7 (by omega)).mono ?_; rintro e w18 ⟨v18, rfl, hx18, hbb18⟩; refine Hid.out ?_)
  refine Lib.hid ?_
  obtain ⟨L18, hL18⟩ : ∃ L : List UInt8, L = L17 ++ quo a7.data.toList := ⟨_, rfl⟩
  have hb18 : Below B w w18 := hb17.trans hbb18
  have hs18 : B ≤ w18.heap.size := by have := hb18.size; omega
  have hl18 : L18.length ≤ 44040379 := by rw [hL18, List.length_append]; have := quo_len a7.data.toList; have h' : (a7.data.toList : List UInt8).length ≤ 1048576 := (by simpa using h7); omega
  have hown18 : w18.ownsRow B 5 1 v18 L18.length (Lib.byteCells L18) := by rw [hL18]; exact hx18
  have HL18 := Lib.hid hL18
  clear hx18 hbb18 hown17 hL18 hs17 hl17 hb17 cc18
  go_wp2_with (at_builtin; refine Lib.wpList_append_own_string _ rfl (.tmp 76) _ 22 9 rfl B 5 i0 Tryd.underlying22 Tryd.underlying9 hi hz0 hz1 hz2 v18 L18.length (Lib.byteCells L18) rfl hown18 ⟨#[44, 34, 115, 116, 114, 101, 97, 109, 34, 58]⟩ rfl (by have : (⟨#[44, 34, 115, 116, 114, 101, 97, 109, 34, 58]⟩ : ByteArray).size = 10 := rfl; unfold maxLen; omega) (by have : (⟨#[44, 34, 115, 116, 114, 101, 97, 109, 34, 58]⟩ : ByteArray).size = 10 := rfl; omega) hs18 ?_)
  intro v19 w19 hx19 hgr19 hnl19
  clear hnl19
  obtain ⟨L19, hL19⟩ : ∃ L : List UInt8, L = L18 ++ [44, 34, 115, 116, 114, 101, 97, 109, 34, 58] := ⟨_, rfl⟩
  have hb19 : Below B w w19 := hb18.grown hgr19 hs18 (fun k hk => (hown18.lt k hk).1)
  have hs19 : B ≤ w19.heap.size := by have := hb19.size; omega
  have hl19 : L19.length ≤ 44040389 := by rw [hL19, List.length_append]; simp only [List.length_cons, List.length_nil]; omega
  have hown19 : w19.ownsRow B 5 1 v19 L19.length (Lib.byteCells L19) := by rw [hL19, Lib.byteCells_append, List.length_append]; exact hx19
  have HL19 := Lib.hid hL19
  clear hx19 hgr19 hown18 hL19 hs18 hl18 hb18
  have cc20 : w19.cell? ⟨g, 0, none⟩ = some (.string a0) := (hb19.cell (p := ⟨g, 0, none⟩) hg).trans C0.out
  go_wp2_with (go_at_call 17; refine (AppendString_any B v19 L19 a0 _ hown19 hs19 h0 (by omega)).mono ?_; rintro e w20 ⟨v20, rfl, hx20, hbb20⟩; refine Hid.out ?_)
  refine Lib.hid ?_
  obtain ⟨L20, hL20⟩ : ∃ L : List UInt8, L = L19 ++ quo a0.data.toList := ⟨_, rfl⟩
  have hb20 : Below B w w20 := hb19.trans hbb20
  have hs20 : B ≤ w20.heap.size := by have := hb20.size; omega
  have hl20 : L20.length ≤ 50331847 := by rw [hL20, List.length_append]; have := quo_len a0.data.toList; have h' : (a0.data.toList : List UInt8).length ≤ 1048576 := (by simpa using h0); omega
  have hown20 : w20.ownsRow B 5 1 v20 L20.length (Lib.byteCells L20) := by rw [hL20]; exact hx20
  have HL20 := Lib.hid hL20
  clear hx20 hbb20 hown19 hL20 hs19 hl19 hb19 cc20
  go_wp2_with (at_builtin; refine Lib.wpList_append_own_string _ rfl (.tmp 84) _ 22 9 rfl B 5 i0 Tryd.underlying22 Tryd.underlying9 hi hz0 hz1 hz2 v20 L20.length (Lib.byteCells L20) rfl hown20 ⟨#[44, 34, 118, 34, 58]⟩ rfl (by have : (⟨#[44, 34, 118, 34, 58]⟩ : ByteArray).size = 5 := rfl; unfold maxLen; omega) (by have : (⟨#[44, 34, 118, 34, 58]⟩ : ByteArray).size = 5 := rfl; omega) hs20 ?_)
  intro v21 w21 hx21 hgr21 hnl21
  clear hnl21
  obtain ⟨L21, hL21⟩ : ∃ L : List UInt8, L = L20 ++ [44, 34, 118, 34, 58] := ⟨_, rfl⟩
  have hb21 : Below B w w21 := hb20.grown hgr21 hs20 (fun k hk => (hown20.lt k hk).1)
  have hs21 : B ≤ w21.heap.size := by have := hb21.size; omega
  have hl21 : L21.length ≤ 50331852 := by rw [hL21, List.length_append]; simp only [List.length_cons, List.length_nil]; omega
  have hown21 : w21.ownsRow B 5 1 v21 L21.length (Lib.byteCells L21) := by rw [hL21, Lib.byteCells_append, List.length_append]; exact hx21
  have HL21 := Lib.hid hL21
  clear hx21 hgr21 hown20 hL21 hs20 hl20 hb20
  go_wp2_with (go_at_call 26; refine (HAI.out B L21.length 1 (by decide) (by decide) v21 (Lib.byteCells L21) _ hown21 hs21 (by omega) (HT.out.on hb21)).mono ?_; rintro e w22 ⟨v22, rfl, hx22, hbb22⟩; refine Hid.out ?_)
  refine Lib.hid ?_
  obtain ⟨L22, hL22⟩ : ∃ L : List UInt8, L = L21 ++ Lib.itoa 1 := ⟨_, rfl⟩
  have hb22 : Below B w w22 := hb21.trans hbb22
  have hs22 : B ≤ w22.heap.size := by have := hb22.size; omega
  have hl22 : L22.length ≤ 50331873 := by rw [hL22, List.length_append]; have := Lib.itoa_length_le 1 (by decide) (by decide); omega
  have hown22 : w22.ownsRow B 5 1 v22 L22.length (Lib.byteCells L22) := by rw [hL22, Lib.byteCells_append, List.length_append]; exact hx22
  have HL22 := Lib.hid hL22
  clear hx22 hbb22 hown21 hL22 hs21 hl21 hb21
  go_wp2_with (at_builtin; refine wpList_append_own _ rfl (.tmp 88) (.tmp 89) 22 rfl B 5 i0 (.int .u8 0) 1 1 Tryd.underlying22 hi hz0 hz1 hz2 rfl (by decide) v22 L22.length (Lib.byteCells L22) rfl (hown22.alloc _) ⟨w22.heap.size, 0, none⟩ 1 1 (Lib.byteCells [125]) rfl rfl (cells_new _ _ _) (ones _) (by unfold maxLen; omega) (by omega) (by simp; omega) ?_)
  intro v23 w23 hx23 hgr23 hnl23
  clear hnl23
  have hb23 : Below B w w23 := (hb22.alloc hs22 _).grown hgr23 (by simp; omega) (fun k hk => (hown22.lt k hk).1)
  have hown23 : w23.ownsRow B 5 1 v23 (L22 ++ [125]).length (Lib.byteCells (L22 ++ [125])) := by rw [Lib.byteCells_append, List.length_append]; exact hx23
  clear hx23 hgr23 hown22
  go_wp2
  go_ret
  have eL : L22 ++ [125] = formOf true a0.data.toList n a2.data.toList a3.data.toList a4.data.toList a5.data.toList a6.data.toList a7.data.toList a8.data.toList := by
    rw [HL22.out, HL21.out, HL20.out, HL19.out, HL18.out, HL17.out, HL16.out, HL15.out, HL14.out, HL13.out, HL12.out, HL11.out, HL10.out, HL9.out, HL8.out, HL7.out, HL6.out, HL5.out, HL4.out, HL3.out, HL2.out, HL1.out, HL0.out]
    simp [formOf, formPre, formSuf, formSig]
  rw [eL] at hown23
  exact ⟨v23, rfl, hown23, hb23⟩

/-- seal.ZZAppendForm onto nil. -/
theorem zzAppendForm_any (tn : String) (hAI : AppendIntSaid tn) (sg : Bool) (B g : Nat) (a0 : ByteArray) (n : Int) (a2 a3 a4 a5 a6 a7 a8 : ByteArray) (w : World) (hg : g < B) (hB : B ≤ w.heap.size)
    (h0 : a0.size ≤ 1048576) (h2 : a2.size ≤ 1048576) (h3 : a3.size ≤ 1048576) (h4 : a4.size ≤ 1048576) (h5 : a5.size ≤ 1048576) (h6 : a6.size ≤ 1048576) (h7 : a7.size ≤ 1048576) (h8 : a8.size ≤ 1048576)
    (hn0 : -9223372036854775808 ≤ n) (hn1 : n ≤ 9223372036854775807)
    (hT : Lib.TabBelow Tryd.prog B w tn .u64 Lib.pow10Tab)
    (hc : w.heap[g]? = some (.cells #[.string a0, .int .i64 n, .string a2, .string a3, .string a4, .string a5, .string a6, .string a7, .string a8] 43)) :
    Calls Tryd.prog 13 #[.pointer (some ⟨g, 0, none⟩), .slice none 0 0, .bool sg] w fun e w' => ∃ v', e = .returned v' ∧
      w'.ownsRow B 5 1 v' (formOf sg a0.data.toList n a2.data.toList a3.data.toList a4.data.toList a5.data.toList a6.data.toList a7.data.toList a8.data.toList).length
        (Lib.byteCells (formOf sg a0.data.toList n a2.data.toList a3.data.toList a4.data.toList a5.data.toList a6.data.toList a7.data.toList a8.data.toList)) ∧ Below B w w' := by
  have cc : ∀ j, w.cell? ⟨g, j, none⟩ = #[Value.string a0, .int .i64 n, .string a2, .string a3, .string a4, .string a5, .string a6, .string a7, .string a8][j]? := fun j => cell_of_row w g j _ 43 _ hc
  cases sg
  · have H := Lib.hid (appendForm_plain tn hAI B g a0 n a2 a3 a4 a5 a6 a7 a8 w hg hB h0 h2 h3 h4 h5 h6 h7 h8 hn0 hn1 hT (cc 0) (cc 1) (cc 2) (cc 3) (cc 4) (cc 5) (cc 6) (cc 7) (cc 8))
    clear hc cc hT hAI
    go_enter Tryd.func13, Tryd.ntmps13
    go_wp2_with (go_at_call 24; refine (H.out).mono ?_; rintro e w1 ⟨v1, rfl, hown1, hnx1⟩)
    go_ret
    exact ⟨v1, rfl, hown1, hnx1⟩
  · have H := Lib.hid (appendForm_signed tn hAI B g a0 n a2 a3 a4 a5 a6 a7 a8 w hg hB h0 h2 h3 h4 h5 h6 h7 h8 hn0 hn1 hT (cc 0) (cc 1) (cc 2) (cc 3) (cc 4) (cc 5) (cc 6) (cc 7) (cc 8))
    clear hc cc hT hAI
    go_enter Tryd.func13, Tryd.ntmps13
    go_wp2_with (go_at_call 24; refine (H.out).mono ?_; rintro e w1 ⟨v1, rfl, hown1, hnx1⟩)
    go_ret
    exact ⟨v1, rfl, hown1, hnx1⟩

end Go.Proofs.Qxb6600084aDoor
