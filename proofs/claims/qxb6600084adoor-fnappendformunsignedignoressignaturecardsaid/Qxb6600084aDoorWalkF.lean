/-
  DERIVED. Seat b6600084aD: the law's walk.
-/
import Derived.Test.Qxb6600084aDoorWalkA
import Derived.Test.Qxb6600084aDoorWalkC
import Derived.Test.Qxb6600084aDoorWalkD
import Derived.Test.Qxb6600084aDoorWalkE
import Derived.Test.Qxb6600084aDoorLists
import Derived.Lib.SlBytesConst
namespace Go.Proofs.Qxb6600084aDoor
open Go.RowKit
set_option linter.unusedVariables false

theorem box9 {w : World} {g T : Nat} {c0 c1 c2 c3 c4 c5 c6 c7 c8 : Value} (h : w.heap[g]? = some (.cells #[c0, c1, c2, c3, c4, c5, c6, c7, c8] T)) :
    w.cell? ⟨g, 0, none⟩ = some c0 ∧ w.cell? ⟨g, 1, none⟩ = some c1 ∧ w.cell? ⟨g, 2, none⟩ = some c2 ∧ w.cell? ⟨g, 3, none⟩ = some c3 ∧ w.cell? ⟨g, 4, none⟩ = some c4 ∧ w.cell? ⟨g, 5, none⟩ = some c5 ∧ w.cell? ⟨g, 6, none⟩ = some c6 ∧ w.cell? ⟨g, 7, none⟩ = some c7 ∧ w.cell? ⟨g, 8, none⟩ = some c8 := by
  refine ⟨?_, ?_, ?_, ?_, ?_, ?_, ?_, ?_, ?_⟩ <;> exact cell_of_row w g _ _ T _ h

theorem toSeal_some (a0 : ByteArray) (n : Int) (a2 a3 a4 a5 a6 a7 a8 : ByteArray) (w : World) :
    Calls Tryd.prog 14 #[.agg #[.string a0, .int .i64 n, .string a2, .string a3, .string a4, .string a5, .string a6, .string a7, .string a8]] w fun e w' =>
      ∃ g, e = .returned (.pointer (some ⟨g, 0, none⟩)) ∧ g < w'.heap.size ∧ w'.heap[g]? = some (.cells #[.string a0, .int .i64 n, .string a2, .string a3, .string a4, .string a5, .string a6, .string a7, .string a8] 43) ∧ Below w.heap.size w w' := by
  refine (toSeal_any a0 n a2 a3 a4 a5 a6 a7 a8 w).mono ?_
  rintro e w' ⟨rfl, rfl⟩
  refine ⟨w.heap.size + 1, rfl, by simp, ?_, ((Below.refl _ _).alloc (Nat.le_refl _) _).alloc (by simp) _⟩
  have := heap_alloc_new (w.alloc (.cells #[.string a0, .int .i64 n, .string a2, .string a3, .string a4, .string a5, .string a6, .string a7, .string a8] 25)) (.cells #[.string a0, .int .i64 n, .string a2, .string a3, .string a4, .string a5, .string a6, .string a7, .string a8] 43)
  simpa using this

theorem tab_on {B B' : Nat} {w w' : World} {tn : String} (h : Lib.TabBelow Tryd.prog B w tn .u64 Lib.pow10Tab) (hb : Below B w w') (hB : B ≤ B') : Lib.TabBelow Tryd.prog B' w' tn .u64 Lib.pow10Tab :=
  fun w2 h2 => h w2 (hb.trans (h2.mono hB))

theorem row_form {w : World} {B : Nat} {v : Value} {l : List UInt8} (h : w.ownsRow B 5 1 v l.length (Lib.byteCells l)) (hl : 0 < l.length) :
    ∃ g cap, v = .slice (some ⟨g, 0, none⟩) l.length cap ∧ g < w.heap.size ∧ ∀ j, j < l.length → w.cell? ⟨g, j, none⟩ = some (.int .u8 ((l.getD j 0).toNat : Int)) := by
  rcases h.2 with ⟨_, h0⟩ | ⟨g, cap, cur, hv, hb, hh, r⟩
  · omega
  · refine ⟨g, cap, hv, (Array.getElem?_eq_some_iff.1 hh).1, fun j hj => ?_⟩
    have hc := h.cells (g := g) (by rw [hv]; rfl) j (.int .u8 ((l.getD j 0).toNat : Int)) (by simp [Lib.byteCells, List.getElem?_map, List.getD_eq_getElem?_getD, List.getElem?_eq_getElem hj])
    have hadd : (⟨g, 0, none⟩ : Addr).add j = ⟨g, j, none⟩ := by unfold Addr.add; split <;> simp_all
    rw [hadd] at hc
    exact hc

theorem row_on {B : Nat} {w w' : World} {g : Nat} {l : List UInt8} (h : ∀ j, j < l.length → w.cell? ⟨g, j, none⟩ = some (.int .u8 ((l.getD j 0).toNat : Int))) (hb : Below B w w') (hg : g < B) :
    ∀ j, j < l.length → w'.cell? ⟨g, j, none⟩ = some (.int .u8 ((l.getD j 0).toNat : Int)) := fun j hj => (hb.cell (p := ⟨g, j, none⟩) hg).trans (h j hj)

theorem formPre_len (n : Int) (a2 a3 a4 a5 a6 : List UInt8) (hn0 : -9223372036854775808 ≤ n) (hn1 : n ≤ 9223372036854775807)
    (h2 : a2.length ≤ 1048576) (h3 : a3.length ≤ 1048576) (h4 : a4.length ≤ 1048576) (h5 : a5.length ≤ 1048576) (h6 : a6.length ≤ 1048576) : 0 < (formPre n a2 a3 a4 a5 a6).length ∧ (formPre n a2 a3 a4 a5 a6).length ≤ 40000000 := by
  have e2 := quo_len a2
  have e3 := quo_len a3
  have e4 := quo_len a4
  have e5 := quo_len a5
  have e6 := quo_len a6
  have e7 := Lib.itoa_length_le n hn0 hn1
  have e8 := quo_len [69, 100, 50, 53, 53, 49, 57]
  unfold formPre
  simp only [List.length_append, List.length_cons, List.length_nil] at e8 ⊢
  omega

theorem formSuf_len (a0 a7 : List UInt8) (h0 : a0.length ≤ 1048576) (h7 : a7.length ≤ 1048576) : (formSuf a0 a7).length ≤ 20000000 := by
  have e2 := quo_len a0
  have e3 := quo_len a7
  have e7 := Lib.itoa_length_le 1 (by decide) (by decide)
  unfold formSuf
  simp only [List.length_append, List.length_cons, List.length_nil]
  omega

theorem formSig_len (a8 : List UInt8) (h8 : a8.length ≤ 1048576) : 0 < (formSig a8).length ∧ (formSig a8).length ≤ 10000000 := by
  have e2 := quo_len a8
  unfold formSig
  simp only [List.length_append, List.length_cons, List.length_nil]
  omega

theorem bytesEqual_below (g1 g2 n c1 c2 : Nat) (l : List UInt8) (w : World) (hl : l.length = n) (hn : n ≤ 1000000000)
    (h1 : ∀ j, j < l.length → w.cell? ⟨g1, j, none⟩ = some (.int .u8 ((l.getD j 0).toNat : Int))) (h2 : ∀ j, j < l.length → w.cell? ⟨g2, j, none⟩ = some (.int .u8 ((l.getD j 0).toNat : Int))) :
    Calls Tryd.prog 16 #[.slice (some ⟨g1, 0, none⟩) n c1, .slice (some ⟨g2, 0, none⟩) n c2] w fun e w' => e = .returned (.bool true) ∧ Below w.heap.size w w' := by
  refine (bytesEqual_same g1 g2 n c1 c2 l w hl hn h1 h2).mono ?_
  rintro e w' ⟨rfl, q, rfl⟩
  exact ⟨rfl, rfl, rfl, rfl, Nat.le_refl _, fun _ _ => rfl⟩

set_option maxHeartbeats 4000000 in
theorem law_walk (tn : String) (hAI : AppendIntSaid tn) (a0 : ByteArray) (n : Int) (a2 a3 a4 a5 a6 a7 a8 t : ByteArray) (w : World)
    (h0 : a0.size ≤ maxLen) (h2 : a2.size ≤ maxLen) (h3 : a3.size ≤ maxLen) (h4 : a4.size ≤ maxLen) (h5 : a5.size ≤ maxLen) (h6 : a6.size ≤ maxLen) (h7 : a7.size ≤ maxLen) (h8 : a8.size ≤ maxLen) (ht : t.size ≤ maxLen)
    (hn0 : -9223372036854775808 ≤ n) (hn1 : n ≤ 9223372036854775807)
    (hT : Lib.TabBelow Tryd.prog w.heap.size w tn .u64 Lib.pow10Tab) :
    Calls Tryd.prog 4 #[.agg #[.string a0, .int .i64 n, .string a2, .string a3, .string a4, .string a5, .string a6, .string a7, .string a8], .string t] w fun e w' =>
      e = .returned (.bool true) ∧ Below w.heap.size w w' := by
  have HT := Lib.hid hT
  have HAI := Lib.hid hAI
  clear hT hAI
  go_enter Tryd.func4, Tryd.ntmps4
  go_wp2_with (go_at_call 15; refine (bytes_any a0 n a2 a3 a4 a5 a6 a7 a8 t _ h0 h2 h3 h4 h5 h6 h7 h8 ht).mono ?_; rintro e w1 ⟨⟨b, rfl, hbd⟩, hb1⟩; refine Hid.out ?_)
  refine Lib.hid ?_
  have hB1 : Below w.heap.size w w1 := ((Below.refl _ w).alloc (Nat.le_refl _) _).trans (hb1.mono (by simp))
  have hbox1 : w1.heap[w.heap.size]? = some (.cells #[.string a0, .int .i64 n, .string a2, .string a3, .string a4, .string a5, .string a6, .string a7, .string a8] 25) := by
    rw [hb1.block _ (by simp)]; exact heap_alloc_new w _
  have hsz1 : w.heap.size < w1.heap.size := by have := hb1.size; simp at this; omega
  clear hb1
  cases b
  · clear hbox1 hbd
    go_wp2
    go_ret
    exact ⟨rfl, hB1⟩
  have hsum := hbd rfl
  have hd1 : (decide ((1048576 : Int) < (t.size : Int))) = false := by simp; omega
  clear hbd h0 h2 h3 h4 h5 h6 h7 h8 ht
  have h0 : a0.size ≤ 1048576 := by omega
  have h2 : a2.size ≤ 1048576 := by omega
  have h3 : a3.size ≤ 1048576 := by omega
  have h4 : a4.size ≤ 1048576 := by omega
  have h5 : a5.size ≤ 1048576 := by omega
  have h6 : a6.size ≤ 1048576 := by omega
  have h7 : a7.size ≤ 1048576 := by omega
  have h8 : a8.size ≤ 1048576 := by omega
  obtain ⟨k0, k1, k2, k3, k4, k5, k6, k7, k8⟩ := box9 hbox1
  go_wp2_with (go_at_call 9; refine (tooBig_any a0 n a2 a3 a4 a5 a6 a7 a8 _ (by omega)).mono ?_; rintro e w2 ⟨rfl, hb2⟩; refine Hid.out ?_)
  refine Lib.hid ?_
  clear k0 k1 k2 k3 k4 k5 k6 k7 k8
  have hB2 : Below w.heap.size w w2 := hB1.trans (hb2.mono (by omega))
  have hbox2 := (hb2.block _ hsz1).trans hbox1
  have hsz2 : w.heap.size < w2.heap.size := by have := hb2.size; omega
  clear hbox1 hb2 hB1 hsz1
  obtain ⟨k0, k1, k2, k3, k4, k5, k6, k7, k8⟩ := box9 hbox2
  go_wp2_with (go_at_call 10; refine (sealBytes_any a0 n a2 a3 a4 a5 a6 a7 a8 _ (by omega)).mono ?_; rintro e w3 ⟨⟨m, rfl, hm⟩, hb3⟩; refine Hid.out ?_)
  refine Lib.hid ?_
  clear k0 k1 k2 k3 k4 k5 k6 k7 k8
  have hB3 : Below w.heap.size w w3 := hB2.trans (hb3.mono (by omega))
  have hbox3 := (hb3.block _ hsz2).trans hbox2
  have hsz3 : w.heap.size < w3.heap.size := by have := hb3.size; omega
  clear hbox2 hb3 hB2 hsz2
  have hm1 : m + t.size ≤ 1048576 := by omega
  have hd2 : (decide ((1048576 : Int) < (m : Int) + (t.size : Int))) = false := by simp; omega
  clear hm
  obtain ⟨k0, k1, k2, k3, k4, k5, k6, k7, k8⟩ := box9 hbox3
  go_wp2_with (go_at_call 14; refine (toSeal_some a0 n a2 a3 a4 a5 a6 a7 a8 _).mono ?_; rintro e w4 ⟨g4, rfl, hg4, hc4, hb4⟩; refine Hid.out ?_)
  refine Lib.hid ?_
  clear k0 k1 k2 k3 k4 k5 k6 k7 k8
  have hB4 : Below w.heap.size w w4 := (hB3.alloc (by omega) _).trans (hb4.mono (by simp; omega))
  have hbox4 : w4.heap[w.heap.size]? = some (.cells #[.string a0, .int .i64 n, .string a2, .string a3, .string a4, .string a5, .string a6, .string a7, .string a8] 25) := by rw [hb4.block _ (by simp; omega), Below.heap_alloc _ _ _ hsz3]; exact hbox3
  have hboy4 : w4.heap[w3.heap.size]? = some (.cells #[.string a0, .int .i64 n, .string a2, .string a3, .string a4, .string a5, .string a6, .string a7, .string t] 25) := by rw [hb4.block _ (by simp)]; exact heap_alloc_new w3 _
  have hsz4 : w.heap.size < w4.heap.size := by have := hb4.size; simp at this; omega
  have hsy4 : w3.heap.size < w4.heap.size := by have := hb4.size; simp at this; omega
  clear hb4 hbox3 hB3
  go_wp2_with (go_at_call 13; refine (zzAppendForm_any tn HAI.out false w4.heap.size g4 a0 n a2 a3 a4 a5 a6 a7 a8 _ hg4 (Nat.le_refl _) h0 h2 h3 h4 h5 h6 h7 h8 hn0 hn1 (tab_on HT.out hB4 (by omega)) hc4).mono ?_; rintro e w5 ⟨v5, rfl, hown5, hb5⟩; refine Hid.out ?_)
  refine Lib.hid ?_
  rw [formOf_false] at hown5
  obtain ⟨P, hP⟩ : ∃ P, P = formPre n a2.data.toList a3.data.toList a4.data.toList a5.data.toList a6.data.toList := ⟨_, rfl⟩
  obtain ⟨S, hS⟩ : ∃ S, S = formSuf a0.data.toList a7.data.toList := ⟨_, rfl⟩
  obtain ⟨I, hI⟩ : ∃ I, I = formSig a8.data.toList := ⟨_, rfl⟩
  have lP : 0 < P.length ∧ P.length ≤ 40000000 := by rw [hP]; exact formPre_len _ _ _ _ _ _ hn0 hn1 (by simpa using h2) (by simpa using h3) (by simpa using h4) (by simpa using h5) (by simpa using h6)
  have lS : S.length ≤ 20000000 := by rw [hS]; exact formSuf_len _ _ (by simpa using h0) (by simpa using h7)
  have lI : 0 < I.length ∧ I.length ≤ 10000000 := by rw [hI]; exact formSig_len _ (by simpa using h8)
  have eP : ∃ l d, P = l ++ [d] ∧ d ≠ 34 := by rw [hP]; exact pre_last _ _ _ _ _ _
  have eI : ∃ l, I = l ++ [34] := by rw [hI]; exact sig_last _
  have EP := Lib.hid eP
  have EI := Lib.hid eI
  rw [← hP, ← hS] at hown5
  have HP := Lib.hid hP
  have HS := Lib.hid hS
  have HI := Lib.hid hI
  clear hP hS hI eP eI
  obtain ⟨g5, cap5, hv5, hg5, hr5⟩ := row_form hown5 (by simp; omega)
  have hB5 : Below w.heap.size w w5 := hB4.trans (hb5.mono (by omega))
  have hbox5 := (hb5.block _ hsz4).trans hbox4
  have hboy5 := (hb5.block _ hsy4).trans hboy4
  have hsz5 : w.heap.size < w5.heap.size := by have := hb5.size; omega
  have hsy5 : w3.heap.size < w5.heap.size := by have := hb5.size; omega
  clear hown5 hb5 hbox4 hboy4 hB4 hg4 hc4 hsz4 hsy4
  obtain ⟨u, hu⟩ : ∃ u, u = (P ++ S).length := ⟨_, rfl⟩
  have hu1 : u = P.length + S.length := by rw [hu, List.length_append]
  rw [← hu] at hv5
  have HU := Lib.hid hu
  clear hu
  have HU1 := Lib.hid hu1
  have hub : u ≤ 100000000 := by omega
  clear hu1
  rw [hv5]
  clear hv5
  have HR := Lib.hid hr5
  clear hr5
  obtain ⟨k0, k1, k2, k3, k4, k5, k6, k7, k8⟩ := box9 hboy5
  have HBX := Lib.hid hbox5
  clear hbox5 hboy5
  go_wp2_with (go_at_call 14; refine (toSeal_some a0 n a2 a3 a4 a5 a6 a7 t _).mono ?_; rintro e w6 ⟨g6, rfl, hg6, hc6, hb6⟩; refine Hid.out ?_)
  refine Lib.hid ?_
  clear k0 k1 k2 k3 k4 k5 k6 k7 k8
  have hB6 : Below w.heap.size w w6 := hB5.trans (hb6.mono (by omega))
  have hbox6 := (hb6.block _ hsz5).trans HBX.out
  have hsz6 : w.heap.size < w6.heap.size := by have := hb6.size; omega
  have hr6 := row_on HR.out hb6 hg5
  have hg56 : g5 < w6.heap.size := by have := hb6.size; omega
  clear HR HBX hb6 hB5 hsz5 hsy5
  have HR := Lib.hid hr6
  have HBX := Lib.hid hbox6
  clear hr6 hbox6
  have htt : t.size ≤ 1048576 := by omega
  go_wp2_with (go_at_call 13; refine (zzAppendForm_any tn HAI.out false w6.heap.size g6 a0 n a2 a3 a4 a5 a6 a7 t _ hg6 (Nat.le_refl _) h0 h2 h3 h4 h5 h6 h7 htt hn0 hn1 (tab_on HT.out hB6 (by omega)) hc6).mono ?_; rintro e w7 ⟨v7, rfl, hown7, hb7⟩; refine Hid.out ?_)
  refine Lib.hid ?_
  rw [formOf_false, ← HP.out, ← HS.out] at hown7
  obtain ⟨g7, cap7, hv7, hg7, hr7⟩ := row_form hown7 (by simp; omega)
  have hB7 : Below w.heap.size w w7 := hB6.trans (hb7.mono (by omega))
  have hbox7 := (hb7.block _ hsz6).trans HBX.out
  have hsz7 : w.heap.size < w7.heap.size := by have := hb7.size; omega
  have hr57 := row_on HR.out hb7 hg56
  have hg57 : g5 < w7.heap.size := by have := hb7.size; omega
  clear HR HBX hown7 hb7 hB6 hg6 hc6 hsz6 hg56 hg5
  rw [← HU.out] at hv7
  rw [hv7]
  clear hv7
  have HR := Lib.hid hr57
  have HBX := Lib.hid hbox7
  have HR7 := Lib.hid hr7
  clear hr57 hbox7 hr7
  go_wp2_with (go_at_call 16; refine (bytesEqual_below g5 g7 u cap5 cap7 (P ++ S) _ HU.out.symm (by omega) HR.out HR7.out).mono ?_; rintro e w8 ⟨rfl, hb8⟩; refine Hid.out ?_)
  refine Lib.hid ?_
  clear HR7
  have hB8 : Below w.heap.size w w8 := hB7.trans (hb8.mono (by omega))
  have hbox8 := (hb8.block _ hsz7).trans HBX.out
  have hsz8 : w.heap.size < w8.heap.size := by have := hb8.size; omega
  have hr58 := row_on HR.out hb8 hg57
  have hg58 : g5 < w8.heap.size := by have := hb8.size; omega
  clear HR HBX hb8 hB7 hsz7 hg57 hg7
  obtain ⟨k0, k1, k2, k3, k4, k5, k6, k7, k8⟩ := box9 hbox8
  have HR := Lib.hid hr58
  have HBX := Lib.hid hbox8
  clear hr58 hbox8
  go_wp2_with (go_at_call 14; refine (toSeal_some a0 n a2 a3 a4 a5 a6 a7 a8 _).mono ?_; rintro e w9 ⟨g9, rfl, hg9, hc9, hb9⟩; refine Hid.out ?_)
  refine Lib.hid ?_
  clear k0 k1 k2 k3 k4 k5 k6 k7 k8
  have hB9 : Below w.heap.size w w9 := hB8.trans (hb9.mono (by omega))
  have hbox9 := (hb9.block _ hsz8).trans HBX.out
  have hsz9 : w.heap.size < w9.heap.size := by have := hb9.size; omega
  have hr59 := row_on HR.out hb9 hg58
  have hg59 : g5 < w9.heap.size := by have := hb9.size; omega
  clear HR HBX hb9 hB8 hsz8 hg58
  have HR := Lib.hid hr59
  have HBX := Lib.hid hbox9
  clear hr59 hbox9
  go_wp2_with (go_at_call 13; refine (zzAppendForm_any tn HAI.out true w9.heap.size g9 a0 n a2 a3 a4 a5 a6 a7 a8 _ hg9 (Nat.le_refl _) h0 h2 h3 h4 h5 h6 h7 h8 hn0 hn1 (tab_on HT.out hB9 (by omega)) hc9).mono ?_; rintro e w10 ⟨v10, rfl, hown10, hb10⟩; refine Hid.out ?_)
  refine Lib.hid ?_
  rw [formOf_true, ← HP.out, ← HS.out, ← HI.out] at hown10
  obtain ⟨g10, cap10, hv10, hg10, hr10⟩ := row_form hown10 (by simp; omega)
  obtain ⟨u2, hu2⟩ : ∃ u, u = (P ++ I ++ S).length := ⟨_, rfl⟩
  have hu3 : u2 = P.length + I.length + S.length := by rw [hu2, List.length_append, List.length_append]
  rw [← hu2] at hv10
  have HU2 := Lib.hid hu2
  clear hu2
  have HU3 := Lib.hid hu3
  have hub2 : u2 ≤ 100000000 := by omega
  clear hu3
  have hB10 : Below w.heap.size w w10 := hB9.trans (hb10.mono (by omega))
  have hbox10 := (hb10.block _ hsz9).trans HBX.out
  have hsz10 : w.heap.size < w10.heap.size := by have := hb10.size; omega
  have hr510 := row_on HR.out hb10 hg59
  have hg510 : g5 < w10.heap.size := by have := hb10.size; omega
  clear HR HBX hown10 hb10 hB9 hg9 hc9 hsz9 hg59
  rw [hv10]
  clear hv10
  obtain ⟨k0, k1, k2, k3, k4, k5, k6, k7, k8⟩ := box9 hbox10
  clear hbox10 k0 k1 k2 k3 k4 k5 k6 k7
  have HR := Lib.hid hr510
  have HR10 := Lib.hid hr10
  clear hr510 hr10
  have kc := fun (w : World) (C : Array Value) (n c : Nat) => Lib.run_convert_bytes_const (P := Tryd.prog) w 22 5 C n c Tryd.underlying22 Tryd.underlying5
  have hold : ∀ j u, (Lib.byteCells [44, 34, 115, 105, 103, 110, 97, 116, 117, 114, 101, 34, 58])[j]? = some u → (w10.alloc (.cells #[.int .u8 44, .int .u8 34, .int .u8 115, .int .u8 105, .int .u8 103, .int .u8 110, .int .u8 97, .int .u8 116, .int .u8 117, .int .u8 114, .int .u8 101, .int .u8 34, .int .u8 58] 5 (13, 14))).cell? ((⟨w10.heap.size, 0, none⟩ : Addr).add j) = some u := by
    intro j u hu
    have hadd : (⟨w10.heap.size, 0, none⟩ : Addr).add j = ⟨w10.heap.size, j, none⟩ := by unfold Addr.add; split <;> simp_all
    rw [hadd, World.cell?_alloc_mark]
    simpa [Lib.byteCells] using hu
  have HO := Lib.hid hold
  clear hold
  go_wp2_with (go_at_call 17; refine (AppendString_full w10.heap.size w10.heap.size [44, 34, 115, 105, 103, 110, 97, 116, 117, 114, 101, 34, 58] a8 _ HO.out (by simp) (by simp) h8 (by decide)).mono ?_; rintro e w11 ⟨v11, rfl, hown11, hb11⟩; refine Hid.out ?_)
  refine Lib.hid ?_
  have hown12 : w11.ownsRow w10.heap.size 5 1 v11 I.length (Lib.byteCells I) := by rw [HI.out]; exact hown11
  obtain ⟨g11, cap11, hv11, hg11, hr11⟩ := row_form hown12 lI.1
  have hb12 : Below w10.heap.size w10 w11 := ((Below.refl _ _).alloc (Nat.le_refl _) _).trans hb11
  have hr511 := row_on HR.out hb12 hg510
  have hr1011 := row_on HR10.out hb12 hg10
  have hB11 : Below w.heap.size w w11 := hB10.trans (hb12.mono (by omega))
  clear HR HR10 HO hown11 hown12 hb11 hb12 hB10 kc k8 hg510 hg10 hg11 hsz10 HT HAI
  rw [hv11]
  clear hv11
  obtain ⟨p, hp⟩ : ∃ p, p = P.length := ⟨_, rfl⟩
  obtain ⟨m2, hm2⟩ : ∃ m2, m2 = I.length := ⟨_, rfl⟩
  obtain ⟨s2, hs2⟩ : ∃ s2, s2 = S.length := ⟨_, rfl⟩
  have hu' : u = p + s2 := by rw [HU1.out, hp, hs2]
  have hu2' : u2 = p + m2 + s2 := by rw [HU3.out, hp, hs2, hm2]
  rw [← hm2]
  have b1 : 0 < p ∧ p ≤ 40000000 := by rw [hp]; exact lP
  have b2 : 0 < m2 ∧ m2 ≤ 10000000 := by rw [hm2]; exact lI
  have b3 : s2 ≤ 20000000 := by rw [hs2]; exact lS
  have hcU : ∀ j, j < u → w11.cell? ⟨g5, j, none⟩ = some (.int .u8 (((P ++ S).getD j 0).toNat : Int)) := fun j hj => hr511 j (by rw [← HU.out]; exact hj)
  have hcS : ∀ j, j < u2 → w11.cell? ⟨g10, j, none⟩ = some (.int .u8 (((P ++ I ++ S).getD j 0).toNat : Int)) := fun j hj => hr1011 j (by rw [← HU2.out]; exact hj)
  have hcI : ∀ j, j < m2 → w11.cell? ⟨g11, j, none⟩ = some (.int .u8 ((I.getD j 0).toNat : Int)) := fun j hj => hr11 j (by rw [← hm2]; exact hj)
  have tail1 : ∀ k, k < s2 → (P ++ S).getD (u - 1 - k) 0 = (P ++ I ++ S).getD (u2 - 1 - k) 0 := by
    intro k hk; rw [HU.out, HU2.out]; exact tail_eq P I S k (by rw [← hs2]; exact hk)
  have stop1 : ((((P ++ S).getD (u - 1 - s2) 0).toNat : Int) == (((P ++ I ++ S).getD (u2 - 1 - s2) 0).toNat : Int)) = false := by
    rw [beq_eq_false_iff_ne]
    intro e
    refine stop_ne P I S EP.out EI.out ?_
    rw [← HU.out, ← HU2.out, ← hs2]
    exact UInt8.toNat_inj.1 (by omega)
  have head1 : ∀ i, i < p → (P ++ S).getD i 0 = (P ++ I ++ S).getD i 0 := fun i hi => head_eq P I S i (by rw [← hp]; exact hi)
  have mid1 : ∀ i, i < m2 → (P ++ I ++ S).getD (p + i) 0 = I.getD i 0 := fun i hi => by rw [hp]; exact mid_eq P I S i (by rw [← hm2]; exact hi)
  have rest1 : ∀ i, p ≤ i → (P ++ I ++ S).getD (i + m2) 0 = (P ++ S).getD i 0 := fun i hi => by rw [hm2]; exact rest_eq P I S i (by rw [← hp]; exact hi)
  have HCU := Lib.hid hcU
  have HCS := Lib.hid hcS
  have HCI := Lib.hid hcI
  have T1 := Lib.hid tail1
  have S1 := Lib.hid stop1
  have D1 := Lib.hid head1
  have M1 := Lib.hid mid1
  have R1 := Lib.hid rest1
  have hlen : (u2 : Int) = (u : Int) + (m2 : Int) := by omega
  have hbe : ((u2 : Int) != (u : Int) + (m2 : Int)) = false := by simp [hlen]
  have HU' := Lib.hid hu'
  have HU2' := Lib.hid hu2'
  clear hcU hcS hcI tail1 stop1 head1 mid1 rest1 hr511 hr1011 hr11 hp hm2 hs2 hlen HU HU1 HU2 HU3 HP HS HI EP EI lP lS lI hu' hu2'
  go_wp2_with fail
  clear hd1 hd2 hbe
  go_loopw [11] (fun x wr => ∃ k : Nat, k ≤ s2 ∧ x = .int .i64 k ∧ ∃ q, wr = w11.drewN q) (fun x _ => s2 - (intOf x).toNat)
  case atStart => exact ⟨0, Nat.zero_le _, rfl, 0, rfl⟩
  case round =>
    obtain ⟨k, hk, rfl, q, rfl⟩ := hrel
    have hu' := HU'.out
    have hu2' := HU2'.out
    obtain ⟨j1, hj1⟩ : ∃ j1, j1 = u - 1 - k := ⟨_, rfl⟩
    obtain ⟨j2, hj2⟩ : ∃ j2, j2 = u2 - 1 - k := ⟨_, rfl⟩
    have hlt : (k : Int) < (u : Int) := by omega
    have e1 : (u : Int) - 1 - (k : Int) = (j1 : Int) := by omega
    have e2 : (u2 : Int) - 1 - (k : Int) = (j2 : Int) := by omega
    have l1 : (j1 : Int) < (u : Int) := by omega
    have l2 : (j2 : Int) < (u2 : Int) := by omega
    obtain ⟨x1, hx1⟩ : ∃ x1 : Int, x1 = (((P ++ S).getD j1 0).toNat : Int) := ⟨_, rfl⟩
    obtain ⟨x2, hx2⟩ : ∃ x2 : Int, x2 = (((P ++ I ++ S).getD j2 0).toNat : Int) := ⟨_, rfl⟩
    have cU : w11.cell? ⟨g5, j1, none⟩ = some (.int .u8 x1) := by rw [hx1]; exact HCU.out j1 (by omega)
    have cS : w11.cell? ⟨g10, j2, none⟩ = some (.int .u8 x2) := by rw [hx2]; exact HCS.out j2 (by omega)
    by_cases hks : k < s2
    · have hx : x1 = x2 := by rw [hx1, hx2, hj1, hj2, T1.out k hks]
      subst hx
      clear hx1 hx2 hj1 hj2 hu' hu2'
      go_wp2_with fail
      go_quiet (fail)
      go_wp2
      go_roundw
      case rel => exact ⟨k + 1, by omega, by go_num, _, rfl⟩
      case measure => simp [intOf]; omega
    · obtain rfl : k = s2 := by omega
      have hne : (x1 == x2) = false := by rw [hx1, hx2, hj1, hj2]; exact S1.out
      have ek : (u : Int) - (k : Int) = (p : Int) := by omega
      clear hx1 hx2 hj1 hj2 hu' hu2'
      go_wp2_with fail
      go_quiet (fail)
      clear cU cS hne e1 e2 l1 l2 hks
      go_wp2_with fail
      go_loopw [13] (fun x wr => ∃ i : Nat, i ≤ p ∧ x = .int .i64 i ∧ ∃ q, wr = w11.drewN q) (fun x _ => p - (intOf x).toNat)
      case atStart => exact ⟨0, Nat.zero_le _, rfl, q + nq, rfl⟩
      case round =>
        obtain ⟨i, hi, rfl, q2, rfl⟩ := hrel
        have hu' := HU'.out
        have hu2' := HU2'.out
        by_cases hip : i < p
        · have l1 : (i : Int) < (u : Int) := by omega
          have l2 : (i : Int) < (u2 : Int) := by omega
          obtain ⟨x1, hx1⟩ : ∃ x1 : Int, x1 = (((P ++ S).getD i 0).toNat : Int) := ⟨_, rfl⟩
          have cU : w11.cell? ⟨g5, i, none⟩ = some (.int .u8 x1) := by rw [hx1]; exact HCU.out i (by omega)
          have cS : w11.cell? ⟨g10, i, none⟩ = some (.int .u8 x1) := by rw [hx1, D1.out i hip]; exact HCS.out i (by omega)
          clear hx1 hu' hu2'
          go_wp2_with fail
          go_quiet (fail)
          go_wp2
          go_roundw
          case rel => exact ⟨i + 1, by omega, by go_num, _, rfl⟩
          case measure => simp [intOf]; omega
        · clear hu' hu2'
          go_wp2_with fail
          go_loopw [14] (fun x wr => ∃ i : Nat, i ≤ m2 ∧ x = .int .i64 i ∧ ∃ q, wr = w11.drewN q) (fun x _ => m2 - (intOf x).toNat)
          case atStart => exact ⟨0, Nat.zero_le _, rfl, q2, rfl⟩
          case round =>
            obtain ⟨i3, hi3, rfl, q3, rfl⟩ := hrel
            have hu' := HU'.out
            have hu2' := HU2'.out
            by_cases him : i3 < m2
            · have l1 : (p : Int) + (i3 : Int) < (u2 : Int) := by omega
              have l2 : (i3 : Int) < (m2 : Int) := by omega
              obtain ⟨j3, hj3⟩ : ∃ j3, j3 = p + i3 := ⟨_, rfl⟩
              have e3 : (p : Int) + (i3 : Int) = (j3 : Int) := by omega
              have l3 : (j3 : Int) < (u2 : Int) := by omega
              obtain ⟨x1, hx1⟩ : ∃ x1 : Int, x1 = ((I.getD i3 0).toNat : Int) := ⟨_, rfl⟩
              have cI : w11.cell? ⟨g11, i3, none⟩ = some (.int .u8 x1) := by rw [hx1]; exact HCI.out i3 (by omega)
              have cS : w11.cell? ⟨g10, j3, none⟩ = some (.int .u8 x1) := by rw [hx1, ← M1.out i3 him, hj3]; exact HCS.out (p + i3) (by omega)
              clear hx1 hu' hu2' hj3 l1
              go_wp2_with fail
              go_quiet (fail)
              go_wp2
              go_roundw
              case rel => exact ⟨i3 + 1, by omega, by go_num, _, rfl⟩
              case measure => simp [intOf]; omega
            · clear hu' hu2'
              go_wp2_with fail
              go_loopw [15] (fun x wr => ∃ i : Nat, p ≤ i ∧ i ≤ u ∧ x = .int .i64 i ∧ ∃ q, wr = w11.drewN q) (fun x _ => u - (intOf x).toNat)
              case atStart => exact ⟨p, Nat.le_refl _, by have := HU'.out; omega, rfl, q3, rfl⟩
              case round =>
                obtain ⟨i4, hi4, hi5, rfl, q4, rfl⟩ := hrel
                have hu' := HU'.out
                have hu2' := HU2'.out
                by_cases hiu : i4 < u
                · have l2 : (i4 : Int) < (u : Int) := by omega
                  obtain ⟨j4, hj4⟩ : ∃ j4, j4 = i4 + m2 := ⟨_, rfl⟩
                  have e4 : (i4 : Int) + (m2 : Int) = (j4 : Int) := by omega
                  have l4 : (j4 : Int) < (u2 : Int) := by omega
                  obtain ⟨x1, hx1⟩ : ∃ x1 : Int, x1 = (((P ++ S).getD i4 0).toNat : Int) := ⟨_, rfl⟩
                  have cU : w11.cell? ⟨g5, i4, none⟩ = some (.int .u8 x1) := by rw [hx1]; exact HCU.out i4 (by omega)
                  have cS : w11.cell? ⟨g10, j4, none⟩ = some (.int .u8 x1) := by rw [hx1, ← R1.out i4 hi4, hj4]; exact HCS.out (i4 + m2) (by omega)
                  clear hx1 hu' hu2' hj4
                  go_wp2_with fail
                  go_quiet (fail)
                  go_wp2
                  go_roundw
                  case rel => exact ⟨i4 + 1, by omega, by omega, by go_num, _, rfl⟩
                  case measure => simp [intOf]; omega
                · clear hu' hu2'
                  go_wp2
                  go_ret
                  exact ⟨rfl, hB11.os, hB11.tape, hB11.output, hB11.size, hB11.block⟩

end Go.Proofs.Qxb6600084aDoor
