/-
  DERIVED. Seat b6600345a: cloneInt32, cloneClauses.
-/
import Derived.Test.Qxb6600345aWf
namespace Go.Proofs.Qxb6600345a
open Go.RowKit
set_option linter.unusedVariables false
set_option linter.unusedSimpArgs false
attribute [local go_sem ↓] Go.wp_at_zero Go.wp_at_succ

/-- A row of literals that came in. -/
def RowN (w : World) (N : Nat) (a : Option Addr) (ns : List Nat) : Prop :=
  ns = [] ∨ ∃ b o, a = some ⟨b, o, none⟩ ∧ b < N ∧ ∀ i x, ns[i]? = some x → w.cell? ⟨b, o + i, none⟩ = some (i32 x)

theorem RowN.mono {w w' : World} {N : Nat} {a : Option Addr} {ns : List Nat} (h : RowN w N a ns) (hb : Below N w w') : RowN w' N a ns := by
  rcases h with h | ⟨b, o, h1, h2, h3⟩
  · exact .inl h
  · exact .inr ⟨b, o, h1, h2, fun i x hx => by rw [World.cell?_of_block (hb.block b h2)]; exact h3 i x hx⟩

/-- What a copy is. -/
def Cp (w w' : World) (a' : Option Addr) (ns : List Nat) : Prop :=
  Below w.heap.size w w' ∧ (ns = [] ∨ ∃ b, a' = some ⟨b, 0, none⟩ ∧ w.heap.size ≤ b ∧ Bk w'.heap b 21 (ns.map i32).toArray)

def ClPost (w : World) (len : Nat) (ns : List Nat) (e : Ending) (w' : World) : Prop := ∃ a', e = .returned (.slice a' len len) ∧ Hid (Cp w w' a' ns)

set_option maxRecDepth 100000 in
theorem cloneInt32 {w : World} {a : Option Addr} {len cap : Nat} {ns : List Nat} {N : Nat} (hlen : len = ns.length) (hnil : a = none → ns = []) (hr : RowN w N a ns) (hN : N ≤ w.heap.size) (hl : len ≤ 1000000) : Calls Try.prog 13 #[.slice a len cap] w fun e w' => ClPost w len ns e w' := by
  have hsn := fun w a n c => Go.Lib.run_eql_slice_nil (P := Try.prog) w 23 21 a n c 0 0 Try.underlying23
  have HL : Hid (len = ns.length) := hlen
  have HR : Hid (RowN w N a ns) := hr
  cases a with
  | none =>
    have h0 : ns = [] := hnil rfl
    obtain rfl : len = 0 := by rw [hlen, h0]; rfl
    clear hlen hr
    go_enter Try.func13, Try.ntmps13
    go_wp2
    go_ret
    exact ⟨none, rfl, ⟨rfl, rfl, rfl, Nat.le_refl _, fun _ _ => rfl⟩, .inl (by first | rfl | exact h0)⟩
  | some q =>
    clear hlen hr hnil
    go_enter Try.func13, Try.ntmps13
    go_wp2_with (first
      | (refine wpList_mk rfl 23 _ rfl len rfl 21 Try.underlying23 (.int .i32 0) 4 info21 rfl (by omega) (by omega) ?_
         intro wa bc hwa)
      | go_in)
    have HS : Hid (Below w.heap.size w wa ∧ Bk wa.heap bc 21 (part ns 0) ∧ w.heap.size ≤ bc) := by
      obtain ⟨e1, e2⟩ := hwa.out
      refine ⟨?_, ?_, by rw [e2]; exact Nat.le_refl _⟩
      · rw [e1]; exact Below.alloc ⟨rfl, rfl, rfl, Nat.le_refl _, fun _ _ => rfl⟩ (Nat.le_refl _) _
      · rw [part_zero, e1, e2, ← HL.out]; exact heap_alloc_new w _
    clear hwa
    go_loopg [4] len (fun k s4 wr => ∃ j : Nat, s4 = .int .i64 (j : Int) ∧ j ≤ len ∧ len - j ≤ k ∧ Hid (Below w.heap.size w wr ∧ Bk wr.heap bc 21 (part ns j)))
    case atStart => exact ⟨0, rfl, Nat.zero_le _, Nat.le_refl _, HS.out.1, HS.out.2.1⟩
    case round =>
      obtain ⟨j, rfl, hj, hjk, HJ⟩ := hrel
      have HB : Hid (w.heap.size ≤ bc) := HS.out.2.2
      clear HS
      by_cases hjn : j < len
      · obtain ⟨x, hx⟩ : ∃ x, ns[j]? = some x := ⟨_, List.getElem?_eq_getElem (by rw [← HL.out]; exact hjn)⟩
        obtain ⟨b, o, hq, hb, cx0⟩ : ∃ b o, some q = some (⟨b, o, none⟩ : Addr) ∧ b < N ∧ w.cell? ⟨b, o + j, none⟩ = some (i32 x) := by
          rcases HR.out with h0 | ⟨b, o, h1, h2, h3⟩
          · rw [h0] at hx; simp at hx
          · exact ⟨b, o, h1, h2, h3 j x hx⟩
        injection hq with hq
        subst hq
        have cx : wr.cell? ⟨b, o + j, none⟩ = some (i32 x) := by rw [World.cell?_of_block (HJ.out.1.block b (by omega))]; exact cx0
        have hsz : j < (part ns j).size := by unfold part; rw [tab_size, ← HL.out]; exact hjn
        have HX : Hid (ns[j]? = some x) := hx
        clear hx cx0
        go_wp2_with (first
          | (refine wpList_store_bk rfl 21 _ _ rfl bc j rfl (i32 x) rfl rfl (by kernel_rfl) _ _ HJ.out.2 hsz ?_
             intro w4 hw4)
          | go_in)
        go_roundg (len - (j + 1))
        case measure => omega
        case rel =>
          refine ⟨j + 1, by go_num, by omega, Nat.le_refl _, ?_, ?_⟩
          · rw [hw4.out]; exact HJ.out.1.setCell HB.out _
          · rw [hw4.out, ← part_step _ HX.out]
            exact HJ.out.2.set j (i32 x)
      · have dj : decide ((j : Int) < (len : Int)) = false := decide_eq_false (by omega)
        go_wp2
        go_ret
        refine ⟨some ⟨bc, 0, none⟩, rfl, HJ.out.1, .inr ⟨bc, rfl, HB.out, ?_⟩⟩
        have e := HJ.out.2
        rw [show j = ns.length by rw [← HL.out]; omega, part_all] at e
        exact e

/-- The clauses that came in, as literals. -/
structure Cl3 (w : World) (N : Nat) (aC : Option Addr) (m : Nat) (A : Nat → Option Addr) (C : Nat → Nat) (orig : Nat → List Nat) : Prop where
  out : m = 0 ∨ ∃ b o, aC = some ⟨b, o, none⟩ ∧ b < N ∧ ∀ r, r < m → w.cell? ⟨b, o + r, none⟩ = some (.slice (A r) (orig r).length (C r))
  row : ∀ r, r < m → RowN w N (A r) (orig r)
  nil : ∀ r, r < m → A r = none → orig r = []

def CcPost (w : World) (m : Nat) (orig : Nat → List Nat) (e : Ending) (w' : World) : Prop := ∃ aK, e = .returned (.slice aK m m) ∧ Hid (Below w.heap.size w w' ∧ ClM w' w'.heap.size aK m orig)

/-- While the clauses are copied. -/
structure Cc (w : World) (m bh : Nat) (orig : Nat → List Nat) (ci : Nat) (wr : World) (rb : Nat → Nat) : Prop where
  below : Below w.heap.size w wr
  hd : Bk wr.heap bh 23 (tab m fun j => if j < ci then row (rb j) (orig j).length else .slice none 0 0)
  hb : w.heap.size ≤ bh
  rows : ∀ j, j < ci → Bk wr.heap (rb j) 21 ((orig j).map i32).toArray
  ne : ∀ j, j < ci → rb j ≠ bh

theorem Cc.step {w : World} {m bh : Nat} {orig : Nat → List Nat} {ci : Nat} {wr w2 : World} {rb : Nat → Nat} {b : Nat} (h : Cc w m bh orig ci wr rb) (hb : Below wr.heap.size wr w2) (hl : wr.heap.size ≤ b) (hbk : Bk w2.heap b 21 ((orig ci).map i32).toArray) :
    Cc w m bh orig (ci + 1) (w2.setCell ⟨bh, ci, none⟩ (row b (orig ci).length)) (upd rb ci b) := by
  have hbh := h.hd.lt
  have hh : Bk w2.heap bh 23 (tab m fun j => if j < ci then row (rb j) (orig j).length else .slice none 0 0) := (hb.block bh hbh).trans h.hd
  have hne : b ≠ bh := by omega
  have hbel : Below w.heap.size w w2 := ⟨hb.os.trans h.below.os, hb.tape.trans h.below.tape, hb.output.trans h.below.output, Nat.le_trans h.below.size hb.size, fun k hk => (hb.block k (Nat.lt_of_lt_of_le hk h.below.size)).trans (h.below.block k hk)⟩
  refine ⟨hbel.setCell h.hb _, ?_, h.hb, fun j hj => ?_, fun j hj => ?_⟩
  · have e := hh.set ci (row b (orig ci).length)
    rw [tab_set] at e
    refine Eq.mp (congrArg (Bk _ _ _) (tab_congr fun i _ => ?_)) e
    unfold upd
    by_cases e : i = ci
    · subst e; rw [if_pos rfl, if_pos (by omega), if_pos rfl]
    · rw [if_neg e, if_neg e]
      dsimp only
      by_cases hi : i < ci
      · rw [if_pos hi, if_pos (by omega)]
      · rw [if_neg hi, if_neg (by omega)]
  · by_cases e : j = ci
    · subst e; rw [upd_same]; exact hbk.other hne _ _
    · rw [upd_ne _ _ e]
      have hr := h.rows j (by omega)
      exact Bk.other ((hb.block _ hr.lt).trans hr) (h.ne j (by omega)) _ _
  · by_cases e : j = ci
    · subst e; rw [upd_same]; exact hne
    · rw [upd_ne _ _ e]; exact h.ne j (by omega)

set_option maxRecDepth 100000 in
theorem cloneClauses {w : World} {aC : Option Addr} {m cC : Nat} {A : Nat → Option Addr} {C : Nat → Nat} {orig : Nat → List Nat} (h : Cl3 w w.heap.size aC m A C orig) (hm : m ≤ 65536) (hnilC : aC = none → m = 0) (htwo : ∀ r, r < m → 2 ≤ (orig r).length) (hbig : ∀ r, r < m → (orig r).length ≤ 1000000) :
    Calls Try.prog 12 #[.slice aC m cC] w fun e w' => CcPost w m orig e w' := by
  have hsn := fun w a n c => Go.Lib.run_eql_slice_nil (P := Try.prog) w 22 23 a n c 0 0 Try.underlying22
  have HC : Hid (Cl3 w w.heap.size aC m A C orig) := h
  clear h
  cases aC with
  | none =>
    obtain rfl : m = 0 := hnilC rfl
    go_enter Try.func12, Try.ntmps12
    go_wp2
    go_ret
    exact ⟨none, rfl, ⟨rfl, rfl, rfl, Nat.le_refl _, fun _ _ => rfl⟩, ⟨fun ci hc => by omega⟩⟩
  | some q =>
    clear hnilC
    go_enter Try.func12, Try.ntmps12
    go_wp2_with (first
      | (refine wpList_mk rfl 22 _ rfl m rfl 23 Try.underlying22 (.slice none 0 0) 24 info23 rfl (by omega) (by omega) ?_
         intro wa bh hwa)
      | go_in)
    have HS : Hid (Cc w m bh orig 0 wa (fun _ => 0)) := by
      obtain ⟨e1, e2⟩ := hwa.out
      refine ⟨?_, ?_, by rw [e2]; exact Nat.le_refl _, fun j hj => by omega, fun j hj => by omega⟩
      · rw [e1]; exact Below.alloc ⟨rfl, rfl, rfl, Nat.le_refl _, fun _ _ => rfl⟩ (Nat.le_refl _) _
      · have e : Bk wa.heap bh 23 (tab m fun _ => .slice none 0 0) := by rw [e1, e2]; exact heap_alloc_new w _
        refine Eq.mp (congrArg (Bk _ _ _) (tab_congr fun i _ => ?_)) e
        rw [if_neg (by omega)]
    clear hwa
    go_loopg [4] m (fun k s4 wr => ∃ (ci : Nat) (rb : Nat → Nat), s4 = .int .i64 (ci : Int) ∧ ci ≤ m ∧ m - ci ≤ k ∧ Hid (Cc w m bh orig ci wr rb))
    case atStart => exact ⟨0, _, rfl, Nat.zero_le _, Nat.le_refl _, HS⟩
    case round =>
      obtain ⟨ci, rb, rfl, hci, hcik, HJ⟩ := hrel
      clear HS
      by_cases hcm : ci < m
      · obtain ⟨b, o, hq, hb, cr0⟩ : ∃ b o, some q = some (⟨b, o, none⟩ : Addr) ∧ b < w.heap.size ∧ w.cell? ⟨b, o + ci, none⟩ = some (.slice (A ci) (orig ci).length (C ci)) := by
          rcases HC.out.out with h0 | ⟨b, o, h1, h2, h3⟩
          · omega
          · exact ⟨b, o, h1, h2, h3 ci hcm⟩
        injection hq with hq
        subst hq
        obtain ⟨nC, hnC⟩ : ∃ nC, nC = (orig ci).length := ⟨_, rfl⟩
        obtain ⟨aR, hR⟩ : ∃ aR, aR = A ci := ⟨_, rfl⟩
        obtain ⟨cR, hcR⟩ : ∃ cR, cR = C ci := ⟨_, rfl⟩
        rw [← hnC, ← hR, ← hcR] at cr0
        have cr : wr.cell? ⟨b, o + ci, none⟩ = some (.slice aR nC cR) := by rw [World.cell?_of_block (HJ.out.below.block b hb)]; exact cr0
        have hcl := cloneInt32 (w := wr) (a := aR) (len := nC) (cap := cR) (ns := orig ci) (N := w.heap.size) hnC (fun e => HC.out.nil ci hcm (by rw [← hR]; exact e)) (by rw [hR]; exact (HC.out.row ci hcm).mono HJ.out.below) HJ.out.below.size (by rw [hnC]; exact hbig ci hcm)
        have HN : Hid (nC = (orig ci).length) := hnC
        have hn2 : 2 ≤ nC := by rw [hnC]; exact htwo ci hcm
        clear cr0 hnC hR hcR
        have hcp : ∀ w2 a', Cp wr w2 a' (orig ci) → ∃ b2, a' = some ⟨b2, 0, none⟩ ∧ Hid (Below wr.heap.size wr w2 ∧ wr.heap.size ≤ b2 ∧ Bk w2.heap b2 21 ((orig ci).map i32).toArray ∧ Bk w2.heap bh 23 (tab m fun j => if j < ci then row (rb j) (orig j).length else .slice none 0 0)) := fun w2 a' hh => by
          rcases hh.2 with h0 | ⟨b2, h1, h2, h3⟩
          · exfalso; have := HN.out; rw [h0] at this; simp at this; omega
          · exact ⟨b2, h1, hh.1, h2, h3, (hh.1.block bh HJ.out.hd.lt).trans HJ.out.hd⟩
        go_wp2_with (first
          | (go_at_call 13; refine hcl.mono ?_; rintro e w2 ⟨a', rfl, hb2⟩
             obtain ⟨b2, rfl, hb3⟩ := hcp w2 a' hb2.out)
          | (refine wpList_store_bk rfl 23 _ _ rfl bh ci rfl (.slice (some ⟨b2, 0, none⟩) nC nC) rfl rfl (by kernel_rfl) _ _ hb3.out.2.2.2 (by simp; omega) ?_
             intro w4 hw4)
          | go_in)
        go_roundg (m - (ci + 1))
        case measure => omega
        case rel =>
          refine ⟨ci + 1, upd rb ci b2, by go_num, by omega, Nat.le_refl _, ?_⟩
          rw [hw4.out, HN.out]
          exact HJ.out.step hb3.out.1 hb3.out.2.1 hb3.out.2.2.1
      · have dj : decide ((ci : Int) < (m : Int)) = false := decide_eq_false (by omega)
        obtain rfl : ci = m := by omega
        go_wp2
        go_ret
        refine ⟨some ⟨bh, 0, none⟩, rfl, HJ.out.below, ⟨fun j hj => ⟨bh, rb j, rfl, HJ.out.hd.lt, (HJ.out.rows j hj).lt, ?_, fun i x hx => ?_⟩⟩⟩
        · rw [HJ.out.hd.cell, tab_at hj, if_pos hj]; rfl
        · rw [(HJ.out.rows j hj).cell]; simp [hx]

end Go.Proofs.Qxb6600345a
