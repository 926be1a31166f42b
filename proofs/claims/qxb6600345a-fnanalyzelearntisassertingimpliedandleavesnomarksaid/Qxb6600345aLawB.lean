/-
  DERIVED. Seat b6600345a: the law, walked.
-/
import Derived.Test.Qxb6600345aLawA
namespace Go.Proofs.Qxb6600345a
open Go.RowKit
set_option linter.unusedVariables false
set_option linter.unusedSimpArgs false
attribute [local go_sem ↓] Go.wp_at_zero Go.wp_at_succ

theorem info31 : (Try.prog.info? 31).map (fun i => (i.zero, i.size, i.bytes)) = some (some (.int .i8 0), 1, 1) := by kernel_rfl

def litsOf (l : Nat) (zs : List Int) : List Nat := (zs.take l).map Int.toNat

theorem litsOf_len {l : Nat} {zs : List Int} (h : l ≤ zs.length) : (litsOf l zs).length = l := by
  unfold litsOf; rw [List.length_map, List.length_take]; omega

theorem litsOf_at {l : Nat} {zs : List Int} (h : l ≤ zs.length) {i : Nat} (hi : i < l) : (litsOf l zs)[i]? = some (nat zs i) := by
  unfold litsOf nat
  rw [List.getElem?_map, List.getElem?_take_of_lt hi, List.getD, List.getElem?_eq_getElem (by omega)]
  rfl

theorem litsOf_mem {l : Nat} {zs : List Int} (h : l ≤ zs.length) {x : Nat} (hx : x ∈ litsOf l zs) : ∃ i, i < l ∧ x = nat zs i := by
  obtain ⟨i, hi, he⟩ := List.getElem_of_mem hx
  rw [litsOf_len h] at hi
  refine ⟨i, hi, ?_⟩
  have := litsOf_at h hi
  rw [List.getElem?_eq_getElem (by rw [litsOf_len h]; exact hi), he] at this
  exact Option.some.inj this

/-- What wellFormed says, of the literals. -/
theorem GoodC.lits {n l : Nat} {zs : List Int} (h : GoodC n l zs) (hl : l ≤ zs.length) : 2 ≤ (litsOf l zs).length ∧ (∀ x ∈ litsOf l zs, x < 2 * n) ∧ ((litsOf l zs).map (· / 2)).Nodup := by
  refine ⟨by rw [litsOf_len hl]; exact h.two, fun x hx => ?_, ?_⟩
  · obtain ⟨i, hi, rfl⟩ := litsOf_mem hl hx
    have := h.rng i hi
    show (zs.getD i 0).toNat < 2 * n
    omega
  · rw [List.nodup_iff_pairwise_ne, List.pairwise_iff_getElem]
    intro i j hi hj hij
    have hi' : i < l := by rw [List.length_map, litsOf_len hl] at hi; exact hi
    have hj' : j < l := by rw [List.length_map, litsOf_len hl] at hj; exact hj
    have e1 := litsOf_at hl hi'
    have e2 := litsOf_at hl hj'
    rw [List.getElem?_eq_getElem (by rw [litsOf_len hl]; exact hi')] at e1
    rw [List.getElem?_eq_getElem (by rw [litsOf_len hl]; exact hj')] at e2
    rw [List.getElem_map, List.getElem_map, Option.some.inj e1, Option.some.inj e2]
    exact h.vars i j hij hj'

theorem rowN_of {w w1 : World} {a : Option Addr} {l n : Nat} {zs : List Int} (h : RowI w a l zs) (hl : l ≤ zs.length) (hr : ∀ i, i < l → 0 ≤ zs.getD i 0 ∧ zs.getD i 0 < 2 * (n : Int)) (hb : Below w.heap.size w w1) : RowN w1 w.heap.size a (litsOf l zs) := by
  rcases h with h0 | ⟨b, o, h1, h2, h3⟩
  · left
    exact List.eq_nil_of_length_eq_zero (by rw [litsOf_len hl]; exact h0)
  · refine .inr ⟨b, o, h1, h2, fun i x hx => ?_⟩
    have hi : i < l := by have := (List.getElem?_eq_some_iff.1 hx).1; rw [litsOf_len hl] at this; exact this
    rw [litsOf_at hl hi] at hx
    cases hx
    rw [World.cell?_of_block (hb.block b h2), h3 i hi]
    have := hr i hi
    show some (Value.int .i32 (zs.getD i 0)) = some (Value.int .i32 (((zs.getD i 0).toNat : Nat) : Int))
    rw [Int.toNat_of_nonneg this.1]

theorem RowN.weaken {w : World} {N N' : Nat} {a : Option Addr} {ns : List Nat} (h : RowN w N a ns) (hN : N ≤ N') : RowN w N' a ns := by
  rcases h with h | ⟨b, o, h1, h2, h3⟩
  · exact .inl h
  · exact .inr ⟨b, o, h1, by omega, h3⟩

theorem cl3_of {w w1 : World} {n : Nat} {aC : Option Addr} {m : Nat} {A : Nat → Option Addr} {L C : Nat → Nat} {Z : Nat → List Int} (h : Cl2 w aC m A L C Z) (hg : ∀ r, r < m → GoodC n (L r) (Z r)) (hb : Below w.heap.size w w1) : Cl3 w1 w1.heap.size aC m A C (fun r => litsOf (L r) (Z r)) := by
  refine ⟨?_, fun r hr => (rowN_of (h.row r hr) (h.len r hr) (hg r hr).rng hb).weaken hb.size, fun r hr e => ?_⟩
  · rcases h.out with h0 | ⟨b, o, h1, h2, h3⟩
    · exact .inl h0
    · refine .inr ⟨b, o, h1, Nat.lt_of_lt_of_le h2 hb.size, fun r hr => ?_⟩
      rw [World.cell?_of_block (hb.block b h2), h3 r hr, litsOf_len (h.len r hr)]
  · have := h.nil r hr e
    exact List.eq_nil_of_length_eq_zero (by rw [litsOf_len (h.len r hr)]; exact this)

/-- What lies behind run: a conflict, and the solver. -/
structure Run (w0 w : World) (y : Sv) (orig : Nat → List Nat) (n m bs : Nat) (aK : Option Addr) (g : Gh) (E : List En) (d ci : Nat) : Prop where
  pi : PI y orig w0 w g E d
  cf : Confl y g E d ci
  hb : y.bs = bs
  hn : y.n = n
  hm : y.m = m
  base : y.base = w0.heap.size
  seen : ∀ v, g.seen v = false
  act : ∀ v, g.act v = false
  d1 : 1 ≤ d
  d2 : d ≤ 262144
  cl : ClM w0 w0.heap.size aK m orig

end Go.Proofs.Qxb6600345a
