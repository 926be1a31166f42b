/-
  DERIVED. Seat b6600345a: what the law asks of the learnt clause.
-/
import Derived.Test.Qxb6600345aCln
namespace Go.Proofs.Qxb6600345a
open Go.RowKit
set_option linter.unusedVariables false
set_option linter.unusedSimpArgs false

theorem below_trans {N M : Nat} {a b c : World} (h : Below N a b) (k : Below M b c) (hNM : N ≤ M) : Below N a c :=
  ⟨k.os.trans h.os, k.tape.trans h.tape, k.output.trans h.output, Nat.le_trans h.size k.size, fun i hi => (k.block i (by omega)).trans (h.block i hi)⟩

theorem below_refl (N : Nat) (a : World) : Below N a a := ⟨rfl, rfl, rfl, Nat.le_refl _, fun _ _ => rfl⟩

theorem ClM.weaken {w : World} {N N' : Nat} {aK : Option Addr} {m : Nat} {orig : Nat → List Nat} (h : ClM w N aK m orig) (hN : N ≤ N') : ClM w N' aK m orig :=
  ⟨fun ci hc => by
    obtain ⟨bK, rb, h1, h2, h3, h4⟩ := h.row ci hc
    exact ⟨bK, rb, h1, by omega, by omega, h4⟩⟩

/-- What the law finds in the learnt clause. -/
structure LF (n : Nat) (g : Gh) (d back : Nat) (M : List Nat) : Prop where
  pos : 0 < M.length
  len : M.length ≤ n
  lt : ∀ i, i < M.length → M.getD i 0 < 2 * n
  val : ∀ i, i < M.length → lval g.asg (M.getD i 0) = 2
  hd : g.lvl (M.getD 0 0 / 2) = d
  tl : ∀ i, 1 ≤ i → i < M.length → 1 ≤ g.lvl (M.getD i 0 / 2) ∧ g.lvl (M.getD i 0 / 2) < d ∧ g.lvl (M.getD i 0 / 2) ≤ back
  one : M.length = 1 → back = 0
  two : 2 ≤ M.length → g.lvl (M.getD 1 0 / 2) = back
  ne : ∀ i j, i < M.length → j < M.length → i ≠ j → M.getD i 0 / 2 ≠ M.getD j 0 / 2
  bd : back < d

theorem AnPost.facts {y : Sv} {orig : Nat → List Nat} {w0 : World} {g : Gh} {E : List En} {d : Nat} {w' : World} {v : Value} {M : List Nat} {back : Nat} {s a : Nat → Bool} {ow : Nat → Nat} {p : Nat} {L : List Nat} (h : AnPost y orig w0 g E d w' v M back s a ow p L) (hT : TOK y g E d) (hd : 1 ≤ d) :
    LF y.n g d back M ∧ (∀ u, s u = false) ∧ ∀ a', Closed y.m orig a' → (∀ x ∈ M, lval a' x = 2) → False := by
  have hlenM : M.length = L.length + 1 := by have := h.fl.perm.length_eq; simpa using this
  have hhd : M.getD 0 0 = neg p := h.fl.hd
  have hnd : (M.map (· / 2)).Nodup := (h.fl.perm.map (· / 2)).nodup_iff.2 h.ok.nd
  obtain ⟨e, he, hel, hed⟩ := h.ok.pE
  have hpT : p ∈ g.T := by rw [hT.T]; exact List.mem_map.2 ⟨e, he, hel⟩
  have hplt := h.ok.p_lt hT
  have hlow := h.ok.lows hT
  have htail : ∀ i, 1 ≤ i → i < M.length → M.getD i 0 ∈ L := fun i h1 h2 => h.fl.tail h.ok.nd h1 h2
  have hlt : ∀ i, i < M.length → M.getD i 0 < 2 * y.n := fun i hi => by
    by_cases e0 : i = 0
    · subst e0; rw [hhd]; exact neg_lt hplt
    · exact (hlow _ (htail i (by omega) hi)).1
  have hone : M.length = 1 → back = 0 := fun h1 => by
    rcases h.fl.at1 with ⟨_, h2⟩ | ⟨h2, _⟩
    · exact h2
    · omega
  have htwo : 2 ≤ M.length → g.lvl (M.getD 1 0 / 2) = back := fun h1 => by
    rcases h.fl.at1 with ⟨h2, _⟩ | ⟨_, h2⟩
    · omega
    · exact h2
  refine ⟨⟨by omega, ?_, hlt, fun i hi => ?_, ?_, fun i h1 h2 => ?_, hone, htwo, fun i j hi hj hij => vars_ne hnd hi hj hij, ?_⟩, fun u => ?_, fun a' hc hx => h.ok.forces a' hc fun x hx' => hx x (h.fl.perm.mem_iff.2 hx')⟩
  · have := length_le_of_nodup y.n (M.map (· / 2)) hnd fun u hu => by
      obtain ⟨x, hx, rfl⟩ := List.mem_map.1 hu
      obtain ⟨i, hi, hix⟩ := List.getElem_of_mem hx
      have := hlt i hi
      rw [List.getD, List.getElem?_eq_getElem hi, hix] at this
      have h2 : x < 2 * y.n := this
      omega
    simpa using this
  · rw [hT.asg, lval_false hT.nd]
    by_cases e0 : i = 0
    · subst e0; rw [hhd, neg_neg]; exact hpT
    · exact (hlow _ (htail i (by omega) hi)).2.1
  · rw [hhd, neg_var, ← hel, hT.lvl e he]; exact hed
  · have := hlow _ (htail i h1 h2)
    exact ⟨this.2.2.1, this.2.2.2, h.fl.le i h1 h2⟩
  · by_cases h1 : M.length = 1
    · rw [hone h1]; omega
    · rw [← htwo (by omega)]
      exact (hlow _ (htail 1 (by omega) (by omega))).2.2.2
  · cases hu : s u with
    | false => rfl
    | true =>
      obtain ⟨i, h1, h2, _⟩ := h.fl.seen u hu
      omega

/-- A block of the law's own. -/
theorem An.fresh {y : Sv} {w0 : World} {g : Gh} {wr : World} {s a : Nat → Bool} {ow : Nat → Nat} {v : Value} {M : List Nat} (h : An y w0 g wr s a ow v M) (o : Obj) (τ : Nat) (hτ : 11 < τ ∧ τ < 20) : An y w0 g (wr.alloc o) s a (upd ow wr.heap.size τ) v M := by
  refine ⟨h.mem.grow (row := none) (World.grownBy_alloc wr o none) 11 (by omega) (fun b hb => by cases hb) _ (fun c hc _ => upd_ne _ _ (by omega)), h.below.alloc h.mem.base _, h.row.kept fun b _ hlt => Below.heap_alloc wr o b hlt, fun b hb => ?_⟩
  rw [upd_ne _ _ (by have := Ow.lt h.row hb; omega)]
  exact h.tag b hb

theorem An.far {y : Sv} {w0 : World} {g : Gh} {wr : World} {s a : Nat → Bool} {ow : Nat → Nat} {v : Value} {M : List Nat} (h : An y w0 g wr s a ow v M) {b : Nat} (hb : 11 < ow b ∧ ow b % 2 = 1) (hbb : y.base ≤ b) (i : Nat) (u : Value) : An y w0 g (wr.setCell ⟨b, i, none⟩ u) s a ow v M :=
  ⟨h.mem.setFar (.inr ⟨Nat.le_of_lt hb.1, hb.2⟩) _ _, h.below.setCell hbb _, h.row.kept fun c hc _ => heap_setCell_other _ _ _ _ (fun e => by
    have h1 := h.tag c hc
    have e' : c = b := e
    rw [e'] at h1
    omega), h.tag⟩

/-- While the law looks at the learnt clause: j of its literals. -/
structure LI (n : Nat) (g : Gh) (d back : Nat) (M : List Nat) (j low : Nat) (tk : Nat → Bool) (f : Nat → Nat) : Prop where
  tki : ∀ v, tk v = true ↔ ∃ i, i < j ∧ M.getD i 0 / 2 = v
  le : ∀ v, f v ≤ 2
  val : ∀ i, i < j → lval f (M.getD i 0) = 2
  lle : low ≤ back
  all : ∀ i, 1 ≤ i → i < j → g.lvl (M.getD i 0 / 2) ≤ low

theorem LI.start {n : Nat} {g : Gh} {d back : Nat} {M : List Nat} : LI n g d back M 0 0 (fun _ => false) (fun _ => 0) :=
  ⟨fun v => ⟨(fun h => by cases h), fun ⟨i, hi, _⟩ => by omega⟩, fun _ => by omega, fun i hi => by omega, Nat.zero_le _, fun i h1 h2 => by omega⟩

theorem LI.step {n : Nat} {g : Gh} {d back : Nat} {M : List Nat} {j low : Nat} {tk : Nat → Bool} {f : Nat → Nat} (hF : LF n g d back M) (h : LI n g d back M j low tk f) (hj : j < M.length) {x low' : Nat} (hx : x = M.getD j 0) (hlow : (j = 0 ∧ low' = low) ∨ (1 ≤ j ∧ (low < g.lvl (x / 2) ∧ low' = g.lvl (x / 2) ∨ g.lvl (x / 2) ≤ low ∧ low' = low))) :
    tk (x / 2) = false ∧ LI n g d back M (j + 1) low' (upd tk (x / 2) true) (upd f (x / 2) (2 - x % 2)) := by
  have hnew : ∀ i, i < j → M.getD i 0 / 2 ≠ x / 2 := fun i hi => by rw [hx]; exact hF.ne i j (by omega) hj (by omega)
  refine ⟨?_, ⟨fun v => ?_, fun v => ?_, fun i hi => ?_, ?_, fun i h1 h2 => ?_⟩⟩
  · cases ht : tk (x / 2) with
    | false => rfl
    | true =>
      obtain ⟨i, hi, he⟩ := (h.tki _).1 ht
      exact absurd he (hnew i hi)
  · unfold upd
    split
    · rename_i e
      exact ⟨fun _ => ⟨j, by omega, by rw [← hx, e]⟩, fun _ => rfl⟩
    · rename_i e
      rw [h.tki]
      refine ⟨fun ⟨i, hi, he⟩ => ⟨i, by omega, he⟩, fun ⟨i, hi, he⟩ => ⟨i, ?_, he⟩⟩
      have : i ≠ j := fun e' => by subst e'; rw [← hx] at he; exact e he.symm
      omega
  · unfold upd; split
    · omega
    · exact h.le v
  · by_cases e : i = j
    · subst e
      rw [← hx]
      unfold lval
      rw [upd_same]
      rcases Nat.mod_two_eq_zero_or_one x with hp | hp
      · rw [hp]; simp
      · rw [hp]; simp
    · have := h.val i (by omega)
      unfold lval at this ⊢
      rw [upd_ne _ _ (hnew i (by omega))]
      exact this
  · have := h.lle
    rcases hlow with ⟨_, e⟩ | ⟨h1, ⟨_, e⟩ | ⟨_, e⟩⟩
    · omega
    · rw [e, hx]; exact (hF.tl j h1 hj).2.2
    · omega
  · by_cases e : i = j
    · subst e
      rcases hlow with ⟨h3, _⟩ | ⟨_, ⟨h3, e⟩ | ⟨h3, e⟩⟩
      · omega
      · rw [← hx, e]; exact Nat.le_refl _
      · rw [← hx, e]; exact h3
    · have := h.all i h1 (by omega)
      rcases hlow with ⟨_, e⟩ | ⟨_, ⟨h3, e⟩ | ⟨h3, e⟩⟩ <;> omega

theorem LI.back {n : Nat} {g : Gh} {d back : Nat} {M : List Nat} {low : Nat} {tk : Nat → Bool} {f : Nat → Nat} (hF : LF n g d back M) (h : LI n g d back M M.length low tk f) : low = back := by
  have h1 := h.lle
  by_cases hl : M.length = 1
  · have := hF.one hl; omega
  · have hp := hF.pos
    have h2 := h.all 1 (Nat.le_refl _) (by omega)
    rw [hF.two (by omega)] at h2
    omega

end Go.Proofs.Qxb6600345a
