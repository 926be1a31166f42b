/-
  DERIVED. Seat b6600345a: build.
-/
import Derived.Test.Qxb6600345aNew
import Derived.Test.Qxb6600345aWalkJ
namespace Go.Proofs.Qxb6600345a
open Go.RowKit
set_option linter.unusedVariables false
set_option linter.unusedSimpArgs false
attribute [local go_sem ↓] Go.wp_at_zero Go.wp_at_succ

theorem run_mk' {P : Program} {a : Act} {o : Oper} (t : TypeId) (x : Operand) (ho : o.op = .makeSlice t x x) (n : Nat) (hx : a.eval x = .int .i64 (n : Int)) (e : TypeId) (ht : P.underlying t = some (.slice e)) (z : Value) (b : Nat) (hi : (P.info? e).map (fun i => (i.zero, i.size, i.bytes)) = some (some z, 1, b)) (hz : z.cells = #[z]) (hb : b ≤ 64) (hn : n ≤ 1048576) (w : World) :
    (execOp a.eval o).run P w = .ok (.value (.slice (some ⟨w.heap.size, 0, none⟩) n n)) (w.alloc (.cells (tab n fun _ => z) e)) := by
  obtain ⟨i0, hi0, hz0, hz1, hz2⟩ := info_parts hi
  have hr := run_make (P := P) w t e i0 z ht hi0 hz0 .i64 .i64 (n : Int) (n : Int) (by omega) (Int.le_refl _) (by
    rw [hz2]
    have : (b : Int) * (n : Int) ≤ 64 * (n : Int) := Int.mul_le_mul_of_nonneg_right (by omega) (by omega)
    omega) (by omega)
  rw [hz1, Int.toNat_natCast, Nat.mul_one, hz, tab_made] at hr
  unfold execOp
  simp only [ho, hx]
  simp [hr]

/-- 'make([]T, n)': the new world under a name of its own. -/
theorem wpList_mk {P : Program} {ops : Array Oper} {rest : List Oper} {o : Oper} {a : Act} {w : World} {Q : Exit → Act → World → Prop} (hg : o.guard = none) (t : TypeId) (x : Operand) (ho : o.op = .makeSlice t x x) (n : Nat) (hx : a.eval x = .int .i64 (n : Int)) (e : TypeId) (ht : P.underlying t = some (.slice e)) (z : Value) (b : Nat) (hi : (P.info? e).map (fun i => (i.zero, i.size, i.bytes)) = some (some z, 1, b)) (hz : z.cells = #[z]) (hb : b ≤ 64) (hn : n ≤ 1048576)
    (h : ∀ w' c, Hid (w' = w.alloc (.cells (tab n fun _ => z) e) ∧ c = w.heap.size) → wpList P ops Q rest (a.put o.dst (.slice (some ⟨c, 0, none⟩) n n)) w') : wpList P ops Q (o :: rest) a w :=
  wpList_plain hg fun K hK => by
    unfold Oper.wp
    rw [run_mk' t x ho n hx e ht z b hi hz hb hn w]
    exact hK _ _ (h _ _ ⟨rfl, rfl⟩)

theorem info53 : (Try.prog.info? 53).map (fun i => (i.zero, i.size, i.bytes)) = some (some (.slice none 0 0), 1, 24) := by kernel_rfl
theorem info23 : (Try.prog.info? 23).map (fun i => (i.zero, i.size, i.bytes)) = some (some (.slice none 0 0), 1, 24) := by kernel_rfl

def y0 (n bw base : Nat) : Sv := ⟨0, 0, bw, 0, 0, 0, 0, 0, 0, n, 0, base, fun _ => 0⟩
def g0 (ow : Nat → Nat) : Gh := ⟨fun _ => [], fun _ => 0, fun _ => 0, fun _ => 0, fun _ => false, fun _ => false, [], .slice none 0 0, [], .slice none 0 0, 0, ow⟩

/-- A watch list grows, and its header is stored: no core. -/
theorem MemW.push' {w w2 : World} {y : Sv} {g : Gh} {W : Nat → List Nat} {vW : Nat → Value} (h2 : g.ow y.bw = 2) (hW : MemW w.heap y g W vW) {a : Nat} (ha : a < 2 * y.n) (hg : w.grownBy w2 (vW a).ownBlock) (v' : Value) (x n' : Nat)
    (hown : w2.ownsRow y.base 21 1 v' n' ((W a).map i32 ++ [i32 x])) (hl : v'.ownBlock = (vW a).ownBlock ∨ ∃ b, v'.ownBlock = some b ∧ w.heap.size ≤ b) :
    MemW (w2.setCell ⟨y.bw, a, none⟩ v').heap y { g with ow := owAt g.ow v' (21 + 2 * a) } (upd W a (W a ++ [x])) (upd vW a v') ∧
    ∀ b, b < w.heap.size → g.ow b ≠ 2 → g.ow b ≠ 21 + 2 * a → (w2.setCell ⟨y.bw, a, none⟩ v').heap[b]? = w.heap[b]? ∧ owAt g.ow v' (21 + 2 * a) b = g.ow b := by
  have how : ∀ c, c < w.heap.size → g.ow c ≠ 21 + 2 * a → owAt g.ow v' (21 + 2 * a) c = g.ow c := fun c hc ht => owAt_old (hW.tw a ha) hl hc ht
  have ne : ∀ b, g.ow b ≠ 21 + 2 * a → some b ≠ (vW a).ownBlock := fun b hb e => hb (hW.tw a ha b e.symm)
  have hvb : ∀ b, v'.ownBlock = some b → b ≠ y.bw := fun b hb e => by
    subst e
    rcases hl with hl | ⟨b', hb', hN⟩
    · have := hW.tw a ha _ (by rw [← hl]; exact hb); rw [h2] at this; omega
    · rw [hb] at hb'; cases hb'; have := hW.wh.lt; omega
  refine ⟨⟨?_, ?_, ?_⟩, fun b hb h3 h4 => ⟨?_, how b hb h4⟩⟩
  · have e := (hW.wh.grown hg (ne _ (by rw [h2]; omega))).set a v'
    rw [tab_set] at e
    exact e
  · intro l hl'
    by_cases hla : l = a
    · subst hla
      rw [upd_same, upd_same]
      have e := (Ow.of_owns hown).kept (H' := (w2.setCell ⟨y.bw, l, none⟩ v').heap) fun b hb _ => heap_setCell_other _ _ _ _ (hvb b hb)
      simpa using e
    · rw [upd_ne _ _ hla, upd_ne _ _ hla]
      exact ((hW.row l hl').kept (H' := w2.heap) fun b hb hlt => hg.block b hlt (ne b (by rw [hW.tw l hl' b hb]; omega))).kept fun b hb _ => heap_setCell_other _ _ _ _ (fun e => by
        have := hW.tw l hl' b hb; have e' : b = y.bw := e; rw [e', h2] at this; omega)
  · intro l hl' b hb
    by_cases hla : l = a
    · subst hla
      rw [upd_same] at hb
      exact owAt_self _ _ hb
    · rw [upd_ne _ _ hla] at hb
      exact (how b (Ow.lt (hW.row l hl') hb) (by rw [hW.tw l hl' b hb]; omega)).trans (hW.tw l hl' b hb)
  · rw [heap_setCell_other _ _ _ _ (fun e => by have e' : b = y.bw := e; rw [e', h2] at h3; exact h3 rfl)]
    exact hg.block b hb (ne b h4)

/-- While the solver is laid: ci clauses have been copied. -/
structure Bd (w0 : World) (n m bcl bw : Nat) (orig : Nat → List Nat) (ci : Nat) (w : World) (cb ow : Nat → Nat) (W : Nat → List Nat) (vW : Nat → Value) : Prop where
  below : Below w0.heap.size w0 w
  clh : Bk w.heap bcl 53 (tab m fun j => if j < ci then row (cb j) (orig j).length else .slice none 0 0)
  cl : ∀ j, j < ci → Bk w.heap (cb j) 33 ((orig j).map i32).toArray
  mw : MemW w.heap (y0 n bw w0.heap.size) (g0 ow) W vW
  t1 : ow bcl = 1 ∧ w0.heap.size ≤ bcl
  t2 : ow bw = 2 ∧ w0.heap.size ≤ bw
  tc : ∀ j, j < ci → ow (cb j) = 20 + 2 * j ∧ w0.heap.size ≤ cb j

/-- What lies elsewhere changes: blocks of tags 1, 2, 20 + 2j (j < ci), 21 + 2l are as they were. -/
theorem Bd.frame {w0 : World} {n m bcl bw : Nat} {orig : Nat → List Nat} {ci : Nat} {w w' : World} {cb ow ow' : Nat → Nat} {W : Nat → List Nat} {vW : Nat → Value} (h : Bd w0 n m bcl bw orig ci w cb ow W vW) (hb : Below w0.heap.size w0 w') (hx : ∀ b, b < w.heap.size → ow b ≠ 20 + 2 * ci → w'.heap[b]? = w.heap[b]? ∧ ow' b = ow b) : Bd w0 n m bcl bw orig ci w' cb ow' W vW := by
  have hbw : y0 n bw w0.heap.size = y0 n bw w0.heap.size := rfl
  have x1 := hx bcl h.clh.lt (by rw [h.t1.1]; omega)
  have x2 := hx bw h.mw.wh.lt (by rw [h.t2.1]; omega)
  refine ⟨hb, x1.1.trans h.clh, fun j hj => (hx _ (h.cl j hj).lt (by rw [(h.tc j hj).1]; omega)).1.trans (h.cl j hj), ⟨x2.1.trans h.mw.wh, fun l hl => (h.mw.row l hl).kept fun b hb' hlt => ?_, fun l hl b hb' => ?_⟩, ⟨x1.2.trans h.t1.1, h.t1.2⟩, ⟨x2.2.trans h.t2.1, h.t2.2⟩, fun j hj => ⟨(hx _ (h.cl j hj).lt (by rw [(h.tc j hj).1]; omega)).2.trans (h.tc j hj).1, (h.tc j hj).2⟩⟩
  · have := h.mw.tw l hl b hb'
    exact (hx b hlt (by have e : ow b = 21 + 2 * l := this; rw [e]; omega)).1
  · have e : ow b = 21 + 2 * l := h.mw.tw l hl b hb'
    exact (hx b (Ow.lt (h.mw.row l hl) hb') (by rw [e]; omega)).2.trans e

/-- The watch lists of the first ci clauses. -/
structure WB (n : Nat) (orig : Nat → List Nat) (ci : Nat) (W : Nat → List Nat) : Prop where
  nd : ∀ l, l < 2 * n → (W l).Nodup
  lt : ∀ l, l < 2 * n → ∀ cj ∈ W l, cj < ci
  watch : ∀ l, l < 2 * n → ∀ cj ∈ W l, (orig cj).getD 0 0 = neg l ∨ (orig cj).getD 1 0 = neg l

theorem WB.push {n : Nat} {orig : Nat → List Nat} {ci : Nat} {W : Nat → List Nat} (h : WB n orig ci W) {a b : Nat} (hab : b ≠ a) (ha : (orig ci).getD 0 0 = neg a) (hb : (orig ci).getD 1 0 = neg b) : WB n orig (ci + 1) (upd (upd W a (W a ++ [ci])) b (upd W a (W a ++ [ci]) b ++ [ci])) := by
  have key : ∀ l, upd (upd W a (W a ++ [ci])) b (upd W a (W a ++ [ci]) b ++ [ci]) l = if l = b ∨ l = a then W l ++ [ci] else W l := fun l => by
    by_cases e1 : l = b
    · subst e1; rw [upd_same, upd_ne _ _ hab, if_pos (.inl rfl)]
    · rw [upd_ne _ _ e1]
      by_cases e2 : l = a
      · subst e2; rw [upd_same, if_pos (.inr rfl)]
      · rw [upd_ne _ _ e2, if_neg (by omega)]
  refine ⟨fun l hl => ?_, fun l hl cj hc => ?_, fun l hl cj hc => ?_⟩
  · rw [key]
    split
    · exact List.nodup_append.2 ⟨h.nd l hl, by simp, fun x hx y hy => by simp at hy; subst hy; have := h.lt l hl x hx; omega⟩
    · exact h.nd l hl
  · rw [key] at hc
    split at hc
    · rcases List.mem_append.1 hc with hc | hc
      · have := h.lt l hl cj hc; omega
      · rw [List.mem_singleton.1 hc]; omega
    · have := h.lt l hl cj hc; omega
  · rw [key] at hc
    split at hc
    · rename_i hor
      rcases List.mem_append.1 hc with hc | hc
      · exact h.watch l hl cj hc
      · rw [List.mem_singleton.1 hc]
        rcases hor with rfl | rfl
        · exact .inr hb
        · exact .inl ha
    · exact h.watch l hl cj hc

theorem WB.len {n : Nat} {orig : Nat → List Nat} {ci : Nat} {W : Nat → List Nat} (h : WB n orig ci W) {l : Nat} (hl : l < 2 * n) : (W l).length ≤ ci := length_le_of_nodup ci _ (h.nd l hl) (h.lt l hl)

end Go.Proofs.Qxb6600345a
