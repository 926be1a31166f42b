/-
  DERIVED. Seat b6600345a: 'kept = append(kept, ci)' in place; the core and the watch lists behind a new block, behind a store into a watch list's row.
-/
import Derived.Test.Qxb6600345aWalkC
import Derived.ArgAppend
namespace Go.Proofs.Qxb6600345a
open Go.RowKit
set_option linter.unusedVariables false
set_option linter.unusedSimpArgs false

theorem setCells_one (w : World) (b o : Nat) (v : Value) : w.setCells b o [v] = w.setCell ⟨b, o, none⟩ v := by
  simp [World.setCells]

/-- 'append(s, x)' where there is room: the new world under a name of its own. -/
theorem wpList_append_put {P : Program} (w : World) {ops : Array Oper} {rest : List Oper} {o : Oper} {a : Act} {Q : Exit → Act → World → Prop}
    (hg : o.guard = none) (s x : Operand) (t : TypeId) (hop : o.op = Op.call { callee := Callee.builtin Builtin.append, args := #[s, x], argTypes := #[t, t] })
    (e : TypeId) (i : TypeInfo) (h1 : P.underlying t = some (.slice e)) (h2 : P.info? e = some i) (h4 : i.size = 1)
    (b n cap : Nat) (hs : a.eval s = .slice (some ⟨b, 0, none⟩) n cap) (ad : Addr) (u : Value) (hx : a.eval x = .slice (some ad) 1 1) (hc : w.cell? ad = some u) (h1c : u.oneCell' = true)
    (hroom : n + 1 ≤ cap) (hcell : (w.cell? ⟨b, n, none⟩).isSome = true) (hfz : w.frozen? ⟨b, n, none⟩ = false)
    (hK : ∀ w', Hid (w' = w.setCell ⟨b, n, none⟩ u) → wpList P ops Q rest (a.put o.dst (.slice (some ⟨b, 0, none⟩) (n + 1) cap)) w') : wpList P ops Q (o :: rest) a w := by
  refine wpList_plain hg fun K hK' => ?_
  have hrun := run_append_room_cells (P := P) w t o.type e i h1 h2 b 0 n cap ad 1 1 [u] (by rw [h4]; rfl) (fun j v hj => by
    match j, hj with
    | 0, hj =>
      simp at hj
      subst hj
      simpa [Addr.add] using hc) (fun v hv => by simp at hv; subst hv; exact h1c) hroom (fun j hj => by
    obtain rfl : j = 0 := by simpa using hj
    rw [h4]; simpa using hcell) (fun j hj => by
    obtain rfl : j = 0 := by simpa using hj
    rw [h4]; simpa using hfz)
  rw [h4, Nat.mul_one, Nat.zero_add, setCells_one] at hrun
  unfold Oper.wp
  simp [execOp, hop, resolve, invoke, builtin, hs, hx, hrun, Result.andThen]
  exact hK' _ _ (hK _ rfl)

theorem MemC.alloc {w : World} {y : Sv} {g : Gh} (h : MemC w.heap y g) (o : Obj) : MemC (w.alloc o).heap y g :=
  h.grow (row := none) (World.grownBy_alloc w o none) 11 (by omega) (fun b hb => by cases hb) g.ow (fun c _ _ => rfl)

theorem MemW.alloc {w : World} {y : Sv} {g : Gh} {W : Nat → List Nat} {vW : Nat → Value} (h : MemW w.heap y g W vW) (o : Obj) : MemW (w.alloc o).heap y g W vW where
  wh := h.wh.grown (World.grownBy_alloc w o none) (by simp)
  row := fun l hl => (h.row l hl).kept fun b hb hlt => Below.heap_alloc w o b hlt
  tw := h.tw

/-- A store into the row of watch list p, at one of its first cells. -/
theorem MemW.poke {w : World} {y : Sv} {g : Gh} {W : Nat → List Nat} {vW : Nat → Value} (hC : MemC w.heap y g) (h : MemW w.heap y g W vW) {p gp lw cap j x : Nat} (hp : p < 2 * y.n) (hv : vW p = .slice (some ⟨gp, 0, none⟩) lw cap) (hj : j < (W p).length) :
    MemC (w.setCell ⟨gp, j, none⟩ (i32 x)).heap y g ∧ MemW (w.setCell ⟨gp, j, none⟩ (i32 x)).heap y g (upd W p ((W p).set j x)) vW := by
  have ht : g.ow gp = 21 + 2 * p := h.tw p hp gp (by rw [hv]; rfl)
  refine ⟨hC.setFar (.inr (by omega)) _ _, ⟨h.wh.other (fun e => by rw [← e, hC.t2.1] at ht; omega) _ _, fun l hl => ?_, h.tw⟩⟩
  by_cases e : l = p
  · subst e
    rw [upd_same]
    rcases h.row l hl with ⟨h1, h2⟩ | ⟨b, c, cur, h1, h2, h3, h4, h5, h6, h7⟩
    · rw [h1] at hv; cases hv
    · rw [h1] at hv
      injection hv with e1 e2 e3
      injection e1 with e1
      injection e1 with e1
      subst e1
      refine .inr ⟨b, c, cur.setIfInBounds j (i32 x), by rw [h1]; simp, h2, heap_setCell_same w b j cur 21 (i32 x) h3, by simpa using h4, h5, by simpa using h6, ?_⟩
      rw [Array.toList_setIfInBounds, List.map_set, List.length_set, List.take_set, h7]
  · rw [upd_ne _ _ e]
    exact (h.row l hl).kept fun b hb hlt => heap_setCell_other _ _ _ _ (fun e' => by
      have h1 := h.tw l hl b hb
      have e2 : b = gp := e'
      rw [e2, ht] at h1
      omega)

end Go.Proofs.Qxb6600345a
