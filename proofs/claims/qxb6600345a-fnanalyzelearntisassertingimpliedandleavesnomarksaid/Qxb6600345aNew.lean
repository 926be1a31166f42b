/-
  DERIVED. Seat b6600345a: ZZNewSolver.
-/
import Derived.Test.Qxb6600345aWalkG
import Derived.Test.Qxb6600345aOrd
namespace Go.Proofs.Qxb6600345a
open Go.RowKit
set_option linter.unusedVariables false
set_option linter.unusedSimpArgs false

/-! ### ZZNewSolver -/
theorem tab_made (z : Value) (n : Nat) : madeCells #[z] n = tab n fun _ => z := by
  apply Array.ext_getElem?
  intro j
  rw [← Array.getElem?_toList, toList_madeCells_one]
  by_cases hj : j < n
  · rw [tab_at hj]; simp [hj]
  · rw [Array.getElem?_eq_none (by simp; omega)]; simp [hj]

theorem run_mk {P : Program} {a : Act} {o : Oper} (t : TypeId) (x : Operand) (ho : o.op = .makeSlice t x x) (n : Nat) (hx : a.eval x = .int .i64 (n : Int)) (e : TypeId) (ht : P.underlying t = some (.slice e)) (z : Value) (b : Nat) (hi : (P.info? e).map (fun i => (i.zero, i.size, i.bytes)) = some (some z, 1, b)) (hz : z.cells = #[z]) (hb : b ≤ 8) (hn : n ≤ 1048576) (w : World) :
    (execOp a.eval o).run P w = .ok (.value (row w.heap.size n)) (w.alloc (.cells (tab n fun _ => z) e)) := by
  obtain ⟨i0, hi0, hz0, hz1, hz2⟩ := info_parts hi
  have hr := run_make (P := P) w t e i0 z ht hi0 hz0 .i64 .i64 (n : Int) (n : Int) (by omega) (Int.le_refl _) (by
    rw [hz2]
    have : (b : Int) * (n : Int) ≤ 8 * (n : Int) := Int.mul_le_mul_of_nonneg_right (by omega) (by omega)
    omega) (by omega)
  rw [hz1, Int.toNat_natCast, Nat.mul_one, hz, tab_made] at hr
  unfold execOp
  simp only [ho, hx]
  simp [hr, row]

/-- A row of n equal cells, tagged. -/
def Mk (H : Array Obj) (n base : Nat) (ow : Nat → Nat) (ty : TypeId) (z : Value) (τ : Nat) (v : Value) : Prop := ∃ b, v = row b n ∧ Bk H b ty (tab n fun _ => z) ∧ base ≤ b ∧ ow b = τ

def NF (n : Nat) (t1 t2 : Value) (base : Nat) (j : Nat) (v : Value) (H : Array Obj) (ow : Nat → Nat) : Prop :=
  match j with
  | 0 => v = t1
  | 1 => v = t2
  | 3 => Mk H n base ow 63 (.int .i8 0) 3 v
  | 5 => Mk H n base ow 21 (.int .i32 0) 4 v
  | 7 => Mk H n base ow 21 (.int .i32 0) 5 v
  | 9 => Mk H n base ow 68 (.float .f64 0) 6 v
  | 11 => Mk H n base ow 4 (.bool false) 8 v
  | 13 => Mk H n base ow 4 (.bool false) 7 v
  | _ => v = .int .i64 (n : Int)

theorem Mk.mono {H H' : Array Obj} {n base : Nat} {ow ow' : Nat → Nat} {ty : TypeId} {z : Value} {τ : Nat} {v : Value} (h : Mk H n base ow ty z τ v) (hx : ∀ b, b < H.size → H'[b]? = H[b]? ∧ ow' b = ow b) : Mk H' n base ow' ty z τ v := by
  obtain ⟨b, h1, h2, h3, h4⟩ := h
  exact ⟨b, h1, (hx b h2.lt).1.trans h2, h3, (hx b h2.lt).2.trans h4⟩

theorem NF.mono {n : Nat} {t1 t2 : Value} {base j : Nat} {v : Value} {H H' : Array Obj} {ow ow' : Nat → Nat} (h : NF n t1 t2 base j v H ow) (hx : ∀ b, b < H.size → H'[b]? = H[b]? ∧ ow' b = ow b) : NF n t1 t2 base j v H' ow' := by
  unfold NF at h ⊢
  split at h
  all_goals first | exact h | exact Mk.mono h hx

def nsCells (t1 t2 : Value) (n b3 b5 b7 b9 b11 b13 : Nat) : Array Value :=
  #[t1, t2, row b3 n, row b5 n, row b7 n, .slice none 0 0, .slice none 0 0, .int .i64 0, row b9 n, .float .f64 one, .slice none 0 0, .slice none 0 0, .slice none 0 0, row b11 n, row b13 n, .bool false, .slice none 0 0, .slice none 0 0]

/-- What is common to both halves. -/
structure NC (n : Nat) (t1 t2 : Value) (w1 : World) (ow1 ow : Nat → Nat) (a : Act) (w : World) : Prop where
  sz : a.tmps.size = 23
  df : a.defers = []
  s0 : a.tmps.getD 0 undef = .int .i64 (n : Int)
  s1 : a.tmps.getD 1 undef = t1
  s2 : a.tmps.getD 2 undef = t2
  bel : Below w1.heap.size w1 w
  old : ∀ b, b < w1.heap.size → ow b = ow1 b

/-- The first half: the moves and the makes, in whatever order. -/
structure NI (n : Nat) (t1 t2 : Value) (w1 : World) (ow1 ow : Nat → Nat) (l : Nat → Bool) (a : Act) (w : World) : Prop where
  c : NC n t1 t2 w1 ow1 ow a w
  l14 : l 14 = false
  l15 : l 15 = false
  l16 : l 16 = false
  f : ∀ j, j < 14 → l j = true → NF n t1 t2 w1.heap.size j (a.tmps.getD (7 + j) undef) w.heap ow
  dep : ∀ i, i < 6 → l (2 * i + 3) = true → l (2 * i + 2) = true

/-- The second half: the struct, its box, the result. -/
structure NJ (n : Nat) (t1 t2 : Value) (w1 : World) (ow1 ow : Nat → Nat) (l : Nat → Bool) (a : Act) (w : World) (b3 b5 b7 b9 b11 b13 : Nat) : Prop where
  c : NC n t1 t2 w1 ow1 ow a w
  all : ∀ j, j < 15 → l j = true
  k3 : Mk w.heap n w1.heap.size ow 63 (.int .i8 0) 3 (row b3 n)
  k5 : Mk w.heap n w1.heap.size ow 21 (.int .i32 0) 4 (row b5 n)
  k7 : Mk w.heap n w1.heap.size ow 21 (.int .i32 0) 5 (row b7 n)
  k9 : Mk w.heap n w1.heap.size ow 68 (.float .f64 0) 6 (row b9 n)
  k13 : Mk w.heap n w1.heap.size ow 4 (.bool false) 7 (row b13 n)
  s21 : a.tmps.getD 21 undef = .agg (nsCells t1 t2 n b3 b5 b7 b9 b11 b13)
  s22 : l 15 = true → ∃ bs, a.tmps.getD 22 undef = .pointer (some ⟨bs, 0, none⟩) ∧ Bk w.heap bs 73 (nsCells t1 t2 n b3 b5 b7 b9 b11 b13) ∧ ow bs = 0 ∧ w1.heap.size ≤ bs
  s6 : l 16 = true → l 15 = true ∧ a.tmps.getD 6 undef = a.tmps.getD 22 undef

theorem NC.put {n : Nat} {t1 t2 : Value} {w1 : World} {ow1 ow ow' : Nat → Nat} {a : Act} {w w' : World} (h : NC n t1 t2 w1 ow1 ow a w) {d : Nat} {v : Value} (hd : 3 ≤ d) (hb : Below w1.heap.size w1 w') (hx : ∀ b, b < w.heap.size → ow' b = ow b) : NC n t1 t2 w1 ow1 ow' (a.put (some d) v) w' := by
  have hsz := h.sz
  refine ⟨by simpa [Act.put] using h.sz, h.df, ?_, ?_, ?_, hb, fun b hb' => (hx b (Nat.lt_of_lt_of_le hb' h.bel.size)).trans (h.old b hb')⟩
  · rw [getD_put (by omega), if_neg (by omega)]; exact h.s0
  · rw [getD_put (by omega), if_neg (by omega)]; exact h.s1
  · rw [getD_put (by omega), if_neg (by omega)]; exact h.s2

theorem NI.step {n : Nat} {t1 t2 : Value} {w1 : World} {ow1 ow ow' : Nat → Nat} {l : Nat → Bool} {a : Act} {w w' : World} (h : NI n t1 t2 w1 ow1 ow l a w) {j : Nat} (hj : j < 14) {v : Value} (hb : Below w1.heap.size w1 w') (hx : ∀ b, b < w.heap.size → w'.heap[b]? = w.heap[b]? ∧ ow' b = ow b) (hF : NF n t1 t2 w1.heap.size j v w'.heap ow') (hdep : ∀ i, i < 6 → j = 2 * i + 3 → l (2 * i + 2) = true) : NI n t1 t2 w1 ow1 ow' (upd l j true) (a.put (some (7 + j)) v) w' := by
  have hsz := h.c.sz
  refine ⟨h.c.put (by omega) hb (fun b hb => (hx b hb).2), by rw [upd_ne _ _ (by omega)]; exact h.l14, by rw [upd_ne _ _ (by omega)]; exact h.l15, by rw [upd_ne _ _ (by omega)]; exact h.l16, fun k hk hl => ?_, fun i hi hl => ?_⟩
  · rw [getD_put (by omega)]
    by_cases e : k = j
    · subst e; rw [if_pos rfl]; exact hF
    · rw [if_neg (by omega)]
      rw [upd_ne _ _ e] at hl
      exact (h.f k hk hl).mono hx
  · by_cases e2 : 2 * i + 2 = j
    · rw [e2]; exact upd_same _ _ _
    · rw [upd_ne _ _ e2]
      by_cases e3 : 2 * i + 3 = j
      · exact hdep i hi e3.symm
      · rw [upd_ne _ _ e3] at hl; exact h.dep i hi hl

theorem NI.move {n : Nat} {t1 t2 : Value} {w1 : World} {ow1 ow : Nat → Nat} {l : Nat → Bool} {a : Act} {w : World} (h : NI n t1 t2 w1 ow1 ow l a w) {j : Nat} (hj : j < 14) {v : Value} (hF : NF n t1 t2 w1.heap.size j v w.heap ow) (hp : j < 2 ∨ j % 2 = 0 := by omega) : NI n t1 t2 w1 ow1 ow (upd l j true) (a.put (some (7 + j)) v) w :=
  h.step hj h.c.bel (fun _ _ => ⟨rfl, rfl⟩) hF (fun i _ e => by omega)

theorem NI.make {n : Nat} {t1 t2 : Value} {w1 : World} {ow1 ow : Nat → Nat} {l : Nat → Bool} {a : Act} {w : World} (h : NI n t1 t2 w1 ow1 ow l a w) {j : Nat} (hj : j < 14) (ty : TypeId) (z : Value) (τ : Nat) (hp : l (j - 1) = true) (hF : ∀ H ow', Mk H n w1.heap.size ow' ty z τ (row w.heap.size n) → NF n t1 t2 w1.heap.size j (row w.heap.size n) H ow') :
    NI n t1 t2 w1 ow1 (upd ow w.heap.size τ) (upd l j true) (a.put (some (7 + j)) (row w.heap.size n)) (w.alloc (.cells (tab n fun _ => z) ty)) :=
  h.step hj (h.c.bel.alloc h.c.bel.size _) (fun b hb => ⟨Below.heap_alloc w _ b hb, upd_ne _ _ (by omega)⟩) (hF _ _ ⟨w.heap.size, rfl, heap_alloc_new w _, h.c.bel.size, upd_same _ _ _⟩) (fun i _ e => by rw [e] at hp; exact hp)


theorem build73 (t1 t2 : Option Addr) (l1 c1 l2 c2 n b3 b5 b7 b9 b11 b13 : Nat) (w : World) : (Instr.build 73 #[(0, .slice t1 l1 c1), (1, .slice t2 l2 c2), (2, row b3 n), (3, row b5 n), (4, row b7 n), (8, row b9 n), (9, .float .f64 4607182418800017408), (11, row b11 n), (12, row b13 n)]).run Try.prog w = .ok (.agg (nsCells (.slice t1 l1 c1) (.slice t2 l2 c2) n b3 b5 b7 b9 b11 b13)) w := by
  kernel_rfl

theorem box73 (t1 t2 : Value) (n b3 b5 b7 b9 b11 b13 : Nat) (w : World) : (Instr.box 73 (.agg (nsCells t1 t2 n b3 b5 b7 b9 b11 b13))).run Try.prog w = .ok (.pointer (some ⟨w.heap.size, 0, none⟩)) (w.alloc (.cells (nsCells t1 t2 n b3 b5 b7 b9 b11 b13) 73)) := by
  kernel_rfl

theorem run_build73 {a : Act} {o : Oper} (ho : o.op = .build 73 #[(0, .tmp 7), (1, .tmp 8), (2, .tmp 10), (3, .tmp 12), (4, .tmp 14), (8, .tmp 16), (9, .const (.float .f64 4607182418800017408)), (11, .tmp 18), (12, .tmp 20)]) {a1 a2 : Option Addr} {l1 c1 l2 c2 n b3 b5 b7 b9 b11 b13 : Nat}
    (e7 : a.eval (.tmp 7) = .slice a1 l1 c1) (e8 : a.eval (.tmp 8) = .slice a2 l2 c2) (e10 : a.eval (.tmp 10) = row b3 n) (e12 : a.eval (.tmp 12) = row b5 n) (e14 : a.eval (.tmp 14) = row b7 n) (e16 : a.eval (.tmp 16) = row b9 n) (e18 : a.eval (.tmp 18) = row b11 n) (e20 : a.eval (.tmp 20) = row b13 n) (w : World) :
    (execOp a.eval o).run Try.prog w = .ok (.value (.agg (nsCells (.slice a1 l1 c1) (.slice a2 l2 c2) n b3 b5 b7 b9 b11 b13))) w := by
  have hr := build73 a1 a2 l1 c1 l2 c2 n b3 b5 b7 b9 b11 b13 w
  have hc : a.eval (.const (.float .f64 4607182418800017408)) = .float .f64 4607182418800017408 := rfl
  unfold execOp
  rw [ho]
  simp only [List.map_toArray, List.map_cons, List.map_nil, e7, e8, e10, e12, e14, e16, e18, e20, hc]
  simp only [Sem.run_bind, hr, Result.andThen_ok, Sem.run_pure]

theorem run_box73 {a : Act} {o : Oper} (ho : o.op = .box 73 (.tmp 21)) {t1 t2 : Value} {n b3 b5 b7 b9 b11 b13 : Nat} (e : a.eval (.tmp 21) = .agg (nsCells t1 t2 n b3 b5 b7 b9 b11 b13)) (w : World) :
    (execOp a.eval o).run Try.prog w = .ok (.value (.pointer (some ⟨w.heap.size, 0, none⟩))) (w.alloc (.cells (nsCells t1 t2 n b3 b5 b7 b9 b11 b13) 73)) := by
  have hr := box73 t1 t2 n b3 b5 b7 b9 b11 b13 w
  unfold execOp
  rw [ho]
  simp only [e]
  simp only [Sem.run_bind, hr, Result.andThen_ok, Sem.run_pure]

theorem info63 : (Try.prog.info? 63).map (fun i => (i.zero, i.size, i.bytes)) = some (some (.int .i8 0), 1, 1) := by kernel_rfl
theorem info68 : (Try.prog.info? 68).map (fun i => (i.zero, i.size, i.bytes)) = some (some (.float .f64 0), 1, 8) := by kernel_rfl
theorem info4 : (Try.prog.info? 4).map (fun i => (i.zero, i.size, i.bytes)) = some (some (.bool false), 1, 1) := by kernel_rfl

/-- A new solver's memory. -/
structure NS (n : Nat) (t1 t2 : Value) (w1 : World) (ow1 : Nat → Nat) (w : World) (ow : Nat → Nat) (bs b3 b5 b7 b9 b11 b13 : Nat) : Prop where
  bel : Below w1.heap.size w1 w
  old : ∀ b, b < w1.heap.size → ow b = ow1 b
  k3 : Mk w.heap n w1.heap.size ow 63 (.int .i8 0) 3 (row b3 n)
  k5 : Mk w.heap n w1.heap.size ow 21 (.int .i32 0) 4 (row b5 n)
  k7 : Mk w.heap n w1.heap.size ow 21 (.int .i32 0) 5 (row b7 n)
  k9 : Mk w.heap n w1.heap.size ow 68 (.float .f64 0) 6 (row b9 n)
  k13 : Mk w.heap n w1.heap.size ow 4 (.bool false) 7 (row b13 n)
  sv : Bk w.heap bs 73 (nsCells t1 t2 n b3 b5 b7 b9 b11 b13)
  t0 : ow bs = 0 ∧ w1.heap.size ≤ bs

set_option maxRecDepth 100000 in
theorem zzNewSolver {w1 : World} (n : Nat) (hn : n ≤ 4096) (a1 a2 : Option Addr) (l1 c1 l2 c2 : Nat) (ow1 : Nat → Nat) : Calls Try.prog 42 #[.int .i64 (n : Int), .slice a1 l1 c1, .slice a2 l2 c2] w1 fun e w' => ∃ bs, e = .returned (.pointer (some ⟨bs, 0, none⟩)) ∧ Hid (∃ ow b3 b5 b7 b9 b11 b13, NS n (.slice a1 l1 c1) (.slice a2 l2 c2) w1 ow1 w' ow bs b3 b5 b7 b9 b11 b13) := by
  go_enter Try.func42, Try.ntmps42
  go_wp2
  refine wp_region_any (by rfl) ?_
  refine wpAny_inv (fun l a w => (∃ ow, NI n (.slice a1 l1 c1) (.slice a2 l2 c2) w1 ow1 ow l a w) ∨ ∃ ow b3 b5 b7 b9 b11 b13, NJ n (.slice a1 l1 c1) (.slice a2 l2 c2) w1 ow1 ow l a w b3 b5 b7 b9 b11 b13) ?_ ?_ _ _ _ _ ?_ ?_ ?_
  · intro listed a w hs hI i hi
    unfold Region.ready at hi
    rw [List.mem_filter] at hi
    have h1 : i < 17 := List.mem_range.1 hi.1
    have h2 := hi.2
    clear hi
    have hs' : listed.size = 17 := hs
    rw [Bool.and_eq_true] at h2
    obtain ⟨h20, h2⟩ := h2
    have hno : listed.getD i false = false := by rw [← getD_both (by omega)]; simpa using h20
    clear h20
    have hfst : i < 14 → ∃ ow, NI n (.slice a1 l1 c1) (.slice a2 l2 c2) w1 ow1 ow (fun i => listed.getD i false) a w := fun hi14 => by
      rcases hI with hI | ⟨ow, b3, b5, b7, b9, b11, b13, hJ⟩
      · exact hI
      · have : listed.getD i false = true := hJ.all i (by omega)
        rw [hno] at this
        cases this
    match i, h1, h2, hno, hfst with
    | 0, _, h2, hno, hfst =>
      obtain ⟨ow, hN⟩ := hfst (by omega)
      exact wpOp_do _ rfl rfl _ w (BigFrame.run_move (.tmp 1) rfl w) (.inl ⟨ow, hN.move (j := 0) (by omega) hN.c.s1⟩)
    | 1, _, h2, hno, hfst =>
      obtain ⟨ow, hN⟩ := hfst (by omega)
      exact wpOp_do _ rfl rfl _ w (BigFrame.run_move (.tmp 2) rfl w) (.inl ⟨ow, hN.move (j := 1) (by omega) hN.c.s2⟩)
    | 2, _, h2, hno, hfst =>
      obtain ⟨ow, hN⟩ := hfst (by omega)
      exact wpOp_do _ rfl rfl _ w (BigFrame.run_move (.tmp 0) rfl w) (.inl ⟨ow, hN.move (j := 2) (by omega) hN.c.s0⟩)
    | 3, _, h2, hno, hfst =>
      obtain ⟨ow, hN⟩ := hfst (by omega)
      have hd : listed.getD 2 false = true := by simpa [Region.binds] using h2
      exact wpOp_do _ rfl rfl _ _ (run_mk 66 (.tmp 9) rfl n (hN.f 2 (by omega) hd) 63 Try.underlying66 (.int .i8 0) 1 info63 rfl (by omega) (by omega) w) (.inl ⟨_, hN.make (j := 3) (by omega) 63 (.int .i8 0) 3 hd (fun _ _ h => h)⟩)
    | 4, _, h2, hno, hfst =>
      obtain ⟨ow, hN⟩ := hfst (by omega)
      exact wpOp_do _ rfl rfl _ w (BigFrame.run_move (.tmp 0) rfl w) (.inl ⟨ow, hN.move (j := 4) (by omega) hN.c.s0⟩)
    | 5, _, h2, hno, hfst =>
      obtain ⟨ow, hN⟩ := hfst (by omega)
      have hd : listed.getD 4 false = true := by simpa [Region.binds] using h2
      exact wpOp_do _ rfl rfl _ _ (run_mk 23 (.tmp 11) rfl n (hN.f 4 (by omega) hd) 21 Try.underlying23 (.int .i32 0) 4 info21 rfl (by omega) (by omega) w) (.inl ⟨_, hN.make (j := 5) (by omega) 21 (.int .i32 0) 4 hd (fun _ _ h => h)⟩)
    | 6, _, h2, hno, hfst =>
      obtain ⟨ow, hN⟩ := hfst (by omega)
      exact wpOp_do _ rfl rfl _ w (BigFrame.run_move (.tmp 0) rfl w) (.inl ⟨ow, hN.move (j := 6) (by omega) hN.c.s0⟩)
    | 7, _, h2, hno, hfst =>
      obtain ⟨ow, hN⟩ := hfst (by omega)
      have hd : listed.getD 6 false = true := by simpa [Region.binds] using h2
      exact wpOp_do _ rfl rfl _ _ (run_mk 23 (.tmp 13) rfl n (hN.f 6 (by omega) hd) 21 Try.underlying23 (.int .i32 0) 4 info21 rfl (by omega) (by omega) w) (.inl ⟨_, hN.make (j := 7) (by omega) 21 (.int .i32 0) 5 hd (fun _ _ h => h)⟩)
    | 8, _, h2, hno, hfst =>
      obtain ⟨ow, hN⟩ := hfst (by omega)
      exact wpOp_do _ rfl rfl _ w (BigFrame.run_move (.tmp 0) rfl w) (.inl ⟨ow, hN.move (j := 8) (by omega) hN.c.s0⟩)
    | 9, _, h2, hno, hfst =>
      obtain ⟨ow, hN⟩ := hfst (by omega)
      have hd : listed.getD 8 false = true := by simpa [Region.binds] using h2
      exact wpOp_do _ rfl rfl _ _ (run_mk 67 (.tmp 15) rfl n (hN.f 8 (by omega) hd) 68 Try.underlying67 (.float .f64 0) 8 info68 rfl (by omega) (by omega) w) (.inl ⟨_, hN.make (j := 9) (by omega) 68 (.float .f64 0) 6 hd (fun _ _ h => h)⟩)
    | 10, _, h2, hno, hfst =>
      obtain ⟨ow, hN⟩ := hfst (by omega)
      exact wpOp_do _ rfl rfl _ w (BigFrame.run_move (.tmp 0) rfl w) (.inl ⟨ow, hN.move (j := 10) (by omega) hN.c.s0⟩)
    | 11, _, h2, hno, hfst =>
      obtain ⟨ow, hN⟩ := hfst (by omega)
      have hd : listed.getD 10 false = true := by simpa [Region.binds] using h2
      exact wpOp_do _ rfl rfl _ _ (run_mk 50 (.tmp 17) rfl n (hN.f 10 (by omega) hd) 4 Try.underlying50 (.bool false) 1 info4 rfl (by omega) (by omega) w) (.inl ⟨_, hN.make (j := 11) (by omega) 4 (.bool false) 8 hd (fun _ _ h => h)⟩)
    | 12, _, h2, hno, hfst =>
      obtain ⟨ow, hN⟩ := hfst (by omega)
      exact wpOp_do _ rfl rfl _ w (BigFrame.run_move (.tmp 0) rfl w) (.inl ⟨ow, hN.move (j := 12) (by omega) hN.c.s0⟩)
    | 13, _, h2, hno, hfst =>
      obtain ⟨ow, hN⟩ := hfst (by omega)
      have hd : listed.getD 12 false = true := by simpa [Region.binds] using h2
      exact wpOp_do _ rfl rfl _ _ (run_mk 50 (.tmp 19) rfl n (hN.f 12 (by omega) hd) 4 Try.underlying50 (.bool false) 1 info4 rfl (by omega) (by omega) w) (.inl ⟨_, hN.make (j := 13) (by omega) 4 (.bool false) 7 hd (fun _ _ h => h)⟩)
    | 14, _, h2, hno, hfst =>
      have hds : listed.getD 0 false = true ∧ listed.getD 1 false = true ∧ listed.getD 3 false = true ∧ listed.getD 5 false = true ∧ listed.getD 7 false = true ∧ listed.getD 9 false = true ∧ listed.getD 11 false = true ∧ listed.getD 13 false = true := by simpa [Region.binds] using h2
      obtain ⟨d0, d1, d3, d5, d7, d9, d11, d13⟩ := hds
      rcases hI with ⟨ow, hN⟩ | ⟨ow, b3, b5, b7, b9, b11, b13, hJ⟩
      · have e7 : a.eval (.tmp 7) = .slice a1 l1 c1 := hN.f 0 (by omega) d0
        have e8 : a.eval (.tmp 8) = .slice a2 l2 c2 := hN.f 1 (by omega) d1
        have f3 : Mk w.heap n w1.heap.size ow 63 (.int .i8 0) 3 (a.eval (.tmp 10)) := hN.f 3 (by omega) d3
        have f5 : Mk w.heap n w1.heap.size ow 21 (.int .i32 0) 4 (a.eval (.tmp 12)) := hN.f 5 (by omega) d5
        have f7 : Mk w.heap n w1.heap.size ow 21 (.int .i32 0) 5 (a.eval (.tmp 14)) := hN.f 7 (by omega) d7
        have f9 : Mk w.heap n w1.heap.size ow 68 (.float .f64 0) 6 (a.eval (.tmp 16)) := hN.f 9 (by omega) d9
        have f11 : Mk w.heap n w1.heap.size ow 4 (.bool false) 8 (a.eval (.tmp 18)) := hN.f 11 (by omega) d11
        have f13 : Mk w.heap n w1.heap.size ow 4 (.bool false) 7 (a.eval (.tmp 20)) := hN.f 13 (by omega) d13
        obtain ⟨b3, e3, -, -, -⟩ := id f3
        obtain ⟨b5, e5, -, -, -⟩ := id f5
        obtain ⟨b7, e7', -, -, -⟩ := id f7
        obtain ⟨b9, e9, -, -, -⟩ := id f9
        obtain ⟨b11, e11, -, -, -⟩ := id f11
        obtain ⟨b13, e13, -, -, -⟩ := id f13
        rw [e3] at f3
        rw [e5] at f5
        rw [e7'] at f7
        rw [e9] at f9
        rw [e13] at f13
        have hsz := hN.c.sz
        refine wpOp_do _ rfl rfl (.agg (nsCells (.slice a1 l1 c1) (.slice a2 l2 c2) n b3 b5 b7 b9 b11 b13)) w (run_build73 rfl e7 e8 e3 e5 e7' e9 e11 e13 w) (.inr ⟨ow, b3, b5, b7, b9, b11, b13, hN.c.put (by omega) hN.c.bel (fun _ _ => rfl), fun j hj => ?_, f3, f5, f7, f9, f13, ?_, fun h15 => ?_, fun h16 => ?_⟩)
        · by_cases e : j = 14
          · subst e; exact upd_same _ _ _
          · rw [upd_ne _ _ e]
            have g : ∀ i, i < 6 → listed.getD (2 * i + 3) false = true → listed.getD (2 * i + 2) false = true := hN.dep
            match j, hj, e with
            | 0, _, _ => exact d0
            | 1, _, _ => exact d1
            | 2, _, _ => exact g 0 (by omega) d3
            | 3, _, _ => exact d3
            | 4, _, _ => exact g 1 (by omega) d5
            | 5, _, _ => exact d5
            | 6, _, _ => exact g 2 (by omega) d7
            | 7, _, _ => exact d7
            | 8, _, _ => exact g 3 (by omega) d9
            | 9, _, _ => exact d9
            | 10, _, _ => exact g 4 (by omega) d11
            | 11, _, _ => exact d11
            | 12, _, _ => exact g 5 (by omega) d13
            | 13, _, _ => exact d13
            | 14, _, e => exact absurd rfl e
        · exact (getD_put (a := a) (d := 21) (k := 21) (by omega)).trans (if_pos rfl)
        · rw [upd_ne _ _ (by omega), hN.l15] at h15; cases h15
        · rw [upd_ne _ _ (by omega), hN.l16] at h16; cases h16
      · have : listed.getD 14 false = true := hJ.all 14 (by omega)
        rw [hno] at this
        cases this
    | 15, _, h2, hno, hfst =>
      have hd : listed.getD 14 false = true := by simpa [Region.binds] using h2
      rcases hI with ⟨ow, hN⟩ | ⟨ow, b3, b5, b7, b9, b11, b13, hJ⟩
      · have : listed.getD 14 false = false := hN.l14
        rw [hd] at this
        cases this
      · have hsz := hJ.c.sz
        have e21 : a.eval (.tmp 21) = .agg (nsCells (.slice a1 l1 c1) (.slice a2 l2 c2) n b3 b5 b7 b9 b11 b13) := hJ.s21
        have hx : ∀ b, b < w.heap.size → (w.alloc (.cells (nsCells (.slice a1 l1 c1) (.slice a2 l2 c2) n b3 b5 b7 b9 b11 b13) 73)).heap[b]? = w.heap[b]? ∧ upd ow w.heap.size 0 b = ow b := fun b hb => ⟨Below.heap_alloc w _ b hb, upd_ne _ _ (by omega)⟩
        refine wpOp_do _ rfl rfl (.pointer (some ⟨w.heap.size, 0, none⟩)) _ (run_box73 rfl e21 w) (.inr ⟨upd ow w.heap.size 0, b3, b5, b7, b9, b11, b13, hJ.c.put (by omega) (hJ.c.bel.alloc hJ.c.bel.size _) (fun b hb => (hx b hb).2), fun j hj => ?_, hJ.k3.mono hx, hJ.k5.mono hx, hJ.k7.mono hx, hJ.k9.mono hx, hJ.k13.mono hx, ?_, fun _ => ⟨w.heap.size, ?_, heap_alloc_new w _, upd_same _ _ _, hJ.c.bel.size⟩, fun h16 => ?_⟩)
        · rw [upd_ne _ _ (by omega)]; exact hJ.all j hj
        · exact ((getD_put (a := a) (d := 22) (k := 21) (by omega)).trans (if_neg (by omega))).trans hJ.s21
        · exact (getD_put (a := a) (d := 22) (k := 22) (by omega)).trans (if_pos rfl)
        · rw [upd_ne _ _ (by omega)] at h16
          have h15 : listed.getD 15 false = true := (hJ.s6 h16).1
          rw [hno] at h15
          cases h15
    | 16, _, h2, hno, hfst =>
      have hd : listed.getD 15 false = true := by
        have h3 := h2
        simp [Region.binds] at h3
        simpa using h3.1
      rcases hI with ⟨ow, hN⟩ | ⟨ow, b3, b5, b7, b9, b11, b13, hJ⟩
      · have : listed.getD 15 false = false := hN.l15
        rw [hd] at this
        cases this
      · have hsz := hJ.c.sz
        refine wpOp_do _ rfl rfl _ w (BigFrame.run_assign (.tmp 22) rfl w) (.inr ⟨ow, b3, b5, b7, b9, b11, b13, hJ.c.put (by omega) hJ.c.bel (fun _ _ => rfl), fun j hj => ?_, hJ.k3, hJ.k5, hJ.k7, hJ.k9, hJ.k13, ?_, fun h15 => ?_, fun _ => ⟨?_, ?_⟩⟩)
        · rw [upd_ne _ _ (by omega)]; exact hJ.all j hj
        · exact ((getD_put (a := a) (d := 6) (k := 21) (by omega)).trans (if_neg (by omega))).trans hJ.s21
        · obtain ⟨bs, e22, hb⟩ := hJ.s22 hd
          exact ⟨bs, ((getD_put (a := a) (d := 6) (k := 22) (by omega)).trans (if_neg (by omega))).trans e22, hb⟩
        · rw [upd_ne _ _ (by omega)]; exact hd
        · exact ((getD_put (a := a) (d := 6) (k := 6) (by omega)).trans (if_pos rfl)).trans ((getD_put (a := a) (d := 6) (k := 22) (by omega)).trans (if_neg (by omega))).symm
  · intro listed a w hs hI hr
    have hs' : listed.size = 17 := hs
    have q : ∀ i, i < 17 → listed.getD i true = true → listed.getD i false = true := fun i hi h => by rw [← getD_both (by omega)]; exact h
    rcases hI with ⟨ow, hN⟩ | ⟨ow, b3, b5, b7, b9, b11, b13, hJ⟩
    · exfalso
      have q0 := q 0 (by omega) (notReady hr (by decide) (by simp))
      have q1 := q 1 (by omega) (notReady hr (by decide) (by simp))
      have q2 := q 2 (by omega) (notReady hr (by decide) (by simp))
      have q4 := q 4 (by omega) (notReady hr (by decide) (by simp))
      have q6 := q 6 (by omega) (notReady hr (by decide) (by simp))
      have q8 := q 8 (by omega) (notReady hr (by decide) (by simp))
      have q10 := q 10 (by omega) (notReady hr (by decide) (by simp))
      have q12 := q 12 (by omega) (notReady hr (by decide) (by simp))
      have q3 := q 3 (by omega) (notReady hr (by decide) (by simpa [Region.binds] using q2))
      have q5 := q 5 (by omega) (notReady hr (by decide) (by simpa [Region.binds] using q4))
      have q7 := q 7 (by omega) (notReady hr (by decide) (by simpa [Region.binds] using q6))
      have q9 := q 9 (by omega) (notReady hr (by decide) (by simpa [Region.binds] using q8))
      have q11 := q 11 (by omega) (notReady hr (by decide) (by simpa [Region.binds] using q10))
      have q13 := q 13 (by omega) (notReady hr (by decide) (by simpa [Region.binds] using q12))
      have q14 := q 14 (by omega) (notReady hr (by decide) (by
        have hh : listed.getD 0 false = true ∧ listed.getD 1 false = true ∧ listed.getD 3 false = true ∧ listed.getD 5 false = true ∧ listed.getD 7 false = true ∧ listed.getD 9 false = true ∧ listed.getD 11 false = true ∧ listed.getD 13 false = true := ⟨q0, q1, q3, q5, q7, q9, q11, q13⟩
        simpa [Region.binds] using hh))
      have : listed.getD 14 false = false := hN.l14
      rw [q14] at this
      cases this
    · have ql : ∀ j, j < 15 → listed.getD j false = true := hJ.all
      have q15 := q 15 (by omega) (notReady hr (by decide) (by simpa [Region.binds] using ql 14 (by omega)))
      have q16 := q 16 (by omega) (notReady hr (by decide) (by
        have hh : listed.getD 15 false = true ∧ listed.getD 0 false = true ∧ listed.getD 1 false = true ∧ listed.getD 2 false = true ∧ listed.getD 3 false = true ∧ listed.getD 4 false = true ∧ listed.getD 5 false = true ∧ listed.getD 6 false = true ∧ listed.getD 7 false = true ∧ listed.getD 8 false = true ∧ listed.getD 9 false = true ∧ listed.getD 10 false = true ∧ listed.getD 11 false = true ∧ listed.getD 12 false = true ∧ listed.getD 13 false = true ∧ listed.getD 14 false = true :=
          ⟨q15, ql 0 (by omega), ql 1 (by omega), ql 2 (by omega), ql 3 (by omega), ql 4 (by omega), ql 5 (by omega), ql 6 (by omega), ql 7 (by omega), ql 8 (by omega), ql 9 (by omega), ql 10 (by omega), ql 11 (by omega), ql 12 (by omega), ql 13 (by omega), ql 14 (by omega)⟩
        simp [Region.binds] at hh ⊢
        simp [hh]))
      obtain ⟨bs, e22, hbk, hob, hbb⟩ := hJ.s22 q15
      have e6 := (hJ.s6 q16).2
      rename_i hKK
      refine hKK a w ?_
      refine wp_ret ?_
      refine bodyPost_ret (fn := Try.f42) (results_tmp rfl _ _ _) hJ.c.df ⟨bs, ?_, ow, b3, b5, b7, b9, b11, b13, hJ.c.bel, hJ.c.old, hJ.k3, hJ.k5, hJ.k7, hJ.k9, hJ.k13, hbk, hob, hbb⟩
      rw [e6, e22]
  · rfl
  · decide
  · refine .inl ⟨ow1, ⟨rfl, rfl, rfl, rfl, rfl, ⟨rfl, rfl, rfl, Nat.le_refl _, fun _ _ => rfl⟩, fun _ _ => rfl⟩, rfl, rfl, rfl, fun j hj hl => ?_, fun i hi hl => ?_⟩
    all_goals have : ∀ j, j < 16 → (Array.replicate 17 false).getD j false = false := by decide
    · have hl' : (Array.replicate 17 false).getD j false = true := hl
      rw [this j (by omega)] at hl'
      cases hl'
    · have hl' : (Array.replicate 17 false).getD (2 * i + 3) false = true := hl
      rw [this (2 * i + 3) (by omega)] at hl'
      cases hl'

end Go.Proofs.Qxb6600345a
