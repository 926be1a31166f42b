/-
  DERIVED. Seat b6600345a: one operation of a drawn region, run in a frame that is a letter.
-/
import Derived.Test.Qxb6600345aWalkC
import Derived.Test.Qxb6600345aOrd
namespace Go.Proofs.Qxb6600345a
open Go.RowKit
set_option linter.unusedVariables false
set_option linter.unusedSimpArgs false

theorem run_mv {a : Act} {o : Oper} (x : Operand) (ho : o.op = .move x) {v : Value} (hx : a.eval x = v) (w : World) : (execOp a.eval o).run Try.prog w = .ok (.value v) w := by
  rw [BigFrame.run_move x ho w, hx]

theorem run_nil {a : Act} {o : Oper} (x : Operand) (ho : o.op = .nilCheck x) {p : Addr} (hx : a.eval x = .pointer (some p)) (w : World) : (execOp a.eval o).run Try.prog w = .ok (.value (.pointer (some p))) w := by
  unfold execOp
  rw [ho]
  simp only [hx]
  simp [go_sem]

theorem run_field {a : Act} {o : Oper} (x : Operand) (ho : o.op = .fieldAddr 73 x 1) {b : Nat} (hx : a.eval x = .pointer (some ⟨b, 0, none⟩)) (w : World) : (execOp a.eval o).run Try.prog w = .ok (.value (.pointer (some ⟨b, 1, none⟩))) w := by
  unfold execOp
  rw [ho]
  simp only [hx]
  kernel_rfl

theorem run_load1 {a : Act} {o : Oper} (t : TypeId) (x : Operand) (ho : o.op = .load t x) (ht : t = 22 ∨ t = 33 ∨ t = 23) {p : Addr} (hx : a.eval x = .pointer (some p)) {v : Value} (w : World) (hc : w.cell? p = some v) (h1 : v.oneCell' = true) : (execOp a.eval o).run Try.prog w = .ok (.value v) w := by
  unfold execOp
  rw [ho]
  simp only [hx]
  rcases ht with rfl | rfl | rfl
  all_goals (cases v <;> first | (cases h1; done) | simp [go_sem, hc])

theorem run_index {a : Act} {o : Oper} (t e : TypeId) (x y : Operand) (ho : o.op = .indexAddr t x y) (ht : t = 53 ∨ t = 22) {b len cap i : Nat} (hx : a.eval x = .slice (some ⟨b, 0, none⟩) len cap) {k : IntKind} (hy : a.eval y = .int k (i : Int)) (hi : i < len) (hlen : len ≤ 1000000) (w : World) : (execOp a.eval o).run Try.prog w = .ok (.value (.pointer (some ⟨b, i, none⟩))) w := by
  unfold execOp
  rw [ho]
  simp only [hx, hy]
  have h1 : ((i : Nat) : Int) < (len : Int) := by omega
  rcases ht with rfl | rfl
  · cases k <;> simp [go_sem, h1]
  · cases k <;> simp [go_sem, h1]

theorem run_enter41 {a : Act} {o : Oper} (x : Operand) (ho : o.op = .call { callee := .value (.func 41), args := #[x], argTypes := #[33] }) {v : Value} (hx : a.eval x = v) (w : World) : (execOp a.eval o).run Try.prog w = .ok (.enter 41 #[v]) w := by
  have hf : a.eval (.func 41) = .func (.func 41) #[] #[] := rfl
  unfold execOp
  rw [ho]
  simp only [resolve, hf, List.map_toArray, List.map_cons, List.map_nil, hx]
  simp [go_sem]

theorem run_bslice {a : Act} {o : Oper} (x : Operand) (ho : o.op = .buildSlice 23 1 #[(0, x)]) {c : Nat} (hx : a.eval x = i32 c) (w : World) : (execOp a.eval o).run Try.prog w = .ok (.value (.slice (some ⟨w.heap.size, 0, none⟩) 1 1)) (w.alloc (.cells #[i32 c] 21)) := by
  unfold execOp
  rw [ho]
  simp only [List.map_toArray, List.map_cons, List.map_nil, hx]
  simp [go_sem]

theorem run_store23 {a : Act} {o : Oper} (x y : Operand) (ho : o.op = .store 23 x y) {p : Addr} (hx : a.eval x = .pointer (some p)) {q : Option Addr} {l c : Nat} (hy : a.eval y = .slice q l c) (w : World) {u : Value} (hc : w.cell? p = some u) (hf : w.frozen? p = false) : (execOp a.eval o).run Try.prog w = .ok .skip (w.setCell p (.slice q l c)) := by
  unfold execOp
  rw [ho]
  simp only [hx, hy]
  simp [go_sem, hc, hf]

/-- One operation of a region that draws, that yields nothing. -/
theorem wpOp_skip {P : Program} {ops : Array Oper} {Q : Exit → Act → World → Prop} {i : Nat} {K : Act → World → Prop} {a : Act} {w : World} (o : Oper) (ho : ops[i]? = some o) (hg : o.guard = none) (w' : World) (hrun : (execOp a.eval o).run P w = .ok .skip w') (hK : K (a.put o.dst undef) w') : wpOp P ops Q i K a w := by
  unfold wpOp
  rw [ho]
  simp only []
  rw [if_pos (by simp [Region.wanted, hg])]
  refine .inl ?_
  unfold Oper.wp
  rw [hrun]
  exact hK

/-- One call of a function that leaves the world alone. -/
theorem wpOp_pure {P : Program} {ops : Array Oper} {Q : Exit → Act → World → Prop} {i : Nat} {K : Act → World → Prop} {a : Act} {w : World} (o : Oper) (ho : ops[i]? = some o) (hg : o.guard = none) (f : FuncId) (args : Array Value) (hrun : (execOp a.eval o).run P w = .ok (.enter f args) w) (v : Value) (hc : Calls P f args w fun e w' => e = .returned v ∧ w' = w) (hK : K (a.put o.dst v) w) : wpOp P ops Q i K a w := by
  unfold wpOp
  rw [ho]
  simp only []
  rw [if_pos (by simp [Region.wanted, hg])]
  refine .inl ?_
  unfold Oper.wp
  rw [hrun, Oper.upon_enter]
  refine hc.mono fun e w'' hh => ?_
  obtain ⟨rfl, rfl⟩ := hh
  exact hK

/-- What each operation of rewatch's last region yields. -/
def rwK (bs bw cb n n2 ck a ci : Nat) (aW : Option Addr) (lw cW N : Nat) : Nat → Value
  | 0 => .pointer (some ⟨bs, 0, none⟩)
  | 1 => .pointer (some ⟨bs, 0, none⟩)
  | 2 => .pointer (some ⟨bs, 1, none⟩)
  | 3 => .slice (some ⟨bw, 0, none⟩) (2 * n) (2 * n)
  | 4 => .slice (some ⟨cb, 0, none⟩) n2 n2
  | 5 => .pointer (some ⟨cb, 1, none⟩)
  | 6 => i32 ck
  | 7 => i32 a
  | 8 => .pointer (some ⟨bs, 0, none⟩)
  | 9 => .pointer (some ⟨bs, 0, none⟩)
  | 10 => .pointer (some ⟨bs, 1, none⟩)
  | 11 => .slice (some ⟨bw, 0, none⟩) (2 * n) (2 * n)
  | 12 => .slice (some ⟨cb, 0, none⟩) n2 n2
  | 13 => .pointer (some ⟨cb, 1, none⟩)
  | 14 => i32 ck
  | 15 => i32 a
  | 16 => .pointer (some ⟨bw, a, none⟩)
  | 17 => .slice aW lw cW
  | 18 => i32 ci
  | 19 => .slice (some ⟨N, 0, none⟩) 1 1
  | 21 => .pointer (some ⟨bw, a, none⟩)
  | _ => undef

def rwP (bs cb n2 ci : Nat) : Nat → Value
  | 0 => .pointer (some ⟨bs, 0, none⟩)
  | 1 => .slice (some ⟨cb, 0, none⟩) n2 n2
  | _ => i32 ci

/-- The state inside rewatch's last region, in whatever order: 'K': what each operation yields; 'G': what append leaves. -/
structure RI (K : Nat → Value) (pre : Nat → Value) (w0 w1 : World) (G : World → Value → Prop) (fin : World → Value → World) (l : Nat → Bool) (a : Act) (w : World) : Prop where
  sz : a.tmps.size = 55
  df : a.defers = []
  pr : ∀ k, k < 3 → a.tmps.getD k undef = pre k
  ks : ∀ i, i < 23 → i ≠ 20 → i ≠ 22 → l i = true → a.tmps.getD (33 + i) undef = K i
  ph : (l 19 = false ∧ l 20 = false ∧ l 22 = false ∧ w = w0) ∨ (l 19 = true ∧ l 20 = false ∧ l 22 = false ∧ w = w1) ∨ (l 19 = true ∧ l 20 = true ∧ l 22 = false ∧ G w (a.tmps.getD 53 undef)) ∨ (l 22 = true ∧ (∀ i, i < 23 → l i = true) ∧ ∃ v w2, G w2 v ∧ w = fin w2 v)

theorem RI.slots {K : Nat → Value} {pre : Nat → Value} {w0 w1 : World} {G : World → Value → Prop} {fin : World → Value → World} {l : Nat → Bool} {a : Act} {w : World} (h : RI K pre w0 w1 G fin l a w) {i : Nat} (hi : i < 22) (v : Value) :
    (a.put (some (33 + i)) v).tmps.size = 55 ∧ (∀ k, k < 3 → (a.put (some (33 + i)) v).tmps.getD k undef = pre k) ∧ (a.put (some (33 + i)) v).tmps.getD (33 + i) undef = v ∧ ∀ j, j < 22 → j ≠ i → (a.put (some (33 + i)) v).tmps.getD (33 + j) undef = a.tmps.getD (33 + j) undef := by
  have hsz := h.sz
  refine ⟨by simpa [Act.put] using h.sz, fun k hk => ?_, ?_, fun j hj hne => ?_⟩
  · rw [getD_put (by omega), if_neg (by omega)]; exact h.pr k hk
  · rw [getD_put (by omega), if_pos rfl]
  · rw [getD_put (by omega), if_neg (by omega)]

theorem RI.plain {K : Nat → Value} {pre : Nat → Value} {w0 w1 : World} {G : World → Value → Prop} {fin : World → Value → World} {l : Nat → Bool} {a : Act} {w : World} (h : RI K pre w0 w1 G fin l a w) (i : Nat) (hi : i < 23) (h19 : i ≠ 19) (h20 : i ≠ 20) (h22 : i ≠ 22) (hl : l i = false) : RI K pre w0 w1 G fin (upd l i true) (a.put (some (33 + i)) (K i)) w := by
  obtain ⟨s1, s2, s3, s4⟩ := h.slots (show i < 22 by omega) (K i)
  refine ⟨s1, h.df, s2, fun j hj j20 j22 hjl => ?_, ?_⟩
  · by_cases e : j = i
    · subst e; exact s3
    · rw [s4 j (by omega) e]
      rw [upd_ne _ _ e] at hjl
      exact h.ks j hj j20 j22 hjl
  · rw [upd_ne _ _ (Ne.symm h19), upd_ne _ _ (Ne.symm h20), upd_ne _ _ (Ne.symm h22), s4 20 (by omega) (Ne.symm h20)]
    rcases h.ph with hp | hp | hp | ⟨_, hp, _⟩
    · exact .inl hp
    · exact .inr (.inl hp)
    · exact .inr (.inr (.inl hp))
    · rw [hp i hi] at hl; cases hl

/-- Not yet stored. -/
theorem RI.cells {K : Nat → Value} {pre : Nat → Value} {w0 w1 : World} {G : World → Value → Prop} {fin : World → Value → World} {l : Nat → Bool} {a : Act} {w : World} (h : RI K pre w0 w1 G fin l a w) (C : World → Prop) (h0 : C w0) (h1 : C w1) (h2 : ∀ w v, G w v → C w) {i : Nat} (hi : i < 23) (hl : l i = false) : C w := by
  rcases h.ph with ⟨_, _, _, rfl⟩ | ⟨_, _, _, rfl⟩ | ⟨_, _, _, hg⟩ | ⟨_, hp, _⟩
  · exact h0
  · exact h1
  · exact h2 _ _ hg
  · rw [hp i hi] at hl; cases hl

theorem RI.built {K : Nat → Value} {pre : Nat → Value} {w0 w1 : World} {G : World → Value → Prop} {fin : World → Value → World} {l : Nat → Bool} {a : Act} {w : World} (h : RI K pre w0 w1 G fin l a w) (hl : l 19 = false) : w = w0 ∧ RI K pre w0 w1 G fin (upd l 19 true) (a.put (some 52) (K 19)) w1 := by
  obtain ⟨s1, s2, s3, s4⟩ := h.slots (i := 19) (by omega) (K 19)
  rcases h.ph with ⟨_, h20, h22, e⟩ | ⟨h19, _⟩ | ⟨h19, _⟩ | ⟨_, hp, _⟩
  · refine ⟨e, s1, h.df, s2, fun j hj j20 j22 hjl => ?_, .inr (.inl ⟨upd_same _ _ _, by rw [upd_ne _ _ (by omega)]; exact h20, by rw [upd_ne _ _ (by omega)]; exact h22, rfl⟩)⟩
    by_cases e : j = 19
    · subst e; exact s3
    · rw [upd_ne _ _ e] at hjl
      exact (s4 j (by omega) e).trans (h.ks j hj j20 j22 hjl)
  · rw [hl] at h19; cases h19
  · rw [hl] at h19; cases h19
  · rw [hp 19 (by omega)] at hl; cases hl

theorem RI.grown {K : Nat → Value} {pre : Nat → Value} {w0 w1 : World} {G : World → Value → Prop} {fin : World → Value → World} {l : Nat → Bool} {a : Act} {w : World} (h : RI K pre w0 w1 G fin l a w) (hl : l 20 = false) (h19 : l 19 = true) : w = w1 ∧ ∀ v w2, G w2 v → RI K pre w0 w1 G fin (upd l 20 true) (a.put (some 53) v) w2 := by
  rcases h.ph with ⟨h19', _⟩ | ⟨_, _, h22, e⟩ | ⟨_, h20, _⟩ | ⟨_, hp, _⟩
  · rw [h19] at h19'; cases h19'
  · refine ⟨e, fun v w2 hg => ?_⟩
    obtain ⟨s1, s2, s3, s4⟩ := h.slots (i := 20) (by omega) v
    refine ⟨s1, h.df, s2, fun j hj j20 j22 hjl => ?_, .inr (.inr (.inl ⟨by rw [upd_ne _ _ (by omega)]; exact h19, upd_same _ _ _, by rw [upd_ne _ _ (by omega)]; exact h22, by rw [s3]; exact hg⟩))⟩
    rw [upd_ne _ _ j20] at hjl
    exact (s4 j (by omega) j20).trans (h.ks j hj j20 j22 hjl)
  · rw [hl] at h20; cases h20
  · rw [hp 20 (by omega)] at hl; cases hl

theorem RI.stored {K : Nat → Value} {pre : Nat → Value} {w0 w1 : World} {G : World → Value → Prop} {fin : World → Value → World} {l : Nat → Bool} {a : Act} {w : World} (h : RI K pre w0 w1 G fin l a w) (hl : l 22 = false) (hall : ∀ i, i < 22 → l i = true) : G w (a.tmps.getD 53 undef) ∧ RI K pre w0 w1 G fin (upd l 22 true) a (fin w (a.tmps.getD 53 undef)) := by
  rcases h.ph with ⟨h19, _⟩ | ⟨_, h20, _⟩ | ⟨_, _, _, hg⟩ | ⟨h22, _⟩
  · rw [hall 19 (by omega)] at h19; cases h19
  · rw [hall 20 (by omega)] at h20; cases h20
  · refine ⟨hg, h.sz, h.df, h.pr, fun j hj j20 j22 hjl => ?_, .inr (.inr (.inr ⟨upd_same _ _ _, fun i hi => ?_, _, w, hg, rfl⟩))⟩
    · rw [upd_ne _ _ j22] at hjl; exact h.ks j hj j20 j22 hjl
    · by_cases e : i = 22
      · subst e; exact upd_same _ _ _
      · rw [upd_ne _ _ e]; exact hall i (by omega)
  · rw [hl] at h22; cases h22

end Go.Proofs.Qxb6600345a
