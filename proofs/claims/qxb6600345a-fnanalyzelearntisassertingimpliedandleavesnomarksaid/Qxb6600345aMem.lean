/-
  DERIVED. Seat b6600345a: THE SOLVER's MEMORY: which block holds what.
-/
import Derived.Test.Qxb6600345aProg
import Derived.Maps.AppendAt
import Derived.Laws.OwnMore
import Derived.OwnWalk
import Derived.WalkKit
import Derived.BigQuiet
import Derived.CellFam
import Derived.Deep.RegionWith
namespace Go.Proofs.Qxb6600345a
open Go.RowKit
set_option linter.unusedVariables false
set_option linter.unusedSimpArgs false

abbrev i32 (x : Nat) : Value := .int .i32 (x : Int)
abbrev one : Nat := 4607182418800017408

/-- A block of just these cells. -/
def Bk (H : Array Obj) (b : Nat) (t : TypeId) (cs : Array Value) : Prop := H[b]? = some (.cells cs t (0, 0))

theorem Bk.lt {H : Array Obj} {b : Nat} {t : TypeId} {cs : Array Value} (h : Bk H b t cs) : b < H.size := (Array.getElem?_eq_some_iff.1 h).1

theorem Bk.cell {w : World} {b : Nat} {t : TypeId} {cs : Array Value} (h : Bk w.heap b t cs) (i : Nat) : w.cell? ⟨b, i, none⟩ = cs[i]? := cell_of_row w b i cs t (0, 0) h
theorem Bk.frozen {w : World} {b : Nat} {t : TypeId} {cs : Array Value} (h : Bk w.heap b t cs) (i : Nat) : w.frozen? ⟨b, i, none⟩ = false := frozen_of_row w b i cs t h
theorem Bk.set {w : World} {b : Nat} {t : TypeId} {cs : Array Value} (h : Bk w.heap b t cs) (i : Nat) (v : Value) : Bk (w.setCell ⟨b, i, none⟩ v).heap b t (cs.setIfInBounds i v) := heap_setCell_same w b i cs t v h
theorem Bk.other {w : World} {b : Nat} {t : TypeId} {cs : Array Value} (h : Bk w.heap b t cs) {b' : Nat} (hne : b ≠ b') (i : Nat) (v : Value) : Bk (w.setCell ⟨b', i, none⟩ v).heap b t cs := (heap_setCell_other w ⟨b', i, none⟩ b v hne).trans h
theorem Bk.grown {w w' : World} {row : Option Nat} {b : Nat} {t : TypeId} {cs : Array Value} (h : Bk w.heap b t cs) (hg : w.grownBy w' row) (hne : some b ≠ row) : Bk w'.heap b t cs := (hg.block b h.lt hne).trans h

/-- A table of n cells. -/
def tab (n : Nat) (f : Nat → Value) : Array Value := Array.ofFn (n := n) fun i => f i.val
@[simp] theorem tab_size (n : Nat) (f : Nat → Value) : (tab n f).size = n := by simp [tab]
theorem tab_at {n : Nat} {f : Nat → Value} {i : Nat} (h : i < n) : (tab n f)[i]? = some (f i) := by simp [tab, h]
def upd {α : Type} (f : Nat → α) (i : Nat) (x : α) : Nat → α := fun j => if j = i then x else f j
theorem upd_same {α : Type} (f : Nat → α) (i : Nat) (x : α) : upd f i x i = x := by simp [upd]
theorem upd_ne {α : Type} (f : Nat → α) {i j : Nat} (x : α) (h : j ≠ i) : upd f i x j = f j := by simp [upd, h]
theorem tab_set (n : Nat) (f : Nat → Value) (i : Nat) (x : Value) : (tab n f).setIfInBounds i x = tab n (upd f i x) := by
  apply Array.ext_getElem?
  intro j
  by_cases hj : j < n
  · rw [tab_at hj, Array.getElem?_setIfInBounds]
    by_cases hij : i = j
    · subst hij; simp [hj, upd]
    · rw [if_neg hij, tab_at hj, upd_ne _ _ (fun e => hij e.symm)]
  · rw [Array.getElem?_eq_none (by simp; omega), Array.getElem?_eq_none (by simp; omega)]
theorem tab_congr {n : Nat} {f g : Nat → Value} (h : ∀ i, i < n → f i = g i) : tab n f = tab n g := by
  apply Array.ext_getElem?
  intro j
  by_cases hj : j < n
  · rw [tab_at hj, tab_at hj, h j hj]
  · rw [Array.getElem?_eq_none (by simp; omega), Array.getElem?_eq_none (by simp; omega)]

/-- A slice of the call's own: nil, or at the head of a row that it owns. -/
def Ow (H : Array Obj) (base : Nat) (e : TypeId) (v : Value) (xs : List Value) : Prop :=
  (v = .slice none 0 0 ∧ xs = []) ∨
  ∃ g cap cur, v = .slice (some ⟨g, 0, none⟩) xs.length cap ∧ base ≤ g ∧ H[g]? = some (.cells cur e (0, 0)) ∧ xs.length ≤ cap ∧ cap ≤ maxLen ∧ cur.size = cap ∧ cur.toList.take xs.length = xs

theorem Ow.owns {w : World} {base : Nat} {e : TypeId} {v : Value} {xs : List Value} (h : Ow w.heap base e v xs) : w.ownsRow base e 1 v xs.length xs := by
  rcases h with ⟨h1, h2⟩ | ⟨g, cap, cur, h1, h2, h3, h4, h5, h6, h7⟩
  · exact ⟨by simp, .inl ⟨h1, by rw [h2]; rfl⟩⟩
  · exact ⟨by simp, .inr ⟨g, cap, cur, h1, h2, h3, h4, h5, by omega, by rw [Nat.mul_one]; exact h7⟩⟩

theorem Ow.of_owns {w : World} {base : Nat} {e : TypeId} {v : Value} {n : Nat} {xs : List Value} (h : w.ownsRow base e 1 v n xs) : Ow w.heap base e v xs := by
  have hl : xs.length = n := by simpa using h.1
  rcases h.2 with ⟨h1, h2⟩ | ⟨g, cap, cur, h1, h2, h3, h4, h5, h6, h7⟩
  · exact .inl ⟨h1, by cases xs with | nil => rfl | cons => simp at hl; omega⟩
  · exact .inr ⟨g, cap, cur, by rw [hl]; exact h1, h2, h3, by omega, h5, by omega, by rw [hl]; simpa using h7⟩

theorem Ow.kept {H H' : Array Obj} {base : Nat} {e : TypeId} {v : Value} {xs : List Value} (h : Ow H base e v xs) (hk : ∀ g, v.ownBlock = some g → g < H.size → H'[g]? = H[g]?) : Ow H' base e v xs := by
  rcases h with h | ⟨g, cap, cur, rfl, h2, h3, h4⟩
  · exact .inl h
  · exact .inr ⟨g, cap, cur, rfl, h2, (hk g rfl (Array.getElem?_eq_some_iff.1 h3).1).trans h3, h4⟩

theorem Ow.lt {H : Array Obj} {base : Nat} {e : TypeId} {v : Value} {xs : List Value} (h : Ow H base e v xs) {b : Nat} (hb : v.ownBlock = some b) : b < H.size := by
  rcases h with ⟨rfl, _⟩ | ⟨g, cap, cur, rfl, _, h3, _⟩
  · cases hb
  · cases hb; exact (Array.getElem?_eq_some_iff.1 h3).1

/-- The fixed blocks. -/
structure Sv where
  bs : Nat
  bcl : Nat
  bw : Nat
  ba : Nat
  bl : Nat
  br : Nat
  bx : Nat
  bp : Nat
  bn : Nat
  n : Nat
  m : Nat
  base : Nat
  cb : Nat → Nat

/-- What they hold, and where the growing rows lie; 'ow': whose a block is. -/
structure Gh where
  cls : Nat → List Nat
  asg : Nat → Nat
  lvl : Nat → Nat
  rsn : Nat → Int
  seen : Nat → Bool
  act : Nat → Bool
  T : List Nat
  vT : Value
  L : List Value
  vL : Value
  q : Nat
  ow : Nat → Nat

def row (b n : Nat) : Value := .slice (some ⟨b, 0, none⟩) n n

/-- The cells of the struct. -/
def svCells (y : Sv) (g : Gh) : Array Value :=
  #[row y.bcl y.m, row y.bw (2 * y.n), row y.ba y.n, row y.bl y.n, row y.br y.n, g.vT, g.vL, .int .i64 (g.q : Int), row y.bx y.n, .float .f64 one,
    .slice none 0 0, .slice none 0 0, .slice none 0 0, row y.bp y.n, row y.bn y.n, .bool false, .slice none 0 0, .slice none 0 0]

structure MemC (H : Array Obj) (y : Sv) (g : Gh) : Prop where
  sv : Bk H y.bs 73 (svCells y g)
  clh : Bk H y.bcl 53 (tab y.m fun ci => row (y.cb ci) (g.cls ci).length)
  asg : Bk H y.ba 63 (tab y.n fun v => .int .i8 (g.asg v : Int))
  lvl : Bk H y.bl 21 (tab y.n fun v => .int .i32 (g.lvl v : Int))
  rsn : Bk H y.br 21 (tab y.n fun v => .int .i32 (g.rsn v))
  act : Bk H y.bx 68 (tab y.n fun v => .float .f64 (if g.act v then one else 0))
  seen : Bk H y.bn 4 (tab y.n fun v => .bool (g.seen v))
  cl : ∀ ci, ci < y.m → Bk H (y.cb ci) 33 ((g.cls ci).map i32).toArray
  trail : Ow H y.base 33 g.vT (g.T.map i32)
  lim : Ow H y.base 3 g.vL g.L
  base : y.base ≤ H.size
  t0 : g.ow y.bs = 0 ∧ y.base ≤ y.bs
  t1 : g.ow y.bcl = 1 ∧ y.base ≤ y.bcl
  t2 : g.ow y.bw = 2 ∧ y.base ≤ y.bw
  t2l : y.bw < H.size
  t3 : g.ow y.ba = 3 ∧ y.base ≤ y.ba
  t4 : g.ow y.bl = 4 ∧ y.base ≤ y.bl
  t5 : g.ow y.br = 5 ∧ y.base ≤ y.br
  t6 : g.ow y.bx = 6 ∧ y.base ≤ y.bx
  t7 : g.ow y.bn = 7 ∧ y.base ≤ y.bn
  t9 : ∀ b, g.vT.ownBlock = some b → g.ow b = 9
  t10 : ∀ b, g.vL.ownBlock = some b → g.ow b = 10
  tc : ∀ ci, ci < y.m → g.ow (y.cb ci) = 20 + 2 * ci ∧ y.base ≤ y.cb ci

/-- The watch lists. -/
structure MemW (H : Array Obj) (y : Sv) (g : Gh) (W : Nat → List Nat) (vW : Nat → Value) : Prop where
  wh : Bk H y.bw 23 (tab (2 * y.n) vW)
  row : ∀ l, l < 2 * y.n → Ow H y.base 21 (vW l) ((W l).map i32)
  tw : ∀ l, l < 2 * y.n → ∀ b, (vW l).ownBlock = some b → g.ow b = 21 + 2 * l

theorem MemC.setAsg {w : World} {y : Sv} {g : Gh} (h : MemC w.heap y g) (v : Nat) (x : Nat) : MemC (w.setCell ⟨y.ba, v, none⟩ (.int .i8 (x : Int))).heap y { g with asg := upd g.asg v x } := by
  have ne : ∀ b, g.ow b ≠ 3 → b ≠ y.ba := fun b hb e => hb (by rw [e]; exact h.t3.1)
  exact {
    sv := h.sv.other (ne _ (by rw [h.t0.1]; decide)) _ _
    clh := h.clh.other (ne _ (by rw [h.t1.1]; decide)) _ _
    asg := by have e := h.asg.set v (.int .i8 (x : Int)); rw [tab_set] at e; refine Eq.mp (congrArg (Bk _ _ _) (tab_congr fun i _ => ?_)) e; simp only [upd]; split <;> rfl
    lvl := h.lvl.other (ne _ (by rw [h.t4.1]; decide)) _ _
    rsn := h.rsn.other (ne _ (by rw [h.t5.1]; decide)) _ _
    act := h.act.other (ne _ (by rw [h.t6.1]; decide)) _ _
    seen := h.seen.other (ne _ (by rw [h.t7.1]; decide)) _ _
    cl := fun ci hc => (h.cl ci hc).other (ne _ (by rw [(h.tc ci hc).1]; omega)) _ _
    trail := h.trail.kept fun b hb _ => heap_setCell_other _ _ _ _ (ne b (by rw [h.t9 b hb]; decide))
    lim := h.lim.kept fun b hb _ => heap_setCell_other _ _ _ _ (ne b (by rw [h.t10 b hb]; decide))
    base := by rw [show (w.setCell ⟨y.ba, v, none⟩ (.int .i8 (x : Int))).heap.size = w.heap.size from by simp]; exact h.base
    t0 := h.t0
    t1 := h.t1
    t2 := h.t2
    t2l := by rw [show (w.setCell ⟨y.ba, v, none⟩ (.int .i8 (x : Int))).heap.size = w.heap.size from by simp]; exact h.t2l
    t3 := h.t3
    t4 := h.t4
    t5 := h.t5
    t6 := h.t6
    t7 := h.t7
    t9 := h.t9
    t10 := h.t10
    tc := h.tc
  }

theorem MemC.setLvl {w : World} {y : Sv} {g : Gh} (h : MemC w.heap y g) (v : Nat) (x : Nat) : MemC (w.setCell ⟨y.bl, v, none⟩ (.int .i32 (x : Int))).heap y { g with lvl := upd g.lvl v x } := by
  have ne : ∀ b, g.ow b ≠ 4 → b ≠ y.bl := fun b hb e => hb (by rw [e]; exact h.t4.1)
  exact {
    sv := h.sv.other (ne _ (by rw [h.t0.1]; decide)) _ _
    clh := h.clh.other (ne _ (by rw [h.t1.1]; decide)) _ _
    asg := h.asg.other (ne _ (by rw [h.t3.1]; decide)) _ _
    lvl := by have e := h.lvl.set v (.int .i32 (x : Int)); rw [tab_set] at e; refine Eq.mp (congrArg (Bk _ _ _) (tab_congr fun i _ => ?_)) e; simp only [upd]; split <;> rfl
    rsn := h.rsn.other (ne _ (by rw [h.t5.1]; decide)) _ _
    act := h.act.other (ne _ (by rw [h.t6.1]; decide)) _ _
    seen := h.seen.other (ne _ (by rw [h.t7.1]; decide)) _ _
    cl := fun ci hc => (h.cl ci hc).other (ne _ (by rw [(h.tc ci hc).1]; omega)) _ _
    trail := h.trail.kept fun b hb _ => heap_setCell_other _ _ _ _ (ne b (by rw [h.t9 b hb]; decide))
    lim := h.lim.kept fun b hb _ => heap_setCell_other _ _ _ _ (ne b (by rw [h.t10 b hb]; decide))
    base := by rw [show (w.setCell ⟨y.bl, v, none⟩ (.int .i32 (x : Int))).heap.size = w.heap.size from by simp]; exact h.base
    t0 := h.t0
    t1 := h.t1
    t2 := h.t2
    t2l := by rw [show (w.setCell ⟨y.bl, v, none⟩ (.int .i32 (x : Int))).heap.size = w.heap.size from by simp]; exact h.t2l
    t3 := h.t3
    t4 := h.t4
    t5 := h.t5
    t6 := h.t6
    t7 := h.t7
    t9 := h.t9
    t10 := h.t10
    tc := h.tc
  }

theorem MemC.setRsn {w : World} {y : Sv} {g : Gh} (h : MemC w.heap y g) (v : Nat) (x : Int) : MemC (w.setCell ⟨y.br, v, none⟩ (.int .i32 x)).heap y { g with rsn := upd g.rsn v x } := by
  have ne : ∀ b, g.ow b ≠ 5 → b ≠ y.br := fun b hb e => hb (by rw [e]; exact h.t5.1)
  exact {
    sv := h.sv.other (ne _ (by rw [h.t0.1]; decide)) _ _
    clh := h.clh.other (ne _ (by rw [h.t1.1]; decide)) _ _
    asg := h.asg.other (ne _ (by rw [h.t3.1]; decide)) _ _
    lvl := h.lvl.other (ne _ (by rw [h.t4.1]; decide)) _ _
    rsn := by have e := h.rsn.set v (.int .i32 x); rw [tab_set] at e; refine Eq.mp (congrArg (Bk _ _ _) (tab_congr fun i _ => ?_)) e; simp only [upd]; split <;> rfl
    act := h.act.other (ne _ (by rw [h.t6.1]; decide)) _ _
    seen := h.seen.other (ne _ (by rw [h.t7.1]; decide)) _ _
    cl := fun ci hc => (h.cl ci hc).other (ne _ (by rw [(h.tc ci hc).1]; omega)) _ _
    trail := h.trail.kept fun b hb _ => heap_setCell_other _ _ _ _ (ne b (by rw [h.t9 b hb]; decide))
    lim := h.lim.kept fun b hb _ => heap_setCell_other _ _ _ _ (ne b (by rw [h.t10 b hb]; decide))
    base := by rw [show (w.setCell ⟨y.br, v, none⟩ (.int .i32 x)).heap.size = w.heap.size from by simp]; exact h.base
    t0 := h.t0
    t1 := h.t1
    t2 := h.t2
    t2l := by rw [show (w.setCell ⟨y.br, v, none⟩ (.int .i32 x)).heap.size = w.heap.size from by simp]; exact h.t2l
    t3 := h.t3
    t4 := h.t4
    t5 := h.t5
    t6 := h.t6
    t7 := h.t7
    t9 := h.t9
    t10 := h.t10
    tc := h.tc
  }

theorem MemC.setSeen {w : World} {y : Sv} {g : Gh} (h : MemC w.heap y g) (v : Nat) (x : Bool) : MemC (w.setCell ⟨y.bn, v, none⟩ (.bool x)).heap y { g with seen := upd g.seen v x } := by
  have ne : ∀ b, g.ow b ≠ 7 → b ≠ y.bn := fun b hb e => hb (by rw [e]; exact h.t7.1)
  exact {
    sv := h.sv.other (ne _ (by rw [h.t0.1]; decide)) _ _
    clh := h.clh.other (ne _ (by rw [h.t1.1]; decide)) _ _
    asg := h.asg.other (ne _ (by rw [h.t3.1]; decide)) _ _
    lvl := h.lvl.other (ne _ (by rw [h.t4.1]; decide)) _ _
    rsn := h.rsn.other (ne _ (by rw [h.t5.1]; decide)) _ _
    act := h.act.other (ne _ (by rw [h.t6.1]; decide)) _ _
    seen := by have e := h.seen.set v (.bool x); rw [tab_set] at e; refine Eq.mp (congrArg (Bk _ _ _) (tab_congr fun i _ => ?_)) e; simp only [upd]; split <;> rfl
    cl := fun ci hc => (h.cl ci hc).other (ne _ (by rw [(h.tc ci hc).1]; omega)) _ _
    trail := h.trail.kept fun b hb _ => heap_setCell_other _ _ _ _ (ne b (by rw [h.t9 b hb]; decide))
    lim := h.lim.kept fun b hb _ => heap_setCell_other _ _ _ _ (ne b (by rw [h.t10 b hb]; decide))
    base := by rw [show (w.setCell ⟨y.bn, v, none⟩ (.bool x)).heap.size = w.heap.size from by simp]; exact h.base
    t0 := h.t0
    t1 := h.t1
    t2 := h.t2
    t2l := by rw [show (w.setCell ⟨y.bn, v, none⟩ (.bool x)).heap.size = w.heap.size from by simp]; exact h.t2l
    t3 := h.t3
    t4 := h.t4
    t5 := h.t5
    t6 := h.t6
    t7 := h.t7
    t9 := h.t9
    t10 := h.t10
    tc := h.tc
  }

theorem MemC.setAct {w : World} {y : Sv} {g : Gh} (h : MemC w.heap y g) (v : Nat) (x : Bool) : MemC (w.setCell ⟨y.bx, v, none⟩ (.float .f64 (if x then one else 0))).heap y { g with act := upd g.act v x } := by
  have ne : ∀ b, g.ow b ≠ 6 → b ≠ y.bx := fun b hb e => hb (by rw [e]; exact h.t6.1)
  exact {
    sv := h.sv.other (ne _ (by rw [h.t0.1]; decide)) _ _
    clh := h.clh.other (ne _ (by rw [h.t1.1]; decide)) _ _
    asg := h.asg.other (ne _ (by rw [h.t3.1]; decide)) _ _
    lvl := h.lvl.other (ne _ (by rw [h.t4.1]; decide)) _ _
    rsn := h.rsn.other (ne _ (by rw [h.t5.1]; decide)) _ _
    act := by have e := h.act.set v (.float .f64 (if x then one else 0)); rw [tab_set] at e; refine Eq.mp (congrArg (Bk _ _ _) (tab_congr fun i _ => ?_)) e; simp only [upd]; split <;> rfl
    seen := h.seen.other (ne _ (by rw [h.t7.1]; decide)) _ _
    cl := fun ci hc => (h.cl ci hc).other (ne _ (by rw [(h.tc ci hc).1]; omega)) _ _
    trail := h.trail.kept fun b hb _ => heap_setCell_other _ _ _ _ (ne b (by rw [h.t9 b hb]; decide))
    lim := h.lim.kept fun b hb _ => heap_setCell_other _ _ _ _ (ne b (by rw [h.t10 b hb]; decide))
    base := by rw [show (w.setCell ⟨y.bx, v, none⟩ (.float .f64 (if x then one else 0))).heap.size = w.heap.size from by simp]; exact h.base
    t0 := h.t0
    t1 := h.t1
    t2 := h.t2
    t2l := by rw [show (w.setCell ⟨y.bx, v, none⟩ (.float .f64 (if x then one else 0))).heap.size = w.heap.size from by simp]; exact h.t2l
    t3 := h.t3
    t4 := h.t4
    t5 := h.t5
    t6 := h.t6
    t7 := h.t7
    t9 := h.t9
    t10 := h.t10
    tc := h.tc
  }

theorem MemC.setQ {w : World} {y : Sv} {g : Gh} (h : MemC w.heap y g) (q : Nat) : MemC (w.setCell ⟨y.bs, 7, none⟩ (.int .i64 (q : Int))).heap y { g with q := q } := by
  have ne : ∀ b, g.ow b ≠ 0 → b ≠ y.bs := fun b hb e => hb (by rw [e]; exact h.t0.1)
  exact {
    sv := h.sv.set 7 (.int .i64 (q : Int))
    clh := h.clh.other (ne _ (by rw [h.t1.1]; decide)) _ _
    asg := h.asg.other (ne _ (by rw [h.t3.1]; decide)) _ _
    lvl := h.lvl.other (ne _ (by rw [h.t4.1]; decide)) _ _
    rsn := h.rsn.other (ne _ (by rw [h.t5.1]; decide)) _ _
    act := h.act.other (ne _ (by rw [h.t6.1]; decide)) _ _
    seen := h.seen.other (ne _ (by rw [h.t7.1]; decide)) _ _
    cl := fun ci hc => (h.cl ci hc).other (ne _ (by rw [(h.tc ci hc).1]; omega)) _ _
    trail := h.trail.kept fun b hb _ => heap_setCell_other _ _ _ _ (ne b (by rw [h.t9 b hb]; decide))
    lim := h.lim.kept fun b hb _ => heap_setCell_other _ _ _ _ (ne b (by rw [h.t10 b hb]; decide))
    base := by rw [show (w.setCell ⟨y.bs, 7, none⟩ (.int .i64 (q : Int))).heap.size = w.heap.size from by simp]; exact h.base
    t0 := h.t0
    t1 := h.t1
    t2 := h.t2
    t2l := by rw [show (w.setCell ⟨y.bs, 7, none⟩ (.int .i64 (q : Int))).heap.size = w.heap.size from by simp]; exact h.t2l
    t3 := h.t3
    t4 := h.t4
    t5 := h.t5
    t6 := h.t6
    t7 := h.t7
    t9 := h.t9
    t10 := h.t10
    tc := h.tc
  }

theorem MemC.setCl {w : World} {y : Sv} {g : Gh} (h : MemC w.heap y g) (c : Nat) (hc : c < y.m) (i x : Nat) : MemC (w.setCell ⟨y.cb c, i, none⟩ (i32 x)).heap y { g with cls := upd g.cls c ((g.cls c).set i x) } := by
  have ne : ∀ b, g.ow b ≠ (20 + 2 * c) → b ≠ y.cb c := fun b hb e => hb (by rw [e]; exact (h.tc c hc).1)
  exact {
    sv := h.sv.other (ne _ (by rw [h.t0.1]; omega)) _ _
    clh := by have e := h.clh.other (ne _ (by rw [h.t1.1]; omega)) i (i32 x); refine Eq.mp (congrArg (Bk _ _ _) (tab_congr fun j _ => ?_)) e; by_cases hj : j = c; (· subst hj; simp [upd]); (· simp [upd, hj])
    asg := h.asg.other (ne _ (by rw [h.t3.1]; omega)) _ _
    lvl := h.lvl.other (ne _ (by rw [h.t4.1]; omega)) _ _
    rsn := h.rsn.other (ne _ (by rw [h.t5.1]; omega)) _ _
    act := h.act.other (ne _ (by rw [h.t6.1]; omega)) _ _
    seen := h.seen.other (ne _ (by rw [h.t7.1]; omega)) _ _
    cl := fun ci hci => by
      by_cases hj : ci = c
      · subst hj
        have e := (h.cl ci hci).set i (i32 x)
        simpa [upd_same, List.map_set] using e
      · have e := (h.cl ci hci).other (b' := y.cb c) (ne _ (by rw [(h.tc ci hci).1]; omega)) i (i32 x)
        simpa [upd_ne _ _ hj] using e
    trail := h.trail.kept fun b hb _ => heap_setCell_other _ _ _ _ (ne b (by rw [h.t9 b hb]; omega))
    lim := h.lim.kept fun b hb _ => heap_setCell_other _ _ _ _ (ne b (by rw [h.t10 b hb]; omega))
    base := by rw [show (w.setCell ⟨y.cb c, i, none⟩ (i32 x)).heap.size = w.heap.size from by simp]; exact h.base
    t0 := h.t0
    t1 := h.t1
    t2 := h.t2
    t2l := by rw [show (w.setCell ⟨y.cb c, i, none⟩ (i32 x)).heap.size = w.heap.size from by simp]; exact h.t2l
    t3 := h.t3
    t4 := h.t4
    t5 := h.t5
    t6 := h.t6
    t7 := h.t7
    t9 := h.t9
    t10 := h.t10
    tc := h.tc
  }

/-- Whose blocks are, behind a row's growth: the row's own block, new or old, bears the tag. -/
def owAt (ow : Nat → Nat) (v : Value) (τ : Nat) : Nat → Nat := match v.ownBlock with | some b => upd ow b τ | none => ow

theorem owAt_self (ow : Nat → Nat) {v : Value} {b : Nat} (τ : Nat) (h : v.ownBlock = some b) : owAt ow v τ b = τ := by simp [owAt, h, upd]

theorem owAt_old {ow : Nat → Nat} {v v0 : Value} {τ N : Nat} (h0 : ∀ b, v0.ownBlock = some b → ow b = τ) (hl : v.ownBlock = v0.ownBlock ∨ ∃ b, v.ownBlock = some b ∧ N ≤ b) {c : Nat} (hc : c < N) (ht : ow c ≠ τ) : owAt ow v τ c = ow c := by
  unfold owAt
  cases hb : v.ownBlock with
  | some b =>
    refine upd_ne _ _ fun e => ?_
    subst e
    rcases hl with hl | ⟨b', hb', hN⟩
    · exact ht (h0 _ (by rw [← hl]; exact hb))
    · rw [hb] at hb'; cases hb'; omega
  | none => rfl

/-- A ROW OF ANOTHER's GROWS ('row': its old block, tagged τ; τ no tag of the core's): the core stands, whatever 'ow' says of the new block. -/
theorem MemC.grow {w w2 : World} {y : Sv} {g : Gh} {row : Option Nat} (h : MemC w.heap y g) (hg : w.grownBy w2 row) (τ : Nat) (hτ : 10 < τ ∧ (τ < 20 ∨ τ % 2 = 1)) (hrow : ∀ b, row = some b → g.ow b = τ) (ow' : Nat → Nat) (how : ∀ c, c < w.heap.size → g.ow c ≠ τ → ow' c = g.ow c) :
    MemC w2.heap y { g with ow := ow' } := by
  have ne : ∀ b, g.ow b ≠ τ → some b ≠ row := fun b hb e => hb (hrow b e.symm)
  exact {
    sv := h.sv.grown hg (ne _ (by rw [h.t0.1]; omega))
    clh := h.clh.grown hg (ne _ (by rw [h.t1.1]; omega))
    asg := h.asg.grown hg (ne _ (by rw [h.t3.1]; omega))
    lvl := h.lvl.grown hg (ne _ (by rw [h.t4.1]; omega))
    rsn := h.rsn.grown hg (ne _ (by rw [h.t5.1]; omega))
    act := h.act.grown hg (ne _ (by rw [h.t6.1]; omega))
    seen := h.seen.grown hg (ne _ (by rw [h.t7.1]; omega))
    cl := fun ci hc => (h.cl ci hc).grown hg (ne _ (by rw [(h.tc ci hc).1]; omega))
    trail := h.trail.kept fun b hb hl => hg.block b hl (ne b (by rw [h.t9 b hb]; omega))
    lim := h.lim.kept fun b hb hl => hg.block b hl (ne b (by rw [h.t10 b hb]; omega))
    base := Nat.le_trans h.base hg.size
    t0 := ⟨(how _ h.sv.lt (by rw [h.t0.1]; omega)).trans h.t0.1, h.t0.2⟩
    t1 := ⟨(how _ h.clh.lt (by rw [h.t1.1]; omega)).trans h.t1.1, h.t1.2⟩
    t2 := ⟨(how _ h.t2l (by rw [h.t2.1]; omega)).trans h.t2.1, h.t2.2⟩
    t2l := Nat.lt_of_lt_of_le h.t2l hg.size
    t3 := ⟨(how _ h.asg.lt (by rw [h.t3.1]; omega)).trans h.t3.1, h.t3.2⟩
    t4 := ⟨(how _ h.lvl.lt (by rw [h.t4.1]; omega)).trans h.t4.1, h.t4.2⟩
    t5 := ⟨(how _ h.rsn.lt (by rw [h.t5.1]; omega)).trans h.t5.1, h.t5.2⟩
    t6 := ⟨(how _ h.act.lt (by rw [h.t6.1]; omega)).trans h.t6.1, h.t6.2⟩
    t7 := ⟨(how _ h.seen.lt (by rw [h.t7.1]; omega)).trans h.t7.1, h.t7.2⟩
    t9 := fun b hb => (how _ (Ow.lt h.trail hb) (by rw [h.t9 b hb]; omega)).trans (h.t9 b hb)
    t10 := fun b hb => (how _ (Ow.lt h.lim hb) (by rw [h.t10 b hb]; omega)).trans (h.t10 b hb)
    tc := fun ci hc => ⟨(how _ (h.cl ci hc).lt (by rw [(h.tc ci hc).1]; omega)).trans (h.tc ci hc).1, (h.tc ci hc).2⟩
  }

/-- THE TRAIL GROWS, AND ITS HEADER IS STORED. -/
theorem MemC.pushT {w w2 : World} {y : Sv} {g : Gh} (h : MemC w.heap y g) (hg : w.grownBy w2 g.vT.ownBlock) (v' : Value) (l n' : Nat) (hown : w2.ownsRow y.base 33 1 v' n' (g.T.map i32 ++ [i32 l]))
    (hl : v'.ownBlock = g.vT.ownBlock ∨ ∃ b, v'.ownBlock = some b ∧ w.heap.size ≤ b) :
    MemC (w2.setCell ⟨y.bs, 5, none⟩ v').heap y { g with T := g.T ++ [l], vT := v', ow := owAt g.ow v' 9 } := by
  have how : ∀ c, c < w.heap.size → g.ow c ≠ 9 → owAt g.ow v' 9 c = g.ow c := fun c hc ht => owAt_old h.t9 hl hc ht
  have ne : ∀ b, g.ow b ≠ 9 → some b ≠ g.vT.ownBlock := fun b hb e => hb (h.t9 b e.symm)
  have ne0 : ∀ b, g.ow b ≠ 0 → b ≠ y.bs := fun b hb e => hb (by rw [e]; exact h.t0.1)
  have hsv := h.sv.grown hg (ne _ (by rw [h.t0.1]; omega))
  have hvb : ∀ b, v'.ownBlock = some b → b ≠ y.bs := fun b hb e => by
    subst e
    rcases hl with hl | ⟨b', hb', hN⟩
    · have := h.t9 _ (by rw [← hl]; exact hb); rw [h.t0.1] at this; omega
    · rw [hb] at hb'; cases hb'; have := h.sv.lt; omega
  exact {
    sv := hsv.set 5 v'
    clh := (h.clh.grown hg (ne _ (by rw [h.t1.1]; omega))).other (ne0 _ (by rw [h.t1.1]; omega)) _ _
    asg := (h.asg.grown hg (ne _ (by rw [h.t3.1]; omega))).other (ne0 _ (by rw [h.t3.1]; omega)) _ _
    lvl := (h.lvl.grown hg (ne _ (by rw [h.t4.1]; omega))).other (ne0 _ (by rw [h.t4.1]; omega)) _ _
    rsn := (h.rsn.grown hg (ne _ (by rw [h.t5.1]; omega))).other (ne0 _ (by rw [h.t5.1]; omega)) _ _
    act := (h.act.grown hg (ne _ (by rw [h.t6.1]; omega))).other (ne0 _ (by rw [h.t6.1]; omega)) _ _
    seen := (h.seen.grown hg (ne _ (by rw [h.t7.1]; omega))).other (ne0 _ (by rw [h.t7.1]; omega)) _ _
    cl := fun ci hc => ((h.cl ci hc).grown hg (ne _ (by rw [(h.tc ci hc).1]; omega))).other (ne0 _ (by rw [(h.tc ci hc).1]; omega)) _ _
    trail := by
      have e := (Ow.of_owns hown).kept (H' := (w2.setCell ⟨y.bs, 5, none⟩ v').heap) fun b hb _ => heap_setCell_other _ _ _ _ (hvb b hb)
      simpa using e
    lim := (h.lim.kept (H' := w2.heap) fun b hb hl' => hg.block b hl' (ne b (by rw [h.t10 b hb]; omega))).kept fun b hb _ => heap_setCell_other _ _ _ _ (ne0 b (by rw [h.t10 b hb]; omega))
    base := by simpa using Nat.le_trans h.base hg.size
    t0 := ⟨(how _ h.sv.lt (by rw [h.t0.1]; omega)).trans h.t0.1, h.t0.2⟩
    t1 := ⟨(how _ h.clh.lt (by rw [h.t1.1]; omega)).trans h.t1.1, h.t1.2⟩
    t2 := ⟨(how _ h.t2l (by rw [h.t2.1]; omega)).trans h.t2.1, h.t2.2⟩
    t2l := by simpa using Nat.lt_of_lt_of_le h.t2l hg.size
    t3 := ⟨(how _ h.asg.lt (by rw [h.t3.1]; omega)).trans h.t3.1, h.t3.2⟩
    t4 := ⟨(how _ h.lvl.lt (by rw [h.t4.1]; omega)).trans h.t4.1, h.t4.2⟩
    t5 := ⟨(how _ h.rsn.lt (by rw [h.t5.1]; omega)).trans h.t5.1, h.t5.2⟩
    t6 := ⟨(how _ h.act.lt (by rw [h.t6.1]; omega)).trans h.t6.1, h.t6.2⟩
    t7 := ⟨(how _ h.seen.lt (by rw [h.t7.1]; omega)).trans h.t7.1, h.t7.2⟩
    t9 := fun b hb => owAt_self _ _ hb
    t10 := fun b hb => (how _ (Ow.lt h.lim hb) (by rw [h.t10 b hb]; omega)).trans (h.t10 b hb)
    tc := fun ci hc => ⟨(how _ (h.cl ci hc).lt (by rw [(h.tc ci hc).1]; omega)).trans (h.tc ci hc).1, (h.tc ci hc).2⟩
  }

/-- THE LEVELS GROW, AND ITS HEADER IS STORED. -/
theorem MemC.pushL {w w2 : World} {y : Sv} {g : Gh} (h : MemC w.heap y g) (hg : w.grownBy w2 g.vL.ownBlock) (v' : Value) (x : Value) (n' : Nat) (hown : w2.ownsRow y.base 3 1 v' n' (g.L ++ [x]))
    (hl : v'.ownBlock = g.vL.ownBlock ∨ ∃ b, v'.ownBlock = some b ∧ w.heap.size ≤ b) :
    MemC (w2.setCell ⟨y.bs, 6, none⟩ v').heap y { g with L := g.L ++ [x], vL := v', ow := owAt g.ow v' 10 } := by
  have how : ∀ c, c < w.heap.size → g.ow c ≠ 10 → owAt g.ow v' 10 c = g.ow c := fun c hc ht => owAt_old h.t10 hl hc ht
  have ne : ∀ b, g.ow b ≠ 10 → some b ≠ g.vL.ownBlock := fun b hb e => hb (h.t10 b e.symm)
  have ne0 : ∀ b, g.ow b ≠ 0 → b ≠ y.bs := fun b hb e => hb (by rw [e]; exact h.t0.1)
  have hsv := h.sv.grown hg (ne _ (by rw [h.t0.1]; omega))
  have hvb : ∀ b, v'.ownBlock = some b → b ≠ y.bs := fun b hb e => by
    subst e
    rcases hl with hl | ⟨b', hb', hN⟩
    · have := h.t10 _ (by rw [← hl]; exact hb); rw [h.t0.1] at this; omega
    · rw [hb] at hb'; cases hb'; have := h.sv.lt; omega
  exact {
    sv := hsv.set 6 v'
    clh := (h.clh.grown hg (ne _ (by rw [h.t1.1]; omega))).other (ne0 _ (by rw [h.t1.1]; omega)) _ _
    asg := (h.asg.grown hg (ne _ (by rw [h.t3.1]; omega))).other (ne0 _ (by rw [h.t3.1]; omega)) _ _
    lvl := (h.lvl.grown hg (ne _ (by rw [h.t4.1]; omega))).other (ne0 _ (by rw [h.t4.1]; omega)) _ _
    rsn := (h.rsn.grown hg (ne _ (by rw [h.t5.1]; omega))).other (ne0 _ (by rw [h.t5.1]; omega)) _ _
    act := (h.act.grown hg (ne _ (by rw [h.t6.1]; omega))).other (ne0 _ (by rw [h.t6.1]; omega)) _ _
    seen := (h.seen.grown hg (ne _ (by rw [h.t7.1]; omega))).other (ne0 _ (by rw [h.t7.1]; omega)) _ _
    cl := fun ci hc => ((h.cl ci hc).grown hg (ne _ (by rw [(h.tc ci hc).1]; omega))).other (ne0 _ (by rw [(h.tc ci hc).1]; omega)) _ _
    lim := by
      have e := (Ow.of_owns hown).kept (H' := (w2.setCell ⟨y.bs, 6, none⟩ v').heap) fun b hb _ => heap_setCell_other _ _ _ _ (hvb b hb)
      exact e
    trail := (h.trail.kept (H' := w2.heap) fun b hb hl' => hg.block b hl' (ne b (by rw [h.t9 b hb]; omega))).kept fun b hb _ => heap_setCell_other _ _ _ _ (ne0 b (by rw [h.t9 b hb]; omega))
    base := by simpa using Nat.le_trans h.base hg.size
    t0 := ⟨(how _ h.sv.lt (by rw [h.t0.1]; omega)).trans h.t0.1, h.t0.2⟩
    t1 := ⟨(how _ h.clh.lt (by rw [h.t1.1]; omega)).trans h.t1.1, h.t1.2⟩
    t2 := ⟨(how _ h.t2l (by rw [h.t2.1]; omega)).trans h.t2.1, h.t2.2⟩
    t2l := by simpa using Nat.lt_of_lt_of_le h.t2l hg.size
    t3 := ⟨(how _ h.asg.lt (by rw [h.t3.1]; omega)).trans h.t3.1, h.t3.2⟩
    t4 := ⟨(how _ h.lvl.lt (by rw [h.t4.1]; omega)).trans h.t4.1, h.t4.2⟩
    t5 := ⟨(how _ h.rsn.lt (by rw [h.t5.1]; omega)).trans h.t5.1, h.t5.2⟩
    t6 := ⟨(how _ h.act.lt (by rw [h.t6.1]; omega)).trans h.t6.1, h.t6.2⟩
    t7 := ⟨(how _ h.seen.lt (by rw [h.t7.1]; omega)).trans h.t7.1, h.t7.2⟩
    t10 := fun b hb => owAt_self _ _ hb
    t9 := fun b hb => (how _ (Ow.lt h.trail hb) (by rw [h.t9 b hb]; omega)).trans (h.t9 b hb)
    tc := fun ci hc => ⟨(how _ (h.cl ci hc).lt (by rw [(h.tc ci hc).1]; omega)).trans (h.tc ci hc).1, (h.tc ci hc).2⟩
  }

/-- WHAT IS NOT OF THE CORE IS AS IT WAS: the watch lists' header (tag 2), rows of odd tags from 11 on. -/
structure Fr (H H' : Array Obj) (ow ow' : Nat → Nat) : Prop where
  size : H.size ≤ H'.size
  keep : ∀ b, b < H.size → (ow b = 2 ∨ 11 ≤ ow b ∧ ow b % 2 = 1) → H'[b]? = H[b]? ∧ ow' b = ow b

theorem Fr.refl (H : Array Obj) (ow : Nat → Nat) : Fr H H ow ow := ⟨Nat.le_refl _, fun _ _ _ => ⟨rfl, rfl⟩⟩
theorem Fr.trans {H H' H'' : Array Obj} {ow ow' ow'' : Nat → Nat} (h : Fr H H' ow ow') (k : Fr H' H'' ow' ow'') : Fr H H'' ow ow'' :=
  ⟨Nat.le_trans h.size k.size, fun b hb ht => by
    obtain ⟨e1, e2⟩ := h.keep b hb ht
    obtain ⟨e3, e4⟩ := k.keep b (Nat.lt_of_lt_of_le hb h.size) (by rw [e2]; exact ht)
    exact ⟨e3.trans e1, e4.trans e2⟩⟩
theorem Fr.set (w : World) (ow : Nat → Nat) {b : Nat} (hb : ow b ≠ 2 ∧ ¬ (11 ≤ ow b ∧ ow b % 2 = 1)) (i : Nat) (v : Value) : Fr w.heap (w.setCell ⟨b, i, none⟩ v).heap ow ow :=
  ⟨by simp, fun c _ ht => ⟨heap_setCell_other _ _ _ _ (fun e => by subst e; rcases ht with ht | ht; exact hb.1 ht; exact hb.2 ht), rfl⟩⟩
theorem Fr.row {w w2 : World} {ow : Nat → Nat} {v0 v' : Value} {τ : Nat} (hτ : τ = 9 ∨ τ = 10) (hg : w.grownBy w2 v0.ownBlock) (h0 : ∀ b, v0.ownBlock = some b → ow b = τ) (hl : v'.ownBlock = v0.ownBlock ∨ ∃ b, v'.ownBlock = some b ∧ w.heap.size ≤ b) : Fr w.heap w2.heap ow (owAt ow v' τ) :=
  ⟨hg.size, fun b hb ht => by
    have hne : ow b ≠ τ := by omega
    exact ⟨hg.block b hb (fun e => hne (h0 b e.symm)), owAt_old h0 hl hb hne⟩⟩

theorem MemW.frame {H H' : Array Obj} {y : Sv} {g g' : Gh} {W : Nat → List Nat} {vW : Nat → Value} (h : MemW H y g W vW) (h2 : g.ow y.bw = 2) (hf : Fr H H' g.ow g'.ow) : MemW H' y g' W vW where
  wh := ((hf.keep y.bw h.wh.lt (.inl h2)).1).trans h.wh
  row := fun l hl => (h.row l hl).kept fun b hb hlt => (hf.keep b hlt (.inr (by have := h.tw l hl b hb; omega))).1
  tw := fun l hl b hb => ((hf.keep b (Ow.lt (h.row l hl) hb) (.inr (by have := h.tw l hl b hb; omega))).2).trans (h.tw l hl b hb)

/-- A store outside the core. -/
theorem MemC.setFar {w : World} {y : Sv} {g : Gh} (h : MemC w.heap y g) {b : Nat} (hb : g.ow b = 2 ∨ 11 ≤ g.ow b ∧ g.ow b % 2 = 1) (i : Nat) (v : Value) : MemC (w.setCell ⟨b, i, none⟩ v).heap y g := by
  have ne : ∀ c, ¬ (g.ow c = 2 ∨ 11 ≤ g.ow c ∧ g.ow c % 2 = 1) → c ≠ b := fun c hc e => hc (by rw [e]; exact hb)
  exact {
    sv := h.sv.other (ne _ (by rw [h.t0.1]; omega)) _ _
    clh := h.clh.other (ne _ (by rw [h.t1.1]; omega)) _ _
    asg := h.asg.other (ne _ (by rw [h.t3.1]; omega)) _ _
    lvl := h.lvl.other (ne _ (by rw [h.t4.1]; omega)) _ _
    rsn := h.rsn.other (ne _ (by rw [h.t5.1]; omega)) _ _
    act := h.act.other (ne _ (by rw [h.t6.1]; omega)) _ _
    seen := h.seen.other (ne _ (by rw [h.t7.1]; omega)) _ _
    cl := fun ci hc => (h.cl ci hc).other (ne _ (by rw [(h.tc ci hc).1]; omega)) _ _
    trail := h.trail.kept fun b hb _ => heap_setCell_other _ _ _ _ (ne b (by rw [h.t9 b hb]; omega))
    lim := h.lim.kept fun b hb _ => heap_setCell_other _ _ _ _ (ne b (by rw [h.t10 b hb]; omega))
    base := by rw [show (w.setCell ⟨b, i, none⟩ v).heap.size = w.heap.size from by simp]; exact h.base
    t0 := h.t0
    t1 := h.t1
    t2 := h.t2
    t2l := by rw [show (w.setCell ⟨b, i, none⟩ v).heap.size = w.heap.size from by simp]; exact h.t2l
    t3 := h.t3
    t4 := h.t4
    t5 := h.t5
    t6 := h.t6
    t7 := h.t7
    t9 := h.t9
    t10 := h.t10
    tc := h.tc
  }

/-- A WATCH LIST GROWS, AND ITS HEADER IS STORED. -/
theorem MemW.push {w w2 : World} {y : Sv} {g : Gh} {W : Nat → List Nat} {vW : Nat → Value} (h : MemC w.heap y g) (hW : MemW w.heap y g W vW) {a : Nat} (ha : a < 2 * y.n) (hg : w.grownBy w2 (vW a).ownBlock) (v' : Value) (x n' : Nat)
    (hown : w2.ownsRow y.base 21 1 v' n' ((W a).map i32 ++ [i32 x])) (hl : v'.ownBlock = (vW a).ownBlock ∨ ∃ b, v'.ownBlock = some b ∧ w.heap.size ≤ b) :
    MemC (w2.setCell ⟨y.bw, a, none⟩ v').heap y { g with ow := owAt g.ow v' (21 + 2 * a) } ∧ MemW (w2.setCell ⟨y.bw, a, none⟩ v').heap y { g with ow := owAt g.ow v' (21 + 2 * a) } (upd W a (W a ++ [x])) (upd vW a v') := by
  have how : ∀ c, c < w.heap.size → g.ow c ≠ 21 + 2 * a → owAt g.ow v' (21 + 2 * a) c = g.ow c := fun c hc ht => owAt_old (hW.tw a ha) hl hc ht
  have h1 : MemC w2.heap y { g with ow := owAt g.ow v' (21 + 2 * a) } := h.grow hg (21 + 2 * a) (by omega) (hW.tw a ha) _ how
  have hbw : owAt g.ow v' (21 + 2 * a) y.bw = 2 := (how _ h.t2l (by rw [h.t2.1]; omega)).trans h.t2.1
  have ne : ∀ b, g.ow b ≠ 21 + 2 * a → some b ≠ (vW a).ownBlock := fun b hb e => hb (hW.tw a ha b e.symm)
  have hvb : ∀ b, v'.ownBlock = some b → b ≠ y.bw := fun b hb e => by
    subst e
    rcases hl with hl | ⟨b', hb', hN⟩
    · have := hW.tw a ha _ (by rw [← hl]; exact hb); rw [h.t2.1] at this; omega
    · rw [hb] at hb'; cases hb'; have := h.t2l; omega
  refine ⟨h1.setFar (.inl hbw) _ _, ?_, ?_, ?_⟩
  · have e := (hW.wh.grown hg (ne _ (by rw [h.t2.1]; omega))).set a v'
    rw [tab_set] at e
    exact e
  · intro l hl'
    by_cases hla : l = a
    · subst hla
      rw [upd_same, upd_same]
      have e := (Ow.of_owns hown).kept (H' := (w2.setCell ⟨y.bw, l, none⟩ v').heap) fun b hb _ => heap_setCell_other _ _ _ _ (hvb b hb)
      simpa using e
    · rw [upd_ne _ _ hla, upd_ne _ _ hla]
      exact ((hW.row l hl').kept (H' := w2.heap) fun b hb hlt => hg.block b hlt (ne b (by rw [hW.tw l hl' b hb]; omega))).kept fun b hb _ => heap_setCell_other _ _ _ _ (fun e => by
        have := hW.tw l hl' b hb; have e' : b = y.bw := e; rw [e', h.t2.1] at this; omega)
  · intro l hl' b hb
    by_cases hla : l = a
    · subst hla
      rw [upd_same] at hb
      exact owAt_self _ _ hb
    · rw [upd_ne _ _ hla] at hb
      exact (how b (Ow.lt (hW.row l hl') hb) (by rw [hW.tw l hl' b hb]; omega)).trans (hW.tw l hl' b hb)

/-- THE STORE OF ONE CELL, the new world under a name of its own. -/
theorem wpList_store_bk {P : Program} {ops : Array Oper} {rest : List Oper} {o : Oper} {a : Act} {w : World} {Q : Exit → Act → World → Prop} (hgd : o.guard = none) (ty : TypeId) (x y : Operand) (ho : o.op = .store ty x y)
    (b i : Nat) (hx : a.eval x = .pointer (some ⟨b, i, none⟩)) (v : Value) (hy : a.eval y = v) (h1 : v.oneCell' = true) (hi : (P.info? ty).map (·.size) = some 1)
    (t : TypeId) (cs : Array Value) (hb : Bk w.heap b t cs) (hlt : i < cs.size)
    (h : ∀ w', Hid (w' = w.setCell ⟨b, i, none⟩ v) → wpList P ops Q rest (a.put o.dst undef) w') : wpList P ops Q (o :: rest) a w :=
  wpList_plain hgd fun _ hK => by
    have hc : w.cell? ⟨b, i, none⟩ = some cs[i] := by rw [hb.cell]; simp [hlt]
    have hf : w.frozen? ⟨b, i, none⟩ = false := hb.frozen i
    have hcs : v.cells = #[v] := by cases v <;> first | rfl | cases h1
    cases hq : P.info? ty with
    | none => simp [hq] at hi
    | some ti =>
      have hs : ti.size = 1 := by simpa [hq] using hi
      have hrun : (storeVar ty ⟨b, i, none⟩ v).run P w = .ok () (w.setCell ⟨b, i, none⟩ v) := by
        clear hy hcs h
        cases v <;> first | (exfalso; cases h1; done) | (simp [storeVar, sizeOf, typeInfo, hq, hs, storeCells, go_sem, run_store P w _ _ _ h1, stored, hc, hf]; done)
      unfold Oper.wp execOp
      simp only [ho, hx, hy, Instr.storeAt, Instr.sureAddr, Sem.run_bind, Sem.run_pure, Result.andThen_ok, hrun]
      exact hK _ _ (h _ rfl)

end Go.Proofs.Qxb6600345a
