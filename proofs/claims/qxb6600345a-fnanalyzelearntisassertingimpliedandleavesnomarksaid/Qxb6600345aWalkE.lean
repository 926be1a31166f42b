/-
  DERIVED. Seat b6600345a: propagate.
-/
import Derived.Test.Qxb6600345aWalkD
import Derived.Test.Qxb6600345aLogic
import Derived.Test.Qxb6600345aPut
import Derived.Deep.LoopGhost
import Derived.Deep.CutRange
namespace Go.Proofs.Qxb6600345a
open Go.RowKit
set_option linter.unusedVariables false
set_option linter.unusedSimpArgs false
attribute [local go_sem ↓] Go.wp_at_zero Go.wp_at_succ

/-- The solver between two steps. -/
structure PI (y : Sv) (orig : Nat → List Nat) (w0 w : World) (g : Gh) (E : List En) (d : Nat) : Prop where
  mem : MemC w.heap y g
  below : Below y.base w0 w
  tok : TOK y g E d
  cok : COK y g.cls orig
  q : g.q ≤ g.T.length
  cur : ∀ j e, g.q ≤ j → E[j]? = some e → e.lev = d

/-- The watch lists at rest. -/
structure PW (y : Sv) (w : World) (g : Gh) (W : Nat → List Nat) (vW : Nat → Value) : Prop where
  mem : MemW w.heap y g W vW
  ok : WOK y g.cls W

/-- Clause ci is false, and one of its literals was falsified at the current level. -/
def Confl (y : Sv) (g : Gh) (E : List En) (d ci : Nat) : Prop :=
  ci < y.m ∧ (∀ x ∈ g.cls ci, neg x ∈ g.T) ∧ ∃ x ∈ g.cls ci, ∃ e ∈ E, e.l = neg x ∧ e.lev = d

def PrPost (y : Sv) (orig : Nat → List Nat) (w0 : World) (g : Gh) (d : Nat) (e : Ending) (w' : World) : Prop :=
  ∃ g' E', PI y orig w0 w' g' E' d ∧ g'.seen = g.seen ∧ g'.act = g.act ∧
    ((e = .returned (.int .i32 (-1)) ∧ g'.q = g'.T.length ∧ ∃ W vW, PW y w' g' W vW) ∨ ∃ ci, e = .returned (i32 ci) ∧ Confl y g' E' d ci)

/-- p's watch list while it is walked: i have been looked at, K of them kept. -/
structure In (y : Sv) (orig : Nat → List Nat) (w0 : World) (g : Gh) (d p : Nat) (v : Value) (lw q : Nat) (wr : World) (g2 : Gh) (E2 : List En) (W2 : Nat → List Nat) (vW2 : Nat → Value) (K : List Nat) (i : Nat) : Prop where
  pi : PI y orig w0 wr g2 E2 d
  mw : MemW wr.heap y g2 W2 vW2
  hv : vW2 p = v
  len : (W2 p).length = lw
  tk : (W2 p).take K.length = K
  wip : WIP y g2.cls W2 p K ((W2 p).drop i)
  hp : ∃ e ∈ E2, e.l = p ∧ e.lev = d
  seen : g2.seen = g.seen
  act : g2.act = g.act
  q : g2.q = q

theorem watch_at {w : World} {y : Sv} {g : Gh} {W : Nat → List Nat} {vW : Nat → Value} (h : MemW w.heap y g W vW) {p : Nat} (hp : p < 2 * y.n) {aW : Option Addr} {lw cW i ci : Nat} (hv : vW p = .slice aW lw cW) (hc : (W p)[i]? = some ci) :
    ∃ gp, aW = some ⟨gp, 0, none⟩ ∧ w.cell? ⟨gp, i, none⟩ = some (i32 ci) ∧ lw ≤ cW ∧ ∀ j, j < lw → (w.cell? ⟨gp, j, none⟩).isSome = true ∧ w.frozen? ⟨gp, j, none⟩ = false := by
  have hi := (List.getElem?_eq_some_iff.1 hc).1
  rcases h.row p hp with ⟨h1, h2⟩ | ⟨b, cap, cur, h1, h2, h3, h4, h5, h6, h7⟩
  · rw [List.map_eq_nil_iff] at h2; rw [h2] at hi; simp at hi
  · rw [hv] at h1
    injection h1 with e1 e2 e3
    rw [← e2, ← e3] at h4
    refine ⟨b, e1, ?_, h4, fun j hj => ?_⟩
    · rw [cell_of_row w b i cur 21 (0, 0) h3]
      have e : (cur.toList.take ((W p).map i32).length)[i]? = ((W p).map i32)[i]? := by rw [h7]
      rw [List.getElem?_take_of_lt (by simpa using hi), Array.getElem?_toList] at e
      rw [e, List.getElem?_map, hc]
      rfl
    · rw [cell_of_row w b j cur 21 (0, 0) h3, frozen_of_row w b j cur 21 h3]
      exact ⟨by simp; omega, rfl⟩

theorem In.swap01 {y : Sv} {orig : Nat → List Nat} {w0 : World} {g : Gh} {d p : Nat} {v : Value} {lw q : Nat} {wr wc : World} {g2 : Gh} {E2 : List En} {W2 : Nat → List Nat} {vW2 : Nat → Value} {K : List Nat} {i ci : Nat}
    (h : In y orig w0 g d p v lw q wr g2 E2 W2 vW2 K i) (hci : ci < y.m) (h0 : (g2.cls ci).getD 0 0 = neg p) (hm : MemC wc.heap y { g2 with cls := upd g2.cls ci (swp (g2.cls ci) 0 1) }) (hw : MemW wc.heap y g2 W2 vW2) (hb : Below y.base w0 wc) :
    In y orig w0 g d p v lw q wc { g2 with cls := upd g2.cls ci (swp (g2.cls ci) 0 1) } E2 W2 vW2 K i := by
  have hl := h.pi.cok.len hci
  obtain ⟨e, he, hel, hed⟩ := h.hp
  have hpT : p ∈ g2.T := by rw [h.pi.tok.T]; exact List.mem_map.2 ⟨e, he, hel⟩
  refine ⟨⟨hm, hb, h.pi.tok.setCls ci _ (fun hh => ?_) g2.ow, h.pi.cok.set ci (swp_perm _ (by omega) (by omega)), h.pi.q, h.pi.cur⟩, ⟨hw.wh, hw.row, hw.tw⟩, h.hv, h.len, h.tk, h.wip.swap01 ci hl.1, h.hp, h.seen, h.act, h.q⟩
  rw [h0] at hh
  exact h.pi.tok.nd.not_both hpT hh

theorem In.rewatch {y : Sv} {orig : Nat → List Nat} {w0 : World} {g : Gh} {d p : Nat} {v : Value} {lw q : Nat} {wr wc : World} {g2 : Gh} {E2 : List En} {W2 : Nat → List Nat} {vW2 : Nat → Value} {K : List Nat} {i ci k : Nat} {v' : Value} {ow' : Nat → Nat}
    (h : In y orig w0 g d p v lw q wr g2 E2 W2 vW2 K i) (hd : (W2 p).drop i = ci :: (W2 p).drop (i + 1)) (hci : ci < y.m) (h1 : (g2.cls ci).getD 1 0 = neg p) (h0 : (g2.cls ci).getD 0 0 ∉ g2.T) (hk2 : 2 ≤ k) (hk : k < (g2.cls ci).length)
    (hm : MemC wc.heap y { g2 with cls := upd g2.cls ci (swp (g2.cls ci) 1 k), ow := ow' }) (hw : MemW wc.heap y { g2 with ow := ow' } (upd W2 (neg ((g2.cls ci).getD k 0)) (W2 (neg ((g2.cls ci).getD k 0)) ++ [ci])) (upd vW2 (neg ((g2.cls ci).getD k 0)) v')) (hb : Below y.base w0 wc) :
    In y orig w0 g d p v lw q wc { g2 with cls := upd g2.cls ci (swp (g2.cls ci) 1 k), ow := ow' } E2 (upd W2 (neg ((g2.cls ci).getD k 0)) (W2 (neg ((g2.cls ci).getD k 0)) ++ [ci])) (upd vW2 (neg ((g2.cls ci).getD k 0)) v') K (i + 1) := by
  have hv := h.pi.cok.vars hci
  have hx1 : (g2.cls ci).getD k 0 / 2 ≠ neg p / 2 := by rw [← h1]; exact vars_ne hv hk (by omega) (by omega)
  have hxp : p ≠ neg ((g2.cls ci).getD k 0) := fun e => hx1 (by rw [e, neg_neg])
  have e := h.wip
  rw [hd] at e
  have e2 := e.rewatch hv hk2 hk h1
  refine ⟨⟨hm, hb, h.pi.tok.setCls ci _ h0 ow', h.pi.cok.set ci (swp_perm _ (by omega) hk), h.pi.q, h.pi.cur⟩, ⟨hw.wh, hw.row, hw.tw⟩, by rw [upd_ne _ _ hxp]; exact h.hv, by rw [upd_ne _ _ hxp]; exact h.len, by rw [upd_ne _ _ hxp]; exact h.tk, ?_, h.hp, h.seen, h.act, h.q⟩
  rw [upd_ne _ _ hxp]
  exact e2

theorem rowA {w : World} {y : Sv} {g : Gh} {W : Nat → List Nat} {vW : Nat → Value} (h : MemW w.heap y g W vW) {p : Nat} (hp : p < 2 * y.n) {gp lw cW j : Nat} (hv : vW p = .slice (some ⟨gp, 0, none⟩) lw cW) (hj : j < lw) (o : Obj) :
    ((w.alloc o).cell? ⟨gp, j, none⟩).isSome = true ∧ (w.alloc o).frozen? ⟨gp, j, none⟩ = false := by
  have h' := h.alloc o
  rcases h'.row p hp with ⟨h1, h2⟩ | ⟨b, cap, cur, h1, h2, h3, h4, h5, h6, h7⟩
  · rw [hv] at h1; cases h1
  · rw [hv] at h1
    injection h1 with e1 e2 e3
    injection e1 with e1
    injection e1 with e1
    subst e1
    rw [cell_of_row _ gp j cur 21 (0, 0) h3, frozen_of_row _ gp j cur 21 h3]
    refine ⟨?_, rfl⟩
    have : j < cur.size := by omega
    simp [this]

theorem rowBase {w : World} {y : Sv} {g : Gh} {W : Nat → List Nat} {vW : Nat → Value} (h : MemW w.heap y g W vW) {p : Nat} (hp : p < 2 * y.n) {gp lw cW : Nat} (hv : vW p = .slice (some ⟨gp, 0, none⟩) lw cW) : y.base ≤ gp := by
  rcases h.row p hp with ⟨h1, h2⟩ | ⟨b, cap, cur, h1, h2, h3, h4, h5, h6, h7⟩
  · rw [hv] at h1; cases h1
  · rw [hv] at h1
    injection h1 with e1 e2 e3
    injection e1 with e1
    injection e1 with e1
    subst e1
    exact h2

theorem In.keep {y : Sv} {orig : Nat → List Nat} {w0 : World} {g : Gh} {d p : Nat} {v : Value} {lw q : Nat} {wr wc : World} {g2 : Gh} {E2 : List En} {W2 : Nat → List Nat} {vW2 : Nat → Value} {K : List Nat} {i ci : Nat}
    (h : In y orig w0 g d p v lw q wr g2 E2 W2 vW2 K i) (hd : (W2 p).drop i = ci :: (W2 p).drop (i + 1)) (hK : K.length ≤ i) (hil : i < lw) (hm : MemC wc.heap y g2) (hw : MemW wc.heap y g2 (upd W2 p ((W2 p).set K.length ci)) vW2) (hb : Below y.base w0 wc) :
    In y orig w0 g d p v lw q wc g2 E2 (upd W2 p ((W2 p).set K.length ci)) vW2 (K ++ [ci]) (i + 1) := by
  have hlen := h.len
  refine ⟨⟨hm, hb, h.pi.tok, h.pi.cok, h.pi.q, h.pi.cur⟩, hw, h.hv, by rw [upd_same, List.length_set]; exact h.len, ?_, ?_, h.hp, h.seen, h.act, h.q⟩
  · rw [upd_same, List.length_append]
    show ((W2 p).set K.length ci).take (K.length + 1) = _
    rw [List.take_add_one, List.take_set_of_le (Nat.le_refl _), h.tk, List.getElem?_set_self (by omega)]
    rfl
  · rw [upd_same, List.drop_set_of_lt (by omega)]
    have e := h.wip
    rw [hd] at e
    exact (e.keep).anyW _

theorem trail_at {w : World} {y : Sv} {g : Gh} (h : MemC w.heap y g) {aT : Option Addr} {t cT q p : Nat} (hv : g.vT = .slice aT t cT) (hp : g.T[q]? = some p) : ∃ gT, aT = some ⟨gT, 0, none⟩ ∧ w.cell? ⟨gT, q, none⟩ = some (i32 p) := by
  have hq := (List.getElem?_eq_some_iff.1 hp).1
  rcases h.trail with ⟨h1, h2⟩ | ⟨b, cap, cur, h1, h2, h3, h4, h5, h6, h7⟩
  · rw [List.map_eq_nil_iff] at h2; rw [h2] at hq; simp at hq
  · rw [hv] at h1
    injection h1 with e1 e2 e3
    refine ⟨b, e1, ?_⟩
    rw [cell_of_row w b q cur 33 (0, 0) h3]
    have e : (cur.toList.take (g.T.map i32).length)[q]? = (g.T.map i32)[q]? := by rw [h7]
    rw [List.getElem?_take_of_lt (by simpa using hq), Array.getElem?_toList] at e
    rw [e, List.getElem?_map, hp]
    rfl

theorem rest_of {c : List Nat} (h : 0 < c.length) : ∃ rest, c = c.getD 0 0 :: rest ∧ ∀ z ∈ rest, ∃ j, 1 ≤ j ∧ j < c.length ∧ z = c.getD j 0 := by
  cases c with
  | nil => simp at h
  | cons a r =>
    refine ⟨r, rfl, fun z hz => ?_⟩
    obtain ⟨j, hj, e⟩ := List.getElem_of_mem hz
    exact ⟨j + 1, by omega, by simpa using hj, by rw [List.getD_cons_succ, List.getD, List.getElem?_eq_getElem hj, e]; rfl⟩

theorem In.assign {y : Sv} {orig : Nat → List Nat} {w0 : World} {g : Gh} {d p : Nat} {v : Value} {lw q : Nat} {wr wc : World} {g2 : Gh} {E2 : List En} {W2 : Nat → List Nat} {vW2 : Nat → Value} {K : List Nat} {i ci x : Nat} {v' : Value} {ow' : Nat → Nat}
    (h : In y orig w0 g d p v lw q wr g2 E2 W2 vW2 K i) (hd1 : 1 ≤ d) (hci : ci < y.m) (hx : x < 2 * y.n) (hu : x / 2 ∉ g2.T.map (· / 2)) (hw : ∃ rest, g2.cls ci = x :: rest ∧ ∀ z ∈ rest, neg z ∈ g2.T) (hf : Fr wr.heap wc.heap g2.ow ow') (hb : Below y.base w0 wc)
    (hm : MemC wc.heap y { g2 with asg := upd g2.asg (x / 2) (1 + x % 2), lvl := upd g2.lvl (x / 2) g2.L.length, rsn := upd g2.rsn (x / 2) (ci : Int), T := g2.T ++ [x], vT := v', ow := ow' }) :
    In y orig w0 g d p v lw q wc { g2 with asg := upd g2.asg (x / 2) (1 + x % 2), lvl := upd g2.lvl (x / 2) g2.L.length, rsn := upd g2.rsn (x / 2) (ci : Int), T := g2.T ++ [x], vT := v', ow := ow' } (E2 ++ [⟨x, d, ci⟩]) W2 vW2 K i := by
  obtain ⟨rest, hr1, hr2⟩ := hw
  obtain ⟨e, he, hel, hed⟩ := h.hp
  have hlenT : g2.T.length = E2.length := by rw [h.pi.tok.T, List.length_map]
  refine ⟨⟨hm, hb, h.pi.tok.push hx hu (ci : Int) hd1 (.inr ⟨ci, hci, rfl, rest, hr1, hr2⟩) v' ow', h.pi.cok, ?_, fun j e' hj he' => ?_⟩, ?_, h.hv, h.len, h.tk, h.wip, ⟨e, List.mem_append.2 (.inl he), hel, hed⟩, h.seen, h.act, h.q⟩
  · show g2.q ≤ (g2.T ++ [x]).length
    have := h.pi.q
    rw [List.length_append]; omega
  · rw [List.getElem?_append] at he'
    split at he'
    · exact h.pi.cur j e' hj he'
    · have hm1 := List.mem_of_getElem? he'
      rw [List.mem_singleton.1 hm1]
  · have e := h.mw.frame (g' := { g2 with ow := ow' }) h.pi.mem.t2.1 hf
    exact ⟨e.wh, e.row, e.tw⟩

theorem Ow.cutTo {H : Array Obj} {base : Nat} {e : TypeId} {a : Option Addr} {l cap k : Nat} {xs : List Value} (h : Ow H base e (.slice a l cap) xs) (hk : k ≤ xs.length) : Ow H base e (.slice a k cap) (xs.take k) := by
  rcases h with ⟨h1, h2⟩ | ⟨g, c, cur, h1, h2, h3, h4, h5, h6, h7⟩
  · injection h1 with e1 e2 e3
    subst h2
    obtain rfl : k = 0 := by simpa using hk
    exact .inl ⟨by rw [e1, e3], by simp⟩
  · injection h1 with e1 e2 e3
    have hl : (xs.take k).length = k := by rw [List.length_take]; omega
    refine .inr ⟨g, c, cur, by rw [e1, e3, hl], h2, h3, by omega, h5, h6, ?_⟩
    rw [hl]
    have : (cur.toList.take xs.length).take k = xs.take k := by rw [h7]
    rw [List.take_take, Nat.min_eq_left hk] at this
    exact this

/-- A watch list is cut short: its header is stored. -/
theorem MemW.trim {w : World} {y : Sv} {g : Gh} {W : Nat → List Nat} {vW : Nat → Value} (hC : MemC w.heap y g) (h : MemW w.heap y g W vW) {p lw cap k : Nat} {a : Option Addr} (hp : p < 2 * y.n) (hv : vW p = .slice a lw cap) (hk : k ≤ (W p).length) :
    MemC (w.setCell ⟨y.bw, p, none⟩ (.slice a k cap)).heap y g ∧ MemW (w.setCell ⟨y.bw, p, none⟩ (.slice a k cap)).heap y g (upd W p ((W p).take k)) (upd vW p (.slice a k cap)) := by
  have hob : (Value.slice a k cap).ownBlock = (vW p).ownBlock := by rw [hv]; cases a <;> rfl
  refine ⟨hC.setFar (.inl hC.t2.1) _ _, ⟨?_, fun l hl => ?_, fun l hl b hb => ?_⟩⟩
  · have e := h.wh.set p (.slice a k cap)
    rw [tab_set] at e
    exact e
  · have hfar : ∀ b, (vW l).ownBlock = some b → b ≠ y.bw := fun b hb e' => by
      have := h.tw l hl b hb
      rw [e', hC.t2.1] at this
      omega
    by_cases e : l = p
    · subst e
      rw [upd_same, upd_same]
      have h1 := h.row l hl
      rw [hv] at h1
      have h2 := h1.cutTo (k := k) (by simpa using hk)
      rw [← List.map_take] at h2
      exact h2.kept fun b hb _ => heap_setCell_other _ _ _ _ (hfar b (by rw [← hob]; exact hb))
    · rw [upd_ne _ _ e, upd_ne _ _ e]
      exact (h.row l hl).kept fun b hb _ => heap_setCell_other _ _ _ _ (hfar b hb)
  · by_cases e : l = p
    · subst e
      rw [upd_same] at hb
      exact h.tw l hl b (by rw [← hob]; exact hb)
    · rw [upd_ne _ _ e] at hb
      exact h.tw l hl b hb

set_option maxRecDepth 100000 in
set_option maxHeartbeats 8000000 in
theorem propagate {y : Sv} {orig : Nat → List Nat} {g : Gh} {E : List En} {d : Nat} {w w0 : World} {W : Nat → List Nat} {vW : Nat → Value} (h : PI y orig w0 w g E d) (hW : PW y w g W vW) (hn : y.n ≤ 4096) (hm : y.m ≤ 65536) (hd : 1 ≤ d) (hd2 : d < 1000000) :
    Calls Try.prog 46 #[.pointer (some ⟨y.bs, 0, none⟩)] w fun e w' => PrPost y orig w0 g d e w' := by
  go_enter Try.func46, Try.ntmps46
  go_wp2
  go_loopg [] (y.n - g.q) (fun k wr => ∃ g' E' W' vW', Hid (PI y orig w0 wr g' E' d ∧ PW y wr g' W' vW' ∧ g'.seen = g.seen ∧ g'.act = g.act) ∧ y.n - g'.q ≤ k)
  case atStart => exact ⟨g, E, W, vW, ⟨h, hW, rfl, rfl⟩, Nat.le_refl _⟩
  case round =>
    obtain ⟨g', E', W', vW', HI, hk⟩ := hrel
    clear h hW
    obtain ⟨aT, cT, hvT⟩ := HI.out.1.mem.trail.shape
    obtain ⟨t, ht⟩ : ∃ t, t = g'.T.length := ⟨_, rfl⟩
    rw [List.length_map, ← ht] at hvT
    obtain ⟨q, hq⟩ : ∃ q, q = g'.q := ⟨_, rfl⟩
    have hqt : q ≤ t := by rw [hq, ht]; exact HI.out.1.q
    have htn : t ≤ y.n := by rw [ht]; exact HI.out.1.tok.len
    have c7 : wr.cell? ⟨y.bs, 7, none⟩ = some (.int .i64 (q : Int)) := by rw [HI.out.1.mem.sv.cell, hq]; rfl
    have f7 : wr.frozen? ⟨y.bs, 7, none⟩ = false := HI.out.1.mem.sv.frozen _
    have c5 : wr.cell? ⟨y.bs, 5, none⟩ = some (.slice aT t cT) := by rw [HI.out.1.mem.sv.cell, ← hvT]; rfl
    have HT : Hid (g'.vT = .slice aT t cT ∧ t = g'.T.length ∧ q = g'.q) := ⟨hvT, ht, hq⟩
    have hk' : y.n - q ≤ gk := by rw [hq]; exact hk
    clear hvT ht hq hk
    by_cases hqt2 : q < t
    · have d1 : decide ((q : Int) < (t : Int)) = true := decide_eq_true (by omega)
      obtain ⟨p, hp⟩ : ∃ p, g'.T[q]? = some p := ⟨_, List.getElem?_eq_getElem (by rw [← HT.out.2.1]; exact hqt2)⟩
      obtain ⟨gT, rfl, cp⟩ : ∃ gT, aT = some ⟨gT, 0, none⟩ ∧ wr.cell? ⟨gT, q, none⟩ = some (i32 p) := trail_at HI.out.1.mem HT.out.1 hp
      have hp2 : p < 2 * y.n := by
        have hmem := List.mem_of_getElem? hp
        rw [HI.out.1.tok.T] at hmem
        obtain ⟨e, he, rfl⟩ := List.mem_map.1 hmem
        exact HI.out.1.tok.lt e he
      have HP : Hid (g'.T[q]? = some p) := hp
      clear hp
      obtain ⟨np, hnp⟩ : ∃ np, np = neg p := ⟨_, rfl⟩
      have hno : ∀ w, Calls Try.prog 41 #[i32 p] w fun e w' => e = .returned (i32 np) ∧ w' = w := fun w => by rw [hnp]; exact litNot p (by omega) w
      have HNP : Hid (np = neg p) := hnp
      clear hnp
      obtain ⟨aW, cW, hvW⟩ := (HI.out.2.1.mem.row p hp2).shape
      obtain ⟨lw, hlw⟩ : ∃ lw, lw = (W' p).length := ⟨_, rfl⟩
      rw [List.length_map, ← hlw] at hvW
      have hlwm : lw ≤ 65536 := by rw [hlw]; exact Nat.le_trans (HI.out.2.1.ok.len hp2) hm
      have HVW : Hid (vW' p = .slice aW lw cW ∧ lw = (W' p).length) := ⟨hvW, hlw⟩
      have b2 : (0 : Int) ≤ (p : Int) := by omega
      have b3 : (p : Int) < 2 * (y.n : Int) := by omega
      clear hvW hlw
      go_wp2
      go_quiet (fail)
      revert nq; intro nq1
      go_wp2
      go_quiet (fail)
      go_wp2_with (first
        | (refine wpList_store_bk rfl 3 _ _ rfl y.bs 7 rfl (.int .i64 ((q : Int) + 1)) rfl rfl (by kernel_rfl) _ _ HI.out.1.mem.sv (by simp [svCells]) ?_
           intro w1 hw1
           have HM1 : Hid (MemC w1.heap y { g' with q := q + 1 }) := by
             rw [hw1.out]
             have e := MemC.setQ (w := wr.drewN (nq1 + nq)) HI.out.1.mem (q + 1)
             exact e
           have HB1 : Hid (Below y.base w0 w1) := by rw [hw1.out]; exact Below.setCell (below_drewN HI.out.1.below _) HI.out.1.mem.t0.2 _
           have HW1 : Hid (MemW w1.heap y { g' with q := q + 1 } W' vW') := by
             rw [hw1.out]
             exact MemW.frame (H := (wr.drewN (nq1 + nq)).heap) (g := g') HI.out.2.1.mem HI.out.1.mem.t2.1 (Fr.set _ _ (by rw [HI.out.1.mem.t0.1]; omega) _ _)
           have c1 : w1.cell? ⟨y.bs, 1, none⟩ = some (.slice (some ⟨y.bw, 0, none⟩) (2 * y.n) (2 * y.n)) := by rw [HM1.out.sv.cell]; rfl
           have cw : w1.cell? ⟨y.bw, p, none⟩ = some (.slice aW lw cW) := by rw [HW1.out.wh.cell, tab_at hp2, HVW.out.1]
           clear hw1)
        | (go_at_call 41; refine (hno _).mono ?_; rintro e w' ⟨rfl, rfl⟩)
        | go_in)
      have HIn : Hid (In y orig w0 g d p (.slice aW lw cW) lw (q + 1) w' { g' with q := q + 1 } E' W' vW' [] 0) := by
        obtain ⟨pi, pw, s1, s2⟩ := HI.out
        obtain ⟨e, he, hel⟩ : ∃ e, E'[q]? = some e ∧ e.l = p := by
          have := HP.out
          rw [pi.tok.T, List.getElem?_map] at this
          obtain ⟨e, he, hl⟩ := Option.map_eq_some_iff.1 this
          exact ⟨e, he, hl⟩
        have hcur := pi.cur q e (by rw [HT.out.2.2]; exact Nat.le_refl _) he
        refine ⟨⟨HM1.out, HB1.out, ?_, pi.cok, ?_, fun j e' hj he' => pi.cur j e' (by rw [← HT.out.2.2]; exact Nat.le_of_succ_le hj) he'⟩, HW1.out, HVW.out.1, HVW.out.2.symm, by simp, ?_, ⟨e, List.mem_of_getElem? he, hel, hcur⟩, s1, s2, rfl⟩
        · exact ⟨pi.tok.T, pi.tok.lt, pi.tok.nd, pi.tok.asg, pi.tok.lvl, pi.tok.rsn, pi.tok.lev, pi.tok.mono, pi.tok.why, pi.tok.dl⟩
        · show q + 1 ≤ g'.T.length
          rw [← HT.out.2.1]; exact hqt2
        · rw [List.drop_zero]; exact WIP.start pw.ok hp2
      clear HM1 HB1 HW1 c1 cw HI HT HP HVW c5 c7 f7 cp hno
      go_loopg [6, 7] lw (fun k s6 s7 wr => ∃ (g2 : Gh) (E2 : List En) (W2 : Nat → List Nat) (vW2 : Nat → Value) (K : List Nat) (i nK : Nat), s6 = .slice aW nK cW ∧ s7 = .int .i64 (i : Int) ∧ i ≤ lw ∧ lw - i ≤ k ∧ nK ≤ i ∧ Hid (nK = K.length) ∧
        Hid (In y orig w0 g d p (.slice aW lw cW) lw (q + 1) wr g2 E2 W2 vW2 K i))
      case atStart => exact ⟨_, _, _, _, [], 0, 0, rfl, rfl, Nat.zero_le _, Nat.le_refl _, Nat.le_refl _, rfl, HIn⟩
      case round =>
        obtain ⟨g2, E2, W2, vW2, K, i, nK, rfl, rfl, hi, hik, hKi, HK, HN⟩ := hrel
        by_cases hil : i < lw
        · obtain ⟨ci, hc⟩ : ∃ ci, (W2 p)[i]? = some ci := ⟨_, List.getElem?_eq_getElem (by rw [HN.out.len]; exact hil)⟩
          obtain ⟨gp, hgp, cci, hlc, hrow⟩ := watch_at HN.out.mw hp2 HN.out.hv hc
          subst hgp
          have hdrop : (W2 p).drop i = ci :: (W2 p).drop (i + 1) := by
            obtain ⟨hlt, he⟩ := List.getElem?_eq_some_iff.1 hc
            rw [← he]; exact List.drop_eq_getElem_cons hlt
          have hcm : ci < y.m := HN.out.wip.ltp ci (by rw [hdrop]; simp)
          have hlen := HN.out.pi.cok.len hcm
          obtain ⟨n2, hn2⟩ : ∃ n2, n2 = (g2.cls ci).length := ⟨_, rfl⟩
          rw [← hn2] at hlen
          obtain ⟨x0, hx0⟩ : ∃ x0, x0 = (g2.cls ci).getD 0 0 := ⟨_, rfl⟩
          obtain ⟨x1, hx1⟩ : ∃ x1, x1 = (g2.cls ci).getD 1 0 := ⟨_, rfl⟩
          have c0 : wr.cell? ⟨y.bs, 0, none⟩ = some (.slice (some ⟨y.bcl, 0, none⟩) y.m y.m) := by rw [HN.out.pi.mem.sv.cell]; rfl
          have ch : wr.cell? ⟨y.bcl, ci, none⟩ = some (.slice (some ⟨y.cb ci, 0, none⟩) n2 n2) := by rw [HN.out.pi.mem.clh.cell, tab_at hcm, hn2]; rfl
          have d0 : wr.cell? ⟨y.cb ci, 0, none⟩ = some (i32 x0) := by
            rw [(HN.out.pi.mem.cl ci hcm).cell, hx0, List.getD]
            simp [List.getElem?_eq_getElem (show 0 < (g2.cls ci).length by omega)]
          have d1' : wr.cell? ⟨y.cb ci, 1, none⟩ = some (i32 x1) := by
            rw [(HN.out.pi.mem.cl ci hcm).cell, hx1, List.getD]
            simp [List.getElem?_eq_getElem (show 1 < (g2.cls ci).length by omega)]
          have f0 : wr.frozen? ⟨y.cb ci, 0, none⟩ = false := (HN.out.pi.mem.cl ci hcm).frozen _
          have f1 : wr.frozen? ⟨y.cb ci, 1, none⟩ = false := (HN.out.pi.mem.cl ci hcm).frozen _
          have HX : Hid (x0 = (g2.cls ci).getD 0 0 ∧ x1 = (g2.cls ci).getD 1 0 ∧ n2 = (g2.cls ci).length ∧ (W2 p)[i]? = some ci ∧ (W2 p).drop i = ci :: (W2 p).drop (i + 1)) := ⟨hx0, hx1, hn2, hc, hdrop⟩
          have hb1 : (1 : Int) < (n2 : Int) := by omega
          clear hx0 hx1 hn2 hc hdrop
          go_upto_if 69 with fail
          go_cut [] from 70 to 123 (fun wc => ∃ g3 : Gh, Hid (In y orig w0 g d p (.slice (some ⟨gp, 0, none⟩) lw cW) lw (q + 1) wc g3 E2 W2 vW2 K i ∧ (g3.cls ci).getD 1 0 = neg p ∧ (g3.cls ci).length = n2))
          case first =>
            by_cases hx : x0 = np
            · have dd : ((x0 : Int) == (np : Int)) = true := by simp; omega
              have HXX : Hid (x0 = np) := hx
              clear hx
              go_wp2
              go_region
              all_goals go_wp2
              all_goals go_meet
              all_goals
                have e2 := (HN.out.pi.mem.setCl ci hcm 0 x1).setCl ci hcm 1 x0
                have e3 : upd (upd g2.cls ci ((g2.cls ci).set 0 x1)) ci ((upd g2.cls ci ((g2.cls ci).set 0 x1) ci).set 1 x0) = upd g2.cls ci (swp (g2.cls ci) 0 1) := by
                  funext j; simp only [upd, swp, ← HX.out.1, ← HX.out.2.1]; split <;> simp
                have e4 : MemC ((wr.setCell ⟨y.cb ci, 0, none⟩ (i32 x1)).setCell ⟨y.cb ci, 1, none⟩ (i32 x0)).heap y { g2 with cls := upd g2.cls ci (swp (g2.cls ci) 0 1) } := by rw [← e3]; exact e2
                refine ⟨_, HN.out.swap01 hcm (by rw [← HX.out.1, HXX.out, HNP.out]) e4 ?_ ?_, ?_, ?_⟩
                · exact HN.out.mw.frame (g' := g2) HN.out.pi.mem.t2.1 ((Fr.set wr _ (by rw [(HN.out.pi.mem.tc ci hcm).1]; omega) _ _).trans (Fr.set _ _ (by rw [(HN.out.pi.mem.tc ci hcm).1]; omega) _ _))
                · exact (Below.setCell (HN.out.pi.below.setCell (HN.out.pi.mem.tc ci hcm).2 _) (HN.out.pi.mem.tc ci hcm).2 _).drew
                · show (upd g2.cls ci (swp (g2.cls ci) 0 1) ci).getD 1 0 = neg p
                  rw [upd_same, swp_getD _ (by rw [← HX.out.2.2.1]; omega) (by rw [← HX.out.2.2.1]; omega), if_pos rfl, ← HX.out.1, HXX.out, HNP.out]
                · show (upd g2.cls ci (swp (g2.cls ci) 0 1) ci).length = n2
                  rw [upd_same]; simp only [swp, List.length_set]; exact HX.out.2.2.1.symm
            · have dd : ((x0 : Int) == (np : Int)) = false := by simp; omega
              go_wp2
              go_meet
              case rel =>
                refine ⟨g2, HN.out, ?_, HX.out.2.2.1.symm⟩
                rcases HN.out.wip.wp ci (by rw [HX.out.2.2.2.2]; simp) with e | e
                · exact absurd (by rw [HX.out.1, e, HNP.out]) hx
                · exact e
          case rest =>
            obtain ⟨g3, HR⟩ := hcut
            obtain ⟨x, hx⟩ : ∃ x, x = (g3.cls ci).getD 0 0 := ⟨_, rfl⟩
            have cx : wc.cell? ⟨y.cb ci, 0, none⟩ = some (i32 x) := by
              rw [(HR.out.1.pi.mem.cl ci hcm).cell, hx, List.getD]
              simp [List.getElem?_eq_getElem (show 0 < (g3.cls ci).length by rw [HR.out.2.2]; omega)]
            have hx2 : x < 2 * y.n := by
              rw [hx]; exact HR.out.1.pi.cok.lits hcm _ (getD_mem (by rw [HR.out.2.2]; omega))
            have hasg : ∀ v, g3.asg v ≤ 2 := fun v => by rw [HR.out.1.pi.tok.asg]; exact asgOf_le _ _
            have hlv := litValue HR.out.1.pi.mem hn x hx2 (hasg _)
            have HXX : Hid (x = (g3.cls ci).getD 0 0) := hx
            clear hx c0 ch d0 d1' f0 f1 cci
            obtain ⟨z, hz⟩ : ∃ z, z = lval g3.asg x := ⟨_, rfl⟩
            rw [← hz] at hlv
            have HZ : Hid (z = lval g3.asg x) := hz
            clear hz
            by_cases hz1 : z = 1
            · have dz : ((z : Int) == 1) = true := by simp; omega
              obtain ⟨i0, hi0, hz0, hzz1, hz2⟩ := info_parts info21
              have hKl : nK < lw := by omega
              go_wp2_with (first
                | (go_at_call 43; refine hlv.mono ?_; rintro e w' ⟨rfl, hb⟩; replace hb : Hid _ := hb
                   have hsame : w'.heap = wc.heap := by obtain ⟨m, hm'⟩ := hb.out; rw [hm']; rfl
                   have HM4 : Hid (MemC w'.heap y g3 ∧ MemW w'.heap y g3 W2 vW2 ∧ Below y.base w0 w') := by
                     obtain ⟨m, hm'⟩ := hb.out
                     rw [hm']; exact ⟨HR.out.1.pi.mem, HR.out.1.mw, below_drewN HR.out.1.pi.below _⟩
                   clear hsame)
                | (at_builtin
                   refine wpList_append_put _ rfl _ _ 23 rfl 21 i0 Try.underlying23 hi0 hzz1 gp nK cW rfl ⟨w'.heap.size, 0, none⟩ (i32 ci) rfl (cell_one_new w' (i32 ci) 21 0 (i32 ci) rfl) rfl (by omega) ?_ ?_ ?_
                   · exact (rowA HM4.out.2.1 hp2 HR.out.1.hv hKl _).1
                   · exact (rowA HM4.out.2.1 hp2 HR.out.1.hv hKl _).2
                   intro w5 hw5)
                | go_in)
              go_roundg (lw - (i + 1))
              case measure => omega
              case rel =>
                refine ⟨g3, E2, upd W2 p ((W2 p).set K.length ci), vW2, K ++ [ci], i + 1, nK + 1, rfl, by go_num, by omega, Nat.le_refl _, by omega, ?_, ?_⟩
                · show _ = _; rw [HK.out, List.length_append]; rfl
                · have pk := MemW.poke (HM4.out.1.alloc (.cells #[i32 ci] 21)) (HM4.out.2.1.alloc (.cells #[i32 ci] 21)) (j := K.length) (x := ci) hp2 HR.out.1.hv (by rw [HR.out.1.len, ← HK.out]; exact hKl)
                  have hb5 : Below y.base w0 w5 := by
                    rw [hw5.out]
                    refine Below.setCell (HM4.out.2.2.alloc HM4.out.1.base _) ?_ _
                    exact rowBase HM4.out.2.1 hp2 HR.out.1.hv
                  have e5 : w5 = (w'.alloc (.cells #[i32 ci] 21)).setCell ⟨gp, K.length, none⟩ (i32 ci) := by rw [hw5.out, HK.out]
                  rw [e5] at hb5 ⊢
                  exact HR.out.1.keep HX.out.2.2.2.2 (by rw [← HK.out]; exact hKi) hil pk.1 pk.2 hb5
            · have dz : ((z : Int) == 1) = false := by simp; omega
              have hWl : ∀ l, l < 2 * y.n → (W2 l).length ≤ 65536 := fun l hl => by
                by_cases e : l = p
                · subst e; rw [HR.out.1.len]; exact hlwm
                · exact Nat.le_trans (length_le_of_nodup y.m _ (HR.out.1.wip.nd l hl e) (HR.out.1.wip.lt l hl e)) hm
              have hrw : ∀ w', MemC w'.heap y g3 ∧ MemW w'.heap y g3 W2 vW2 ∧ Below y.base w0 w' → Calls Try.prog 52 #[.pointer (some ⟨y.bs, 0, none⟩), .slice (some ⟨y.cb ci, 0, none⟩) n2 n2, i32 ci] w' fun e w'' => ∃ b : Bool, e = .returned (.bool b) ∧ Hid (RwPost y g3 w0 W2 vW2 ci w' (.returned (.bool b)) w'') := fun w' hh => by
                have hc := rewatch hh.1 hh.2.1 hh.2.2 hn ci hcm hm (by rw [HR.out.2.2]; exact hlen.1) (by rw [HR.out.2.2]; exact hlen.2) (HR.out.1.pi.cok.lits hcm) hasg hWl
                unfold row at hc
                rw [HR.out.2.2] at hc
                refine hc.mono fun e w'' hp' => ?_
                rcases hp' with ⟨rfl, h'⟩ | ⟨rfl, h'⟩
                · exact ⟨false, rfl, .inl ⟨rfl, h'⟩⟩
                · exact ⟨true, rfl, .inr ⟨rfl, h'⟩⟩
              go_upto_if 93 with (first
                | (go_at_call 43; refine hlv.mono ?_; rintro e w' ⟨rfl, hb⟩; replace hb : Hid _ := hb
                   have HM4 : Hid (MemC w'.heap y g3 ∧ MemW w'.heap y g3 W2 vW2 ∧ Below y.base w0 w') := by
                     obtain ⟨m, hm'⟩ := hb.out
                     rw [hm']; exact ⟨HR.out.1.pi.mem, HR.out.1.mw, below_drewN HR.out.1.pi.below _⟩)
                | (go_at_call 52; refine (hrw _ HM4.out).mono ?_; rintro e w7 ⟨b, rfl, hpost⟩)
                | go_in)
              cases b with
              | true =>
                go_wp2
                go_roundg (lw - (i + 1))
                case measure => omega
                case rel =>
                  rcases hpost.out with ⟨h', _⟩ | ⟨_, hb7, k, v', ow', hk2, hk, hkv, hm7, hw7⟩
                  · cases h'
                  · refine ⟨{ g3 with cls := upd g3.cls ci (swp (g3.cls ci) 1 k), ow := ow' }, E2, upd W2 (neg ((g3.cls ci).getD k 0)) (W2 (neg ((g3.cls ci).getD k 0)) ++ [ci]), upd vW2 (neg ((g3.cls ci).getD k 0)) v', K, i + 1, nK, rfl, by go_num, by omega, Nat.le_refl _, by omega, HK, ?_⟩
                    exact HR.out.1.rewatch HX.out.2.2.2.2 hcm HR.out.2.1 (fun hh => hz1 (by rw [HZ.out, HR.out.1.pi.tok.asg, HXX.out]; exact (lval_true HR.out.1.pi.tok.nd _).2 hh)) hk2 hk hm7 hw7 hb7
              | false =>
                obtain ⟨hall, HM7⟩ : Hid (∀ j, 2 ≤ j → j < (g3.cls ci).length → lval g3.asg ((g3.cls ci).getD j 0) = 2) ∧ Hid (MemC w7.heap y g3 ∧ MemW w7.heap y g3 W2 vW2 ∧ Below y.base w0 w7) := by
                  rcases hpost.out with ⟨_, h1, q', h2⟩ | ⟨h', _⟩
                  · exact ⟨h1, by rw [h2]; exact ⟨HM4.out.1, HM4.out.2.1, below_drewN HM4.out.2.2 _⟩⟩
                  · cases h'
                have hlv8 : ∀ w', MemC w'.heap y g3 → Calls Try.prog 43 #[.pointer (some ⟨y.bs, 0, none⟩), i32 x] w' fun e w'' => e = .returned (.int .i8 (z : Int)) ∧ Hid (∃ q, w'' = w'.drewN q) := fun w' hh => by
                  rw [HZ.out]; exact litValue hh hn x hx2 (hasg _)
                obtain ⟨i0, hi0, hz0, hzz1, hz2'⟩ := info_parts info21
                have hKl : nK < lw := by omega
                have has : ∀ w', MemC w'.heap y g3 → Below y.base w0 w' → Calls Try.prog 45 #[.pointer (some ⟨y.bs, 0, none⟩), i32 x, .int .i32 (ci : Int)] w' fun e w'' => e = .returned (.tuple #[]) ∧ Hid (Below y.base w0 w'' ∧ ∃ v' ow', Fr w'.heap w''.heap g3.ow ow' ∧
                    MemC w''.heap y { g3 with asg := upd g3.asg (x / 2) (1 + x % 2), lvl := upd g3.lvl (x / 2) g3.L.length, rsn := upd g3.rsn (x / 2) (ci : Int), T := g3.T ++ [x], vT := v', ow := ow' }) := fun w' hh hb =>
                  assign hh hb hn x hx2 (ci : Int) (by rw [HR.out.1.pi.tok.dl]; exact hd2) (Nat.le_trans HR.out.1.pi.tok.len hn)
                by_cases hz2 : z = 2
                · have dz2 : ((z : Int) == 2) = true := by simp; omega
                  have HO9 : Hid (∀ w9 : World, MemC w9.heap y g3 ∧ MemW w9.heap y g3 (upd W2 p ((W2 p).set K.length ci)) vW2 ∧ Below y.base w0 w9 → w9.ownsRow y.base 21 1 (.slice (some ⟨gp, 0, none⟩) (nK + 1) cW) (nK + 1) ((K ++ [ci]).map i32)) := by
                    intro w9 HM9
                    have h1 := HM9.2.1.row p hp2
                    rw [upd_same, HR.out.1.hv] at h1
                    have hl1 : nK + 1 ≤ ((W2 p).set K.length ci).length := by rw [List.length_set, HR.out.1.len]; omega
                    have h2 := (h1.cutTo (k := nK + 1) (by simpa using hl1)).owns
                    rw [List.length_take, List.length_map, Nat.min_eq_left hl1, ← List.map_take] at h2
                    have hk9 := (HR.out.1.keep HX.out.2.2.2.2 (by rw [← HK.out]; exact hKi) hil HM9.1 HM9.2.1 HM9.2.2).tk
                    rw [upd_same, List.length_append, ← HK.out] at hk9
                    have hk9' : ((W2 p).set nK ci).take (nK + 1) = K ++ [ci] := hk9
                    rw [← HK.out, hk9'] at h2
                    exact h2
                  have hcells : Hid (∀ w9 : World, MemC w9.heap y g3 ∧ MemW w9.heap y g3 (upd W2 p ((W2 p).set K.length ci)) vW2 ∧ Below y.base w0 w9 → ∀ ad, (if cW = i + 1 then some (⟨gp, 0, none⟩ : Addr) else some ⟨gp, i + 1, none⟩) = some ad → ∀ j u, (((W2 p).drop (i + 1)).map i32)[j]? = some u → w9.cell? (ad.add j) = some u) := by
                    intro w9 HM9 ad had j u hu
                    split at had
                    · rename_i hce
                      have : (W2 p).drop (i + 1) = [] := List.drop_eq_nil_of_le (by rw [HR.out.1.len]; omega)
                      rw [this] at hu
                      simp at hu
                    · injection had with had
                      subst had
                      rw [List.getElem?_map, List.getElem?_drop] at hu
                      obtain ⟨cj, hcj, rfl⟩ := Option.map_eq_some_iff.1 hu
                      have hcj' : (upd W2 p ((W2 p).set K.length ci) p)[i + 1 + j]? = some cj := by
                        rw [upd_same, List.getElem?_set_ne (by rw [← HK.out]; omega)]; exact hcj
                      obtain ⟨gp', hgp', h2, _⟩ := watch_at HM9.2.1 hp2 HR.out.1.hv hcj'
                      injection hgp' with hgp'
                      injection hgp' with hgp'
                      subst hgp'
                      rw [Addr.add_lit]; exact h2
                  have hxl : (((W2 p).drop (i + 1)).map i32).length = (lw - (i + 1)) * 1 := by rw [List.length_map, List.length_drop, HR.out.1.len, Nat.mul_one]
                  have hx1c : ∀ u ∈ ((W2 p).drop (i + 1)).map i32, u.oneCell' = true := fun u hu => by obtain ⟨_, _, rfl⟩ := List.mem_map.1 hu; rfl
                  have hxr : nK + 1 + (lw - (i + 1)) ≤ cW := by omega
                  have hgr : ∀ w9 w10 : World, MemC w9.heap y g3 ∧ MemW w9.heap y g3 (upd W2 p ((W2 p).set K.length ci)) vW2 ∧ Below y.base w0 w9 → w9.grownBy w10 (some gp) → Hid (MemC w10.heap y g3 ∧ Below y.base w0 w10 ∧ Bk w10.heap y.bw 23 (tab (2 * y.n) vW2)) := by
                    intro w9 w10 HM9 hg10
                    have htag : g3.ow gp = 21 + 2 * p := HM9.2.1.tw p hp2 gp (by rw [HR.out.1.hv]; rfl)
                    refine ⟨HM9.1.grow hg10 (21 + 2 * p) (by omega) (fun b hb => by cases hb; exact htag) g3.ow (fun _ _ _ => rfl), HM9.2.2.grown hg10 HM9.1.base (fun b hb => by cases hb; exact rowBase HM9.2.1 hp2 HR.out.1.hv), HM9.2.1.wh.grown hg10 fun e => ?_⟩
                    injection e with e
                    rw [← e, HM9.1.t2.1] at htag
                    omega
                  go_wp2_with (first
                    | (at_builtin
                       refine wpList_append_put _ rfl _ _ 23 rfl 21 i0 Try.underlying23 hi0 hzz1 gp nK cW rfl ⟨w7.heap.size, 0, none⟩ (i32 ci) rfl (cell_one_new w7 (i32 ci) 21 0 (i32 ci) rfl) rfl (by omega) ?_ ?_ ?_
                       · exact (rowA HM7.out.2.1 hp2 HR.out.1.hv hKl _).1
                       · exact (rowA HM7.out.2.1 hp2 HR.out.1.hv hKl _).2
                       intro w8 hw8
                       have HM8 : Hid (MemC w8.heap y g3 ∧ MemW w8.heap y g3 (upd W2 p ((W2 p).set K.length ci)) vW2 ∧ Below y.base w0 w8) := by
                         have e5 : w8 = (w7.alloc (.cells #[i32 ci] 21)).setCell ⟨gp, K.length, none⟩ (i32 ci) := by rw [hw8.out, HK.out]
                         have pk := MemW.poke (HM7.out.1.alloc (.cells #[i32 ci] 21)) (HM7.out.2.1.alloc (.cells #[i32 ci] 21)) (j := K.length) (x := ci) hp2 HR.out.1.hv (by rw [HR.out.1.len, ← HK.out]; exact hKl)
                         rw [e5]
                         exact ⟨pk.1, pk.2, Below.setCell (HM7.out.2.2.alloc HM7.out.1.base _) (rowBase HM7.out.2.1 hp2 HR.out.1.hv) _⟩
                       have cx8 : w8.cell? ⟨y.cb ci, 0, none⟩ = some (i32 x) := by
                         rw [(HM8.out.1.cl ci hcm).cell, HXX.out, List.getD]
                         simp [List.getElem?_eq_getElem (show 0 < (g3.cls ci).length by rw [HR.out.2.2]; omega)])
                    | (go_at_call 43; refine (hlv8 w8 HM8.out.1).mono ?_; rintro e w9 ⟨rfl, hb9⟩
                       have cx9 : w9.cell? ⟨y.cb ci, 0, none⟩ = some (i32 x) := by obtain ⟨m, hm'⟩ := hb9.out; rw [hm']; exact cx8
                       have HM9 : Hid (MemC w9.heap y g3 ∧ MemW w9.heap y g3 (upd W2 p ((W2 p).set K.length ci)) vW2 ∧ Below y.base w0 w9) := by
                         obtain ⟨m, hm'⟩ := hb9.out; rw [hm']; exact ⟨HM8.out.1, HM8.out.2.1, below_drewN HM8.out.2.2 _⟩)
                    | (at_builtin
                       refine wpList_append_fits_any _ rfl _ _ 23 rfl y.base 21 i0 1 Try.underlying23 hi0 hzz1 gp (nK + 1) cW ((K ++ [ci]).map i32) rfl (HO9.out w9 HM9.out) _ (lw - (i + 1)) (cW - (i + 1)) (((W2 p).drop (i + 1)).map i32) rfl
                         hxl (fun hn => by split at hn <;> cases hn) (hcells.out w9 HM9.out) hx1c hxr ?_
                       intro w10 hown10 hg10
                       clear hown10
                       have HM10 := hgr w9 w10 HM9.out hg10
                       have c110 : w10.cell? ⟨y.bs, 1, none⟩ = some (.slice (some ⟨y.bw, 0, none⟩) (2 * y.n) (2 * y.n)) := by rw [HM10.out.1.sv.cell]; rfl
                       clear hg10)
                    | (refine wpList_store_bk rfl 23 _ _ rfl y.bw p rfl (.slice (some ⟨gp, 0, none⟩) (nK + 1 + (lw - (i + 1))) cW) rfl rfl (by kernel_rfl) _ _ HM10.out.2.2 (by simp; omega) ?_
                       intro w11 hw11)
                    | go_in)
                  all_goals go_ret
                  all_goals
                    have hnd := HR.out.1.pi.tok.nd
                    obtain ⟨e, he, hel, hed⟩ := HR.out.1.hp
                    refine ⟨g3, E2, ⟨?_, ?_, HR.out.1.pi.tok, HR.out.1.pi.cok, HR.out.1.pi.q, HR.out.1.pi.cur⟩, HR.out.1.seen, HR.out.1.act, .inr ⟨ci, rfl, hcm, fun u hu => ?_, neg p, ?_, e, he, by rw [neg_neg]; exact hel, hed⟩⟩
                    · rw [hw11.out]; exact HM10.out.1.setFar (.inl HM10.out.1.t2.1) _ _
                    · rw [hw11.out]; exact HM10.out.2.1.setCell HM10.out.1.t2.2 _
                    · obtain ⟨j, hj, rfl⟩ := List.getElem_of_mem hu
                      have hg : (g3.cls ci)[j] = (g3.cls ci).getD j 0 := by rw [List.getD, List.getElem?_eq_getElem hj]; rfl
                      rw [hg]
                      by_cases hj0 : j = 0
                      · subst hj0
                        rw [← HXX.out]
                        exact (lval_false hnd x).1 (by rw [← HR.out.1.pi.tok.asg, ← HZ.out]; exact hz2)
                      · by_cases hj1 : j = 1
                        · subst hj1
                          rw [HR.out.2.1, neg_neg, HR.out.1.pi.tok.T, ← hel]
                          exact List.mem_map.2 ⟨e, he, rfl⟩
                        · have := hall.out j (by omega) hj
                          rw [HR.out.1.pi.tok.asg] at this
                          exact (lval_false hnd _).1 this
                    · rw [← HR.out.2.1]
                      exact getD_mem (by rw [HR.out.2.2]; omega)
                · have dz2 : ((z : Int) == 2) = false := by simp; omega
                  go_wp2_with (first
                    | (at_builtin
                       refine wpList_append_put _ rfl _ _ 23 rfl 21 i0 Try.underlying23 hi0 hzz1 gp nK cW rfl ⟨w7.heap.size, 0, none⟩ (i32 ci) rfl (cell_one_new w7 (i32 ci) 21 0 (i32 ci) rfl) rfl (by omega) ?_ ?_ ?_
                       · exact (rowA HM7.out.2.1 hp2 HR.out.1.hv hKl _).1
                       · exact (rowA HM7.out.2.1 hp2 HR.out.1.hv hKl _).2
                       intro w8 hw8
                       have HM8 : Hid (MemC w8.heap y g3 ∧ MemW w8.heap y g3 (upd W2 p ((W2 p).set K.length ci)) vW2 ∧ Below y.base w0 w8) := by
                         have e5 : w8 = (w7.alloc (.cells #[i32 ci] 21)).setCell ⟨gp, K.length, none⟩ (i32 ci) := by rw [hw8.out, HK.out]
                         have pk := MemW.poke (HM7.out.1.alloc (.cells #[i32 ci] 21)) (HM7.out.2.1.alloc (.cells #[i32 ci] 21)) (j := K.length) (x := ci) hp2 HR.out.1.hv (by rw [HR.out.1.len, ← HK.out]; exact hKl)
                         rw [e5]
                         exact ⟨pk.1, pk.2, Below.setCell (HM7.out.2.2.alloc HM7.out.1.base _) (rowBase HM7.out.2.1 hp2 HR.out.1.hv) _⟩
                       have cx8 : w8.cell? ⟨y.cb ci, 0, none⟩ = some (i32 x) := by
                         rw [(HM8.out.1.cl ci hcm).cell, HXX.out, List.getD]
                         simp [List.getElem?_eq_getElem (show 0 < (g3.cls ci).length by rw [HR.out.2.2]; omega)])
                    | (go_at_call 43; refine (hlv8 w8 HM8.out.1).mono ?_; rintro e w9 ⟨rfl, hb9⟩
                       have cx9 : w9.cell? ⟨y.cb ci, 0, none⟩ = some (i32 x) := by obtain ⟨m, hm'⟩ := hb9.out; rw [hm']; exact cx8
                       have HM9 : Hid (MemC w9.heap y g3 ∧ MemW w9.heap y g3 (upd W2 p ((W2 p).set K.length ci)) vW2 ∧ Below y.base w0 w9) := by
                         obtain ⟨m, hm'⟩ := hb9.out; rw [hm']; exact ⟨HM8.out.1, HM8.out.2.1, below_drewN HM8.out.2.2 _⟩)
                    | (go_at_call 45; refine (has w9 HM9.out.1 HM9.out.2.2).mono ?_; rintro e w10 ⟨rfl, hpa⟩)
                    | go_in)
                  go_roundg (lw - (i + 1))
                  case measure => omega
                  case rel =>
                    obtain ⟨hb10, v', ow', hfr, hm10⟩ := hpa.out
                    have hnd := HR.out.1.pi.tok.nd
                    have hz12 : lval (asgOf g3.T) x ≠ 1 ∧ lval (asgOf g3.T) x ≠ 2 := by
                      rw [← HR.out.1.pi.tok.asg, ← HZ.out]; exact ⟨hz1, hz2⟩
                    have hlen3 : 2 ≤ (g3.cls ci).length := by rw [HR.out.2.2]; exact hlen.1
                    refine ⟨{ g3 with asg := upd g3.asg (x / 2) (1 + x % 2), lvl := upd g3.lvl (x / 2) g3.L.length, rsn := upd g3.rsn (x / 2) (ci : Int), T := g3.T ++ [x], vT := v', ow := ow' }, E2 ++ [⟨x, d, ci⟩], upd W2 p ((W2 p).set K.length ci), vW2, K ++ [ci], i + 1, nK + 1, rfl, by go_num, by omega, Nat.le_refl _, by omega, ?_, ?_⟩
                    · show _ = _; rw [HK.out, List.length_append]; rfl
                    · have kp := HR.out.1.keep HX.out.2.2.2.2 (by rw [← HK.out]; exact hKi) hil HM9.out.1 HM9.out.2.1 HM9.out.2.2
                      refine kp.assign hd hcm hx2 (lval_unset hnd hz12.1 hz12.2) ?_ hfr hb10 hm10
                      obtain ⟨rest, hr1, hr2⟩ := rest_of (c := g3.cls ci) (by omega)
                      refine ⟨rest, by rw [HXX.out]; exact hr1, fun u hu => ?_⟩
                      obtain ⟨j, hj1, hj2, rfl⟩ := hr2 u hu
                      by_cases hj : j = 1
                      · subst hj
                        obtain ⟨e, he, hel, _⟩ := HR.out.1.hp
                        rw [HR.out.2.1, neg_neg, HR.out.1.pi.tok.T, ← hel]
                        exact List.mem_map.2 ⟨e, he, rfl⟩
                      · have := hall.out j (by omega) hj2
                        rw [HR.out.1.pi.tok.asg] at this
                        exact (lval_false hnd _).1 this
        · have dl : decide ((i : Int) < (lw : Int)) = false := decide_eq_false (by omega)
          have c1 : wr.cell? ⟨y.bs, 1, none⟩ = some (.slice (some ⟨y.bw, 0, none⟩) (2 * y.n) (2 * y.n)) := by rw [HN.out.pi.mem.sv.cell]; rfl
          go_wp2_with (first
            | (refine wpList_store_bk rfl 23 _ _ rfl y.bw p rfl (.slice aW nK cW) rfl rfl (by kernel_rfl) _ _ HN.out.mw.wh (by simp; omega) ?_
               intro w1 hw1)
            | go_in)
          go_roundg (y.n - (q + 1))
          case measure => omega
          case rel =>
            have hkl : nK ≤ (W2 p).length := by rw [HN.out.len]; omega
            have tr := MemW.trim (k := nK) HN.out.pi.mem HN.out.mw hp2 HN.out.hv hkl
            have hK : (W2 p).take nK = K := by rw [HK.out]; exact HN.out.tk
            have wd := HN.out.wip
            rw [List.drop_eq_nil_of_le (by rw [HN.out.len]; omega)] at wd
            rw [hK] at tr
            have hb1 := HN.out.pi.below.setCell (p := ⟨y.bw, p, none⟩) HN.out.pi.mem.t2.2 (.slice aW nK cW)
            rw [hw1.out]
            refine ⟨g2, E2, upd W2 p K, upd vW2 p (.slice aW nK cW), ⟨⟨tr.1, hb1, HN.out.pi.tok, HN.out.pi.cok, HN.out.pi.q, HN.out.pi.cur⟩, ⟨tr.2, wd.done⟩, HN.out.seen, HN.out.act⟩, ?_⟩
            rw [HN.out.q]
            exact Nat.le_refl _
    · have d1 : decide ((q : Int) < (t : Int)) = false := decide_eq_false (by omega)
      go_wp2
      go_quiet (fail)
      go_wp2
      go_ret
      refine ⟨g', E', ⟨HI.out.1.mem, below_drewN HI.out.1.below _, HI.out.1.tok, HI.out.1.cok, HI.out.1.q, HI.out.1.cur⟩, HI.out.2.2.1, HI.out.2.2.2, .inl ⟨rfl, ?_, W', vW', HI.out.2.1.mem, HI.out.2.1.ok⟩⟩
      rw [← HT.out.2.2, ← HT.out.2.1]
      omega

end Go.Proofs.Qxb6600345a
