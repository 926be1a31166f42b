/-
  DERIVED. Seat b6600345a: rewatch.
-/
import Derived.Test.Qxb6600345aWalkC
import Derived.Deep.DrawnRows
namespace Go.Proofs.Qxb6600345a
open Go.RowKit
set_option linter.unusedVariables false
set_option linter.unusedSimpArgs false
attribute [local go_sem ↓] Go.wp_at_zero Go.wp_at_succ

/-- What rewatch leaves: no literal from the third on that is not false; or the first such one stands second, and is watched. -/
def RwPost (y : Sv) (g : Gh) (w0 : World) (W : Nat → List Nat) (vW : Nat → Value) (ci : Nat) (w : World) (e : Ending) (w' : World) : Prop :=
  (e = .returned (.bool false) ∧ (∀ j, 2 ≤ j → j < (g.cls ci).length → lval g.asg ((g.cls ci).getD j 0) = 2) ∧ ∃ q, w' = w.drewN q) ∨
  (e = .returned (.bool true) ∧ Below y.base w0 w' ∧ ∃ k v' ow', 2 ≤ k ∧ k < (g.cls ci).length ∧ lval g.asg ((g.cls ci).getD k 0) ≠ 2 ∧
    MemC w'.heap y { g with cls := upd g.cls ci (((g.cls ci).set 1 ((g.cls ci).getD k 0)).set k ((g.cls ci).getD 1 0)), ow := ow' } ∧
    MemW w'.heap y { g with ow := ow' } (upd W (neg ((g.cls ci).getD k 0)) (W (neg ((g.cls ci).getD k 0)) ++ [ci])) (upd vW (neg ((g.cls ci).getD k 0)) v'))

/-- A pure callee, at a step of a region that draws. -/
theorem step_call {P : Program} {ops : Array Oper} {o : Oper} {a : Act} {w : World} {K : Act → World → Prop} {Q : Exit → Act → World → Prop} {E : Prop} (hgd : o.guard = none) (f : FuncId) (args : Array Value) (hrun : (execOp a.eval o).run P w = .ok (.enter f args) w)
    (v : Value) (hc : Calls P f args w fun e w' => e = .returned v ∧ w' = w) (h : K (a.put o.dst v) w) : if Region.wanted o (yielded ops a.tmps) = true then Oper.wp P o a w K Q else E := by
  have hw : Region.wanted o (yielded ops a.tmps) = true := by simp [Region.wanted, hgd]
  rw [if_pos hw]
  unfold Oper.wp
  rw [hrun, Oper.upon_enter]
  refine hc.mono fun e w'' hh => ?_
  obtain ⟨rfl, rfl⟩ := hh
  exact h

theorem below_drewN {B : Nat} {a w : World} (h : Below B a w) (q : Nat) : Below B a (w.drewN q) := ⟨h.os, h.tape, h.output, h.size, h.block⟩

set_option maxRecDepth 100000 in
set_option maxHeartbeats 8000000 in
theorem rewatch {y : Sv} {g : Gh} {w w0 : World} {W : Nat → List Nat} {vW : Nat → Value} (h : MemC w.heap y g) (hW : MemW w.heap y g W vW) (hB : Below y.base w0 w) (hn : y.n ≤ 4096) (ci : Nat) (hci : ci < y.m) (hm : y.m ≤ 65536)
    (hlen : 2 ≤ (g.cls ci).length) (hmax : (g.cls ci).length ≤ 1000000) (hlt : ∀ x ∈ g.cls ci, x < 2 * y.n) (hasg : ∀ v, g.asg v ≤ 2) (hWl : ∀ l, l < 2 * y.n → (W l).length ≤ 65536) :
    Calls Try.prog 52 #[.pointer (some ⟨y.bs, 0, none⟩), row (y.cb ci) (g.cls ci).length, i32 ci] w fun e w' => RwPost y g w0 W vW ci w e w' := by
  obtain ⟨n, hnl⟩ : ∃ n, n = (g.cls ci).length := ⟨_, rfl⟩
  obtain ⟨C, hC⟩ : ∃ C : Nat → Nat, ∀ i, C i = (g.cls ci).getD i 0 := ⟨fun i => (g.cls ci).getD i 0, fun _ => rfl⟩
  have hCl : ∀ i, i < n → C i < 2 * y.n := fun i hi => by
    rw [hC, List.getD, List.getElem?_eq_getElem (by omega)]
    exact hlt _ (List.getElem_mem (by omega))
  have hcc : ∀ i, i < n → w.cell? ⟨y.cb ci, i, none⟩ = some (i32 (C i)) := fun i hi => by
    rw [(h.cl ci hci).cell, hC]
    simp [List.getElem?_eq_getElem (show i < (g.cls ci).length by omega)]
  have hlv : ∀ q i, i < n → Calls Try.prog 43 #[.pointer (some ⟨y.bs, 0, none⟩), i32 (C i)] (w.drewN q) fun e w' => e = .returned (.int .i8 (lval g.asg (C i) : Int)) ∧ ∃ m, w' = (w.drewN q).drewN m := fun q i hi =>
    litValue (w := w.drewN q) h hn (C i) (hCl i hi) (hasg _)
  unfold row
  rw [← hnl]
  have H0 : Hid (MemC w.heap y g) := h
  have HW0 : Hid (MemW w.heap y g W vW) := hW
  have HB : Hid (Below y.base w0 w) := hB
  rw [← hnl] at hlen hmax
  have HN : Hid (n = (g.cls ci).length) := hnl
  have HC : Hid (∀ i, C i = (g.cls ci).getD i 0) := hC
  clear h hW hB hnl hC hlt
  go_enter Try.func52, Try.ntmps52
  go_wp2
  go_loopw [7] (fun v wr => ∃ (k q : Nat), v = .int .i64 k ∧ 2 ≤ k ∧ k ≤ n ∧ Hid (wr = w.drewN q) ∧ Hid (∀ j, 2 ≤ j → j < k → lval g.asg (C j) = 2)) (fun v _ => n - (intOf v).toNat)
  case atStart => exact ⟨2, 0, rfl, by omega, by omega, rfl, fun j h1 h2 => by omega⟩
  case round =>
    obtain ⟨k, q, rfl, hk2, hkn, HQ, HF⟩ := hrel
    by_cases hk : k < n
    · have ck : wr.cell? ⟨y.cb ci, k, none⟩ = some (i32 (C k)) := by rw [HQ.out]; exact hcc k hk
      have hl := hlv q k hk
      rw [← HQ.out] at hl
      obtain ⟨x, hx⟩ : ∃ x, x = lval g.asg (C k) := ⟨_, rfl⟩
      rw [← hx] at hl
      have HX : Hid (x = lval g.asg (C k)) := hx
      clear hx
      by_cases hx2 : x = 2
      · have d2 : ((x : Int) != 2) = false := by simp; omega
        have HX2 : Hid (x = 2) := hx2
        clear hx2
        go_wp2_with (go_at_call 43; refine hl.mono ?_; rintro e w' ⟨rfl, hb⟩; replace hb : Hid _ := hb)
        go_roundw
        case rel =>
          obtain ⟨m, hm'⟩ := hb.out
          refine ⟨k + 1, q + m, by go_num, by omega, by omega, ?_, ?_⟩
          · show _ = _; rw [hm', HQ.out]; exact World.drewN_drewN _ _ _
          · intro j h1 h2
            by_cases hj : j = k
            · subst hj; rw [← HX.out]; exact HX2.out
            · exact HF.out j h1 (by omega)
        case measure => simp [intOf]; omega
      · have d2 : ((x : Int) != 2) = true := by simp; omega
        go_wp2_with (go_at_call 43; refine hl.mono ?_; rintro e w' ⟨rfl, hb⟩; replace hb : Hid _ := hb)
        have H1 : Hid (MemC w'.heap y g ∧ MemW w'.heap y g W vW ∧ Below y.base w0 w') := by
          obtain ⟨m, hm'⟩ := hb.out
          rw [hm', HQ.out, World.drewN_drewN]
          exact ⟨H0.out, HW0.out, below_drewN HB.out _⟩
        have c1 : w'.cell? ⟨y.cb ci, 1, none⟩ = some (i32 (C 1)) := by
          obtain ⟨m, hm'⟩ := hb.out
          rw [hm', HQ.out, World.drewN_drewN]; exact hcc 1 (by omega)
        have ck' : w'.cell? ⟨y.cb ci, k, none⟩ = some (i32 (C k)) := by
          obtain ⟨m, hm'⟩ := hb.out
          rw [hm', HQ.out, World.drewN_drewN]; exact hcc k (by omega)
        have f1 : w'.frozen? ⟨y.cb ci, 1, none⟩ = false := (H1.out.1.cl ci hci).frozen _
        have fk : w'.frozen? ⟨y.cb ci, k, none⟩ = false := (H1.out.1.cl ci hci).frozen _
        clear ck hl hb hcc hlv
        go_cut [] from 21 (fun wc => MemC wc.heap y { g with cls := upd g.cls ci (((g.cls ci).set 1 (C k)).set k (C 1)) } ∧ MemW wc.heap y g W vW ∧ Below y.base w0 wc)
        case first =>
          go_region
          all_goals go_wp2
          all_goals go_meet
          all_goals
            have e1 := (H1.out.1.setCl ci hci 1 (C k))
            have e2 := e1.setCl ci hci k (C 1)
            refine ⟨?_, ?_, ?_⟩
            · have e3 : upd (upd g.cls ci ((g.cls ci).set 1 (C k))) ci ((upd g.cls ci ((g.cls ci).set 1 (C k)) ci).set k (C 1)) = upd g.cls ci (((g.cls ci).set 1 (C k)).set k (C 1)) := by
                funext j; simp only [upd]; split <;> simp
              rw [← e3]
              exact e2
            · exact H1.out.2.1.frame (g' := g) H1.out.1.t2.1 ((Fr.set w' _ (by rw [(H1.out.1.tc ci hci).1]; omega) _ _).trans (Fr.set _ _ (by rw [(H1.out.1.tc ci hci).1]; omega) _ _))
            · exact (Below.setCell (H1.out.2.2.setCell (H1.out.1.tc ci hci).2 _) (H1.out.1.tc ci hci).2 _).drew
        case rest =>
          obtain ⟨h2, hw2, hb2⟩ := hcut
          clear H1 c1 ck' f1 fk HQ H0 HW0 HB
          obtain ⟨i0, hi, hz0, hz1, hz2⟩ := info_parts info21
          obtain ⟨a, ha⟩ : ∃ a, a = neg (C k) := ⟨_, rfl⟩
          have hCk := hCl k hk
          have ha2 : a < 2 * y.n := by rw [ha]; unfold neg; split <;> omega
          have hno : ∀ w, Calls Try.prog 41 #[i32 (C k)] w fun e w' => e = .returned (i32 a) ∧ w' = w := fun w => by rw [ha]; exact litNot (C k) (by omega) w
          obtain ⟨aW, cW, hvW⟩ := (hw2.row a ha2).shape
          obtain ⟨lw, hlw⟩ : ∃ lw, lw = (W a).length := ⟨_, rfl⟩
          rw [List.length_map, ← hlw] at hvW
          have hlw2 : lw ≤ 65536 := by rw [hlw]; exact hWl a ha2
          have cb1 : wc.cell? ⟨y.bs, 1, none⟩ = some (.slice (some ⟨y.bw, 0, none⟩) (2 * y.n) (2 * y.n)) := by rw [h2.sv.cell]; rfl
          have cc1 : wc.cell? ⟨y.cb ci, 1, none⟩ = some (i32 (C k)) := by
            have := (h2.cl ci hci).cell 1
            rw [this]
            show ((upd g.cls ci (((g.cls ci).set 1 (C k)).set k (C 1)) ci).map i32).toArray[1]? = _
            have hl1 : 1 < (g.cls ci).length := by rw [← HN.out]; omega
            rw [upd_same]
            simp [List.getElem?_set, hl1, show ¬ k = 1 by omega]
          have cw : wc.cell? ⟨y.bw, a, none⟩ = some (.slice aW lw cW) := by rw [hw2.wh.cell, tab_at ha2, hvW]
          have fw : wc.frozen? ⟨y.bw, a, none⟩ = false := hw2.wh.frozen _
          have ho : wc.ownsRow y.base 21 1 (.slice aW lw cW) lw ((W a).map i32) := by
            have := (hw2.row a ha2).owns
            rw [hvW, List.length_map, ← hlw] at this
            exact this
          have hne : (Value.slice aW lw cW).ownBlock ≠ some y.bw := fun e => by
            have := hw2.tw a ha2 y.bw (by rw [hvW]; exact e)
            rw [h2.t2.1] at this
            omega
          have hne0 : (Value.slice aW lw cW).ownBlock ≠ some y.bs := fun e => by
            have := hw2.tw a ha2 y.bs (by rw [hvW]; exact e)
            rw [h2.t0.1] at this
            omega
          have hne1 : (Value.slice aW lw cW).ownBlock ≠ some (y.cb ci) := fun e => by
            have := hw2.tw a ha2 (y.cb ci) (by rw [hvW]; exact e)
            rw [(h2.tc ci hci).1] at this
            omega
          have hd0 : y.bs ≠ y.bw := fun e => by have := h2.t2.1; rw [← e, h2.t0.1] at this; omega
          have hd1 : y.cb ci ≠ y.bw := fun e => by have := h2.t2.1; rw [← e, (h2.tc ci hci).1] at this; omega
          have lg0 := h2.sv.lt
          have lg1 := (h2.cl ci hci).lt
          have lg := hw2.wh.lt
          have hbase := h2.base
          have H2 : Hid (MemC wc.heap y { g with cls := upd g.cls ci (((g.cls ci).set 1 (C k)).set k (C 1)) } ∧ MemW wc.heap y g W vW ∧ Below y.base w0 wc) := ⟨h2, hw2, hb2⟩
          have HA : Hid (a = neg (C k)) := ha
          have HV : Hid (vW a = .slice aW lw cW) := hvW
          have HX2 : Hid (x ≠ 2) := hx2
          have fin : Hid (∀ gg cap (w1 : World), w1.ownsRow y.base 21 1 (.slice (some ⟨gg, 0, none⟩) (lw + 1) cap) (lw + 1) ((W a).map i32 ++ [i32 ci]) → (wc.alloc (Obj.cells #[i32 ci] 21)).drew.grownBy w1 (Value.slice aW lw cW).ownBlock →
              ((Value.slice aW lw cW).ownBlock = some gg ∨ gg = wc.heap.size + 1) → RwPost y g w0 W vW ci w (.returned (.bool true)) (w1.setCell ⟨y.bw, a, none⟩ (.slice (some ⟨gg, 0, none⟩) (lw + 1) cap))) := by
            intro gg cap w1 hown1 hgrow hat
            have hg : wc.grownBy w1 (vW a).ownBlock := by
              rw [hvW]
              exact (World.grownBy_alloc wc (Obj.cells #[i32 ci] 21) _).trans ⟨hgrow.os, hgrow.tape, hgrow.output, hgrow.size, hgrow.block⟩
            have hl : (Value.slice (some ⟨gg, 0, none⟩) (lw + 1) cap).ownBlock = (vW a).ownBlock ∨ ∃ b, (Value.slice (some ⟨gg, 0, none⟩) (lw + 1) cap).ownBlock = some b ∧ wc.heap.size ≤ b := by
              rw [hvW]
              rcases hat with hat | hat
              · exact .inl hat.symm
              · exact .inr ⟨gg, rfl, by omega⟩
            have hp := MemW.push (g := { g with cls := upd g.cls ci (((g.cls ci).set 1 (C k)).set k (C 1)) }) h2 ⟨hw2.wh, hw2.row, hw2.tw⟩ ha2 hg _ ci (lw + 1) hown1 hl
            refine .inr ⟨rfl, ?_, k, .slice (some ⟨gg, 0, none⟩) (lw + 1) cap, owAt g.ow (.slice (some ⟨gg, 0, none⟩) (lw + 1) cap) (21 + 2 * a), hk2, by rw [← HN.out]; exact hk, ?_, ?_, ?_⟩
            · refine Below.setCell (hb2.grown hg h2.base fun j hj => ?_) h2.t2.2 _
              rw [hvW] at hj
              exact (ho.lt j hj).1
            · rw [← HC.out, ← HX.out]; exact HX2.out
            · rw [← HC.out, ← HC.out]; exact hp.1
            · rw [← HC.out, ← ha]; exact ⟨hp.2.wh, hp.2.row, hp.2.tw⟩
          clear h2 hw2 hb2 ha hvW hlw hCl hx2
          have b1 : (1 : Int) < (n : Int) := by omega
          have b2 : (0 : Int) ≤ (a : Int) := by omega
          have b3 : (a : Int) < 2 * (y.n : Int) := by omega
          go_wp2_with fail
          set_option warningAsError false in
          go_region_held3 (fun w' => w'.cell? ⟨y.bs, 1, none⟩ = some (.slice (some ⟨y.bw, 0, none⟩) (2 * y.n) (2 * y.n)) ∧ w'.cell? ⟨y.cb ci, 1, none⟩ = some (i32 (C k)))
            (first
              | go_keep
              | (go_split_ands
                 refine ⟨?_, ?_⟩
                 · (rw [hgrow.cell_far _ (by simp; omega) (Ne.symm hne0)]; assumption)
                 · (rw [hgrow.cell_far _ (by simp; omega) (Ne.symm hne1)]; assumption))
              | (go_split_ands
                 refine ⟨?_, ?_⟩
                 · (rw [World.cell?_of_block (heap_setCell_other _ _ _ _ hd0)]; assumption)
                 · (rw [World.cell?_of_block (heap_setCell_other _ _ _ _ hd1)]; assumption)))
            (first
              | (go_at_call 41; refine (hno _).mono ?_; rintro e w' ⟨rfl, rfl⟩)
              | (refine step_append_lies _ (by rfl) _ _ _ (by rfl) y.base 21 i0 _ 1 4 Try.underlying23 hi hz0 hz1 hz2 rfl (by omega) (.slice aW lw cW) lw ((W a).map i32) (by rfl) ((ho.alloc _).drew)
                  ⟨wc.heap.size, 0, none⟩ 1 1 [i32 ci] (by rfl) (by rfl) (World.news_of_block (cs := #[i32 ci]) (t := 21) (fr := (0, 0)) (heap_alloc_new wc _)) (by simp [Value.oneCell'])
                  (by omega) (by unfold maxLen; omega) (by omega) (by simp; omega) (wc.heap.size + 1) (by simp) ?_
                 intro gg cap w1 hown1 hgrow hat hlt
                 have cw1 : w1.cell? ⟨y.bw, a, none⟩ = some (.slice aW lw cW) := (hgrow.cell_far _ (by simp; omega) (Ne.symm hne)).trans (by rw [show (wc.alloc (Obj.cells #[i32 ci] 21)).drew.cell? ⟨y.bw, a, none⟩ = wc.cell? ⟨y.bw, a, none⟩ from World.cell?_of_block (Below.heap_alloc wc _ _ lg)]; exact cw)
                 have fw1 : w1.frozen? ⟨y.bw, a, none⟩ = false := (hgrow.frozen_far _ (by simp; omega) (Ne.symm hne)).trans (by rw [show (wc.alloc (Obj.cells #[i32 ci] 21)).drew.frozen? ⟨y.bw, a, none⟩ = wc.frozen? ⟨y.bw, a, none⟩ from World.frozen?_of_block (Below.heap_alloc wc _ _ lg)]; exact fw)))
          all_goals go_wp2
          all_goals go_ret
          all_goals exact fin.out _ _ _ hown1 hgrow hat
    · obtain rfl : k = n := by omega
      go_wp2
      go_ret
      refine .inl ⟨rfl, fun j h1 h2 => ?_, q, HQ.out⟩
      rw [← HC.out]
      exact HF.out j h1 (by rw [HN.out]; exact h2)

end Go.Proofs.Qxb6600345a
