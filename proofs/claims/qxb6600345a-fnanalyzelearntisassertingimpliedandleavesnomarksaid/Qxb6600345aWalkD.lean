/-
  DERIVED. Seat b6600345a: rewatch.
-/
import Derived.Test.Qxb6600345aRun1
import Derived.Deep.DrawnRows
namespace Go.Proofs.Qxb6600345a
open Go.RowKit
set_option linter.unusedVariables false
set_option linter.unusedSimpArgs false
attribute [local go_sem ↓] Go.wp_at_zero Go.wp_at_succ

/-- What rewatch leaves: no literal from the third on that is not false; or the first such one stands second, and is watched. -/
def RwPost (y : Sv) (g : Gh) (w0 : World) (W : Nat → List Nat) (vW : Nat → Value) (ci : Nat) (w : World) (e : Ending) (w' : World) : Prop :=
  (e = .returned (.bool false) ∧ (∀ j, 2 ≤ j → j < (g.cls ci).length → lval g.asg ((g.cls ci).getD j 0) = 2) ∧ ∃ q, w' = w.drewN q) ∨
  (e = .returned (.bool true) ∧ Below y.base w0 w' ∧ ∃ k v' ow', 2 ≤ k ∧ k < (g.cls ci).length ∧ lval g.asg ((g.cls ci).getD k 0) ≠ 2 ∧
    MemC w'.heap y { g with cls := upd g.cls ci (((g.cls ci).set 1 ((g.cls ci).getD k 0)).set k ((g.cls ci).getD 1 0)), ow := ow' } ∧
    MemW w'.heap y { g with ow := ow' } (upd W (neg ((g.cls ci).getD k 0)) (W (neg ((g.cls ci).getD k 0)) ++ [ci])) (upd vW (neg ((g.cls ci).getD k 0)) v'))

/-- A pure callee, at a step of a region that draws. -/
theorem step_call {P : Program} {ops : Array Oper} {o : Oper} {a : Act} {w : World} {K : Act → World → Prop} {Q : Exit → Act → World → Prop} {E : Prop} (hgd : o.guard = none) (f : FuncId) (args : Array Value) (hrun : (execOp a.eval o).run P w = .ok (.enter f args) w)
    (v : Value) (hc : Calls P f args w fun e w' => e = .returned v ∧ w' = w) (h : K (a.put o.dst v) w) : if Region.wanted o (yielded ops a.tmps) = true then Oper.wp P o a w K Q else E := by
  have hw : Region.wanted o (yielded ops a.tmps) = true := by simp [Region.wanted, hgd]
  rw [if_pos hw]
  unfold Oper.wp
  rw [hrun, Oper.upon_enter]
  refine hc.mono fun e w'' hh => ?_
  obtain ⟨rfl, rfl⟩ := hh
  exact h

theorem below_drewN {B : Nat} {a w : World} (h : Below B a w) (q : Nat) : Below B a (w.drewN q) := ⟨h.os, h.tape, h.output, h.size, h.block⟩

set_option maxRecDepth 100000 in
set_option maxHeartbeats 8000000 in
theorem rewatch {y : Sv} {g : Gh} {w w0 : World} {W : Nat → List Nat} {vW : Nat → Value} (h : MemC w.heap y g) (hW : MemW w.heap y g W vW) (hB : Below y.base w0 w) (hn : y.n ≤ 4096) (ci : Nat) (hci : ci < y.m) (hm : y.m ≤ 65536)
    (hlen : 2 ≤ (g.cls ci).length) (hmax : (g.cls ci).length ≤ 1000000) (hlt : ∀ x ∈ g.cls ci, x < 2 * y.n) (hasg : ∀ v, g.asg v ≤ 2) (hWl : ∀ l, l < 2 * y.n → (W l).length ≤ 65536) :
    Calls Try.prog 52 #[.pointer (some ⟨y.bs, 0, none⟩), row (y.cb ci) (g.cls ci).length, i32 ci] w fun e w' => RwPost y g w0 W vW ci w e w' := by
  obtain ⟨n, hnl⟩ : ∃ n, n = (g.cls ci).length := ⟨_, rfl⟩
  obtain ⟨C, hC⟩ : ∃ C : Nat → Nat, ∀ i, C i = (g.cls ci).getD i 0 := ⟨fun i => (g.cls ci).getD i 0, fun _ => rfl⟩
  have hCl : ∀ i, i < n → C i < 2 * y.n := fun i hi => by
    rw [hC, List.getD, List.getElem?_eq_getElem (by omega)]
    exact hlt _ (List.getElem_mem (by omega))
  have hcc : ∀ i, i < n → w.cell? ⟨y.cb ci, i, none⟩ = some (i32 (C i)) := fun i hi => by
    rw [(h.cl ci hci).cell, hC]
    simp [List.getElem?_eq_getElem (show i < (g.cls ci).length by omega)]
  have hlv : ∀ q i, i < n → Calls Try.prog 43 #[.pointer (some ⟨y.bs, 0, none⟩), i32 (C i)] (w.drewN q) fun e w' => e = .returned (.int .i8 (lval g.asg (C i) : Int)) ∧ ∃ m, w' = (w.drewN q).drewN m := fun q i hi =>
    litValue (w := w.drewN q) h hn (C i) (hCl i hi) (hasg _)
  unfold row
  rw [← hnl]
  have H0 : Hid (MemC w.heap y g) := h
  have HW0 : Hid (MemW w.heap y g W vW) := hW
  have HB : Hid (Below y.base w0 w) := hB
  rw [← hnl] at hlen hmax
  have HN : Hid (n = (g.cls ci).length) := hnl
  have HC : Hid (∀ i, C i = (g.cls ci).getD i 0) := hC
  clear h hW hB hnl hC hlt
  go_enter Try.func52, Try.ntmps52
  go_wp2
  go_loopw [7] (fun v wr => ∃ (k q : Nat), v = .int .i64 k ∧ 2 ≤ k ∧ k ≤ n ∧ Hid (wr = w.drewN q) ∧ Hid (∀ j, 2 ≤ j → j < k → lval g.asg (C j) = 2)) (fun v _ => n - (intOf v).toNat)
  case atStart => exact ⟨2, 0, rfl, by omega, by omega, rfl, fun j h1 h2 => by omega⟩
  case round =>
    obtain ⟨k, q, rfl, hk2, hkn, HQ, HF⟩ := hrel
    by_cases hk : k < n
    · have ck : wr.cell? ⟨y.cb ci, k, none⟩ = some (i32 (C k)) := by rw [HQ.out]; exact hcc k hk
      have hl := hlv q k hk
      rw [← HQ.out] at hl
      obtain ⟨x, hx⟩ : ∃ x, x = lval g.asg (C k) := ⟨_, rfl⟩
      rw [← hx] at hl
      have HX : Hid (x = lval g.asg (C k)) := hx
      clear hx
      by_cases hx2 : x = 2
      · have d2 : ((x : Int) != 2) = false := by simp; omega
        have HX2 : Hid (x = 2) := hx2
        clear hx2
        go_wp2_with (go_at_call 43; refine hl.mono ?_; rintro e w' ⟨rfl, hb⟩; replace hb : Hid _ := hb)
        go_roundw
        case rel =>
          obtain ⟨m, hm'⟩ := hb.out
          refine ⟨k + 1, q + m, by go_num, by omega, by omega, ?_, ?_⟩
          · show _ = _; rw [hm', HQ.out]; exact World.drewN_drewN _ _ _
          · intro j h1 h2
            by_cases hj : j = k
            · subst hj; rw [← HX.out]; exact HX2.out
            · exact HF.out j h1 (by omega)
        case measure => simp [intOf]; omega
      · have d2 : ((x : Int) != 2) = true := by simp; omega
        go_wp2_with (go_at_call 43; refine hl.mono ?_; rintro e w' ⟨rfl, hb⟩; replace hb : Hid _ := hb)
        have H1 : Hid (MemC w'.heap y g ∧ MemW w'.heap y g W vW ∧ Below y.base w0 w') := by
          obtain ⟨m, hm'⟩ := hb.out
          rw [hm', HQ.out, World.drewN_drewN]
          exact ⟨H0.out, HW0.out, below_drewN HB.out _⟩
        have c1 : w'.cell? ⟨y.cb ci, 1, none⟩ = some (i32 (C 1)) := by
          obtain ⟨m, hm'⟩ := hb.out
          rw [hm', HQ.out, World.drewN_drewN]; exact hcc 1 (by omega)
        have ck' : w'.cell? ⟨y.cb ci, k, none⟩ = some (i32 (C k)) := by
          obtain ⟨m, hm'⟩ := hb.out
          rw [hm', HQ.out, World.drewN_drewN]; exact hcc k (by omega)
        have f1 : w'.frozen? ⟨y.cb ci, 1, none⟩ = false := (H1.out.1.cl ci hci).frozen _
        have fk : w'.frozen? ⟨y.cb ci, k, none⟩ = false := (H1.out.1.cl ci hci).frozen _
        clear ck hl hb hcc hlv
        go_cut [] from 21 (fun wc => MemC wc.heap y { g with cls := upd g.cls ci (((g.cls ci).set 1 (C k)).set k (C 1)) } ∧ MemW wc.heap y g W vW ∧ Below y.base w0 wc)
        case first =>
          go_region
          all_goals go_wp2
          all_goals go_meet
          all_goals
            have e1 := (H1.out.1.setCl ci hci 1 (C k))
            have e2 := e1.setCl ci hci k (C 1)
            refine ⟨?_, ?_, ?_⟩
            · have e3 : upd (upd g.cls ci ((g.cls ci).set 1 (C k))) ci ((upd g.cls ci ((g.cls ci).set 1 (C k)) ci).set k (C 1)) = upd g.cls ci (((g.cls ci).set 1 (C k)).set k (C 1)) := by
                funext j; simp only [upd]; split <;> simp
              rw [← e3]
              exact e2
            · exact H1.out.2.1.frame (g' := g) H1.out.1.t2.1 ((Fr.set w' _ (by rw [(H1.out.1.tc ci hci).1]; omega) _ _).trans (Fr.set _ _ (by rw [(H1.out.1.tc ci hci).1]; omega) _ _))
            · exact (Below.setCell (H1.out.2.2.setCell (H1.out.1.tc ci hci).2 _) (H1.out.1.tc ci hci).2 _).drew
        case rest =>
          obtain ⟨h2, hw2, hb2⟩ := hcut
          clear H1 c1 ck' f1 fk HQ H0 HW0 HB
          obtain ⟨i0, hi, hz0, hz1, hz2⟩ := info_parts info21
          obtain ⟨a, ha⟩ : ∃ a, a = neg (C k) := ⟨_, rfl⟩
          have hCk := hCl k hk
          have ha2 : a < 2 * y.n := by rw [ha]; unfold neg; split <;> omega
          have hno : ∀ w, Calls Try.prog 41 #[i32 (C k)] w fun e w' => e = .returned (i32 a) ∧ w' = w := fun w => by rw [ha]; exact litNot (C k) (by omega) w
          obtain ⟨aW, cW, hvW⟩ := (hw2.row a ha2).shape
          obtain ⟨lw, hlw⟩ : ∃ lw, lw = (W a).length := ⟨_, rfl⟩
          rw [List.length_map, ← hlw] at hvW
          have hlw2 : lw ≤ 65536 := by rw [hlw]; exact hWl a ha2
          have cb1 : wc.cell? ⟨y.bs, 1, none⟩ = some (.slice (some ⟨y.bw, 0, none⟩) (2 * y.n) (2 * y.n)) := by rw [h2.sv.cell]; rfl
          have cc1 : wc.cell? ⟨y.cb ci, 1, none⟩ = some (i32 (C k)) := by
            have := (h2.cl ci hci).cell 1
            rw [this]
            show ((upd g.cls ci (((g.cls ci).set 1 (C k)).set k (C 1)) ci).map i32).toArray[1]? = _
            have hl1 : 1 < (g.cls ci).length := by rw [← HN.out]; omega
            rw [upd_same]
            simp [List.getElem?_set, hl1, show ¬ k = 1 by omega]
          have cw : wc.cell? ⟨y.bw, a, none⟩ = some (.slice aW lw cW) := by rw [hw2.wh.cell, tab_at ha2, hvW]
          have fw : wc.frozen? ⟨y.bw, a, none⟩ = false := hw2.wh.frozen _
          have ho : wc.ownsRow y.base 21 1 (.slice aW lw cW) lw ((W a).map i32) := by
            have := (hw2.row a ha2).owns
            rw [hvW, List.length_map, ← hlw] at this
            exact this
          have hne : (Value.slice aW lw cW).ownBlock ≠ some y.bw := fun e => by
            have := hw2.tw a ha2 y.bw (by rw [hvW]; exact e)
            rw [h2.t2.1] at this
            omega
          have hne0 : (Value.slice aW lw cW).ownBlock ≠ some y.bs := fun e => by
            have := hw2.tw a ha2 y.bs (by rw [hvW]; exact e)
            rw [h2.t0.1] at this
            omega
          have hne1 : (Value.slice aW lw cW).ownBlock ≠ some (y.cb ci) := fun e => by
            have := hw2.tw a ha2 (y.cb ci) (by rw [hvW]; exact e)
            rw [(h2.tc ci hci).1] at this
            omega
          have hd0 : y.bs ≠ y.bw := fun e => by have := h2.t2.1; rw [← e, h2.t0.1] at this; omega
          have hd1 : y.cb ci ≠ y.bw := fun e => by have := h2.t2.1; rw [← e, (h2.tc ci hci).1] at this; omega
          have lg0 := h2.sv.lt
          have lg1 := (h2.cl ci hci).lt
          have lg := hw2.wh.lt
          have hbase := h2.base
          have H2 : Hid (MemC wc.heap y { g with cls := upd g.cls ci (((g.cls ci).set 1 (C k)).set k (C 1)) } ∧ MemW wc.heap y g W vW ∧ Below y.base w0 wc) := ⟨h2, hw2, hb2⟩
          have HA : Hid (a = neg (C k)) := ha
          have HV : Hid (vW a = .slice aW lw cW) := hvW
          have HX2 : Hid (x ≠ 2) := hx2
          have fin : Hid (∀ gg cap (w1 : World), w1.ownsRow y.base 21 1 (.slice (some ⟨gg, 0, none⟩) (lw + 1) cap) (lw + 1) ((W a).map i32 ++ [i32 ci]) → (wc.alloc (Obj.cells #[i32 ci] 21)).drew.grownBy w1 (Value.slice aW lw cW).ownBlock →
              ((Value.slice aW lw cW).ownBlock = some gg ∨ gg = wc.heap.size + 1) → RwPost y g w0 W vW ci w (.returned (.bool true)) (w1.setCell ⟨y.bw, a, none⟩ (.slice (some ⟨gg, 0, none⟩) (lw + 1) cap))) := by
            intro gg cap w1 hown1 hgrow hat
            have hg : wc.grownBy w1 (vW a).ownBlock := by
              rw [hvW]
              exact (World.grownBy_alloc wc (Obj.cells #[i32 ci] 21) _).trans ⟨hgrow.os, hgrow.tape, hgrow.output, hgrow.size, hgrow.block⟩
            have hl : (Value.slice (some ⟨gg, 0, none⟩) (lw + 1) cap).ownBlock = (vW a).ownBlock ∨ ∃ b, (Value.slice (some ⟨gg, 0, none⟩) (lw + 1) cap).ownBlock = some b ∧ wc.heap.size ≤ b := by
              rw [hvW]
              rcases hat with hat | hat
              · exact .inl hat.symm
              · exact .inr ⟨gg, rfl, by omega⟩
            have hp := MemW.push (g := { g with cls := upd g.cls ci (((g.cls ci).set 1 (C k)).set k (C 1)) }) h2 ⟨hw2.wh, hw2.row, hw2.tw⟩ ha2 hg _ ci (lw + 1) hown1 hl
            refine .inr ⟨rfl, ?_, k, .slice (some ⟨gg, 0, none⟩) (lw + 1) cap, owAt g.ow (.slice (some ⟨gg, 0, none⟩) (lw + 1) cap) (21 + 2 * a), hk2, by rw [← HN.out]; exact hk, ?_, ?_, ?_⟩
            · refine Below.setCell (hb2.grown hg h2.base fun j hj => ?_) h2.t2.2 _
              rw [hvW] at hj
              exact (ho.lt j hj).1
            · rw [← HC.out, ← HX.out]; exact HX2.out
            · rw [← HC.out, ← HC.out]; exact hp.1
            · rw [← HC.out, ← ha]; exact ⟨hp.2.wh, hp.2.row, hp.2.tw⟩
          clear h2 hw2 hb2 ha hvW hlw hCl hx2
          have b1 : (1 : Int) < (n : Int) := by omega
          have b2 : (0 : Int) ≤ (a : Int) := by omega
          have b3 : (a : Int) < 2 * (y.n : Int) := by omega
          go_wp2_with fail
          have hcell : ∀ w' : World, (∀ b, b < wc.heap.size → some b ≠ (Value.slice aW lw cW).ownBlock → w'.heap[b]? = wc.heap[b]?) → w'.cell? ⟨y.bs, 1, none⟩ = some (.slice (some ⟨y.bw, 0, none⟩) (2 * y.n) (2 * y.n)) ∧ w'.cell? ⟨y.cb ci, 1, none⟩ = some (i32 (C k)) ∧ w'.cell? ⟨y.bw, a, none⟩ = some (.slice aW lw cW) ∧ w'.frozen? ⟨y.bw, a, none⟩ = false := fun w' hh =>
            ⟨(World.cell?_of_block (hh y.bs lg0 (Ne.symm hne0))).trans cb1, (World.cell?_of_block (hh (y.cb ci) lg1 (Ne.symm hne1))).trans cc1, (World.cell?_of_block (hh y.bw lg (Ne.symm hne))).trans cw, (World.frozen?_of_block (hh y.bw lg (Ne.symm hne))).trans fw⟩
          have hno41 : ∀ w', Calls Try.prog 41 #[i32 (C k)] w' fun e w'' => e = .returned (i32 a) ∧ w'' = w' := hno
          have hc0 := hcell wc.drew (fun _ _ _ => rfl)
          have hc1 := hcell (wc.drew.alloc (Obj.cells #[i32 ci] 21)) (fun b hb _ => Below.heap_alloc wc.drew _ b hb)
          have hc2 : ∀ w' v, (∃ gg cap, v = .slice (some ⟨gg, 0, none⟩) (lw + 1) cap ∧ w'.ownsRow y.base 21 1 v (lw + 1) ((W a).map i32 ++ [i32 ci]) ∧ (wc.alloc (Obj.cells #[i32 ci] 21)).drew.grownBy w' (Value.slice aW lw cW).ownBlock ∧ ((Value.slice aW lw cW).ownBlock = some gg ∨ gg = wc.heap.size + 1)) → _ := fun w' v hh => hcell w' (fun b hb hnb => by
            obtain ⟨gg, cap, -, -, hg, -⟩ := hh
            exact (hg.block b (by simp; omega) hnb).trans (Below.heap_alloc wc _ b hb))
          refine wp_region_any (by rfl) ?_
          refine wpAny_inv (fun l a' w' => RI (rwK y.bs y.bw (y.cb ci) y.n n (C k) a ci aW lw cW wc.heap.size) (rwP y.bs (y.cb ci) n ci) wc.drew (wc.drew.alloc (Obj.cells #[i32 ci] 21)) (fun w' v => ∃ gg cap, v = .slice (some ⟨gg, 0, none⟩) (lw + 1) cap ∧ w'.ownsRow y.base 21 1 v (lw + 1) ((W a).map i32 ++ [i32 ci]) ∧ (wc.alloc (Obj.cells #[i32 ci] 21)).drew.grownBy w' (Value.slice aW lw cW).ownBlock ∧ ((Value.slice aW lw cW).ownBlock = some gg ∨ gg = wc.heap.size + 1)) (fun w' v => w'.setCell ⟨y.bw, a, none⟩ v) l a' w') ?_ ?_ _ _ _ _ ?_ ?_ ?_
          · intro listed a' w' hs hI i hi
            unfold Region.ready at hi
            rw [List.mem_filter] at hi
            have h1 : i < 23 := List.mem_range.1 hi.1
            have h2 := hi.2
            clear hi
            have hs' : listed.size = 23 := hs
            rw [Bool.and_eq_true] at h2
            obtain ⟨h20, h2⟩ := h2
            have hno : listed.getD i false = false := by rw [← getD_both (by omega)]; simpa using h20
            clear h20
            have dep : ∀ j, listed[j]?.getD false = true → (fun i => listed.getD i false) j = true := fun j h => by simpa using h
            have hcc : w'.cell? ⟨y.bs, 1, none⟩ = some (.slice (some ⟨y.bw, 0, none⟩) (2 * y.n) (2 * y.n)) ∧ w'.cell? ⟨y.cb ci, 1, none⟩ = some (i32 (C k)) ∧ w'.cell? ⟨y.bw, a, none⟩ = some (.slice aW lw cW) ∧ w'.frozen? ⟨y.bw, a, none⟩ = false := hI.cells (fun w' => w'.cell? ⟨y.bs, 1, none⟩ = some (.slice (some ⟨y.bw, 0, none⟩) (2 * y.n) (2 * y.n)) ∧ w'.cell? ⟨y.cb ci, 1, none⟩ = some (i32 (C k)) ∧ w'.cell? ⟨y.bw, a, none⟩ = some (.slice aW lw cW) ∧ w'.frozen? ⟨y.bw, a, none⟩ = false) hc0 hc1 hc2 h1 hno
            match i, h1, h2, hno with
            | 0, _, h2, hno =>
              exact wpOp_do _ rfl rfl _ w' (run_mv (.tmp 0) rfl (hI.pr 0 (by omega)) w') (hI.plain 0 (by omega) (by omega) (by omega) (by omega) hno)
            | 1, _, h2, hno =>
              have h3 := h2
              simp [Region.binds] at h3
              exact wpOp_do _ rfl rfl _ w' (run_nil (.tmp 33) rfl (hI.ks 0 (by omega) (by omega) (by omega) (dep 0 h3)) w') (hI.plain 1 (by omega) (by omega) (by omega) (by omega) hno)
            | 2, _, h2, hno =>
              have h3 := h2
              simp [Region.binds] at h3
              exact wpOp_do _ rfl rfl _ w' (run_field (.tmp 34) rfl (hI.ks 1 (by omega) (by omega) (by omega) (dep 1 h3)) w') (hI.plain 2 (by omega) (by omega) (by omega) (by omega) hno)
            | 3, _, h2, hno =>
              have h3 := h2
              simp [Region.binds] at h3
              exact wpOp_do _ rfl rfl _ w' (run_load1 22 (.tmp 35) rfl (.inl rfl) (hI.ks 2 (by omega) (by omega) (by omega) (dep 2 h3)) w' hcc.1 rfl) (hI.plain 3 (by omega) (by omega) (by omega) (by omega) hno)
            | 4, _, h2, hno =>
              exact wpOp_do _ rfl rfl _ w' (run_mv (.tmp 1) rfl (hI.pr 1 (by omega)) w') (hI.plain 4 (by omega) (by omega) (by omega) (by omega) hno)
            | 5, _, h2, hno =>
              have h3 := h2
              simp [Region.binds] at h3
              exact wpOp_do _ rfl rfl _ w' (run_index 53 33 (.tmp 37) (.const (.int .i64 1)) rfl (.inl rfl) (hI.ks 4 (by omega) (by omega) (by omega) (dep 4 h3)) (i := 1) (k := .i64) rfl (by omega) hmax w') (hI.plain 5 (by omega) (by omega) (by omega) (by omega) hno)
            | 6, _, h2, hno =>
              have h3 := h2
              simp [Region.binds] at h3
              exact wpOp_do _ rfl rfl _ w' (run_load1 33 (.tmp 38) rfl (.inr (.inl rfl)) (hI.ks 5 (by omega) (by omega) (by omega) (dep 5 h3)) w' hcc.2.1 rfl) (hI.plain 6 (by omega) (by omega) (by omega) (by omega) hno)
            | 7, _, h2, hno =>
              have h3 := h2
              simp [Region.binds] at h3
              have d6 : listed[6]?.getD false = true := by repeat (first | exact h3 | exact h3.1 | (replace h3 := h3.2))
              exact wpOp_pure _ rfl rfl 41 _ (run_enter41 (.tmp 39) rfl (hI.ks 6 (by omega) (by omega) (by omega) (dep 6 d6)) w') _ (hno41 w') (hI.plain 7 (by omega) (by omega) (by omega) (by omega) hno)
            | 8, _, h2, hno =>
              exact wpOp_do _ rfl rfl _ w' (run_mv (.tmp 0) rfl (hI.pr 0 (by omega)) w') (hI.plain 8 (by omega) (by omega) (by omega) (by omega) hno)
            | 9, _, h2, hno =>
              have h3 := h2
              simp [Region.binds] at h3
              exact wpOp_do _ rfl rfl _ w' (run_nil (.tmp 41) rfl (hI.ks 8 (by omega) (by omega) (by omega) (dep 8 h3)) w') (hI.plain 9 (by omega) (by omega) (by omega) (by omega) hno)
            | 10, _, h2, hno =>
              have h3 := h2
              simp [Region.binds] at h3
              exact wpOp_do _ rfl rfl _ w' (run_field (.tmp 42) rfl (hI.ks 9 (by omega) (by omega) (by omega) (dep 9 h3)) w') (hI.plain 10 (by omega) (by omega) (by omega) (by omega) hno)
            | 11, _, h2, hno =>
              have h3 := h2
              simp [Region.binds] at h3
              exact wpOp_do _ rfl rfl _ w' (run_load1 22 (.tmp 43) rfl (.inl rfl) (hI.ks 10 (by omega) (by omega) (by omega) (dep 10 h3)) w' hcc.1 rfl) (hI.plain 11 (by omega) (by omega) (by omega) (by omega) hno)
            | 12, _, h2, hno =>
              exact wpOp_do _ rfl rfl _ w' (run_mv (.tmp 1) rfl (hI.pr 1 (by omega)) w') (hI.plain 12 (by omega) (by omega) (by omega) (by omega) hno)
            | 13, _, h2, hno =>
              have h3 := h2
              simp [Region.binds] at h3
              exact wpOp_do _ rfl rfl _ w' (run_index 53 33 (.tmp 45) (.const (.int .i64 1)) rfl (.inl rfl) (hI.ks 12 (by omega) (by omega) (by omega) (dep 12 h3)) (i := 1) (k := .i64) rfl (by omega) hmax w') (hI.plain 13 (by omega) (by omega) (by omega) (by omega) hno)
            | 14, _, h2, hno =>
              have h3 := h2
              simp [Region.binds] at h3
              exact wpOp_do _ rfl rfl _ w' (run_load1 33 (.tmp 46) rfl (.inr (.inl rfl)) (hI.ks 13 (by omega) (by omega) (by omega) (dep 13 h3)) w' hcc.2.1 rfl) (hI.plain 14 (by omega) (by omega) (by omega) (by omega) hno)
            | 15, _, h2, hno =>
              have h3 := h2
              simp [Region.binds] at h3
              have d6 : listed[14]?.getD false = true := by repeat (first | exact h3 | exact h3.1 | (replace h3 := h3.2))
              exact wpOp_pure _ rfl rfl 41 _ (run_enter41 (.tmp 47) rfl (hI.ks 14 (by omega) (by omega) (by omega) (dep 14 d6)) w') _ (hno41 w') (hI.plain 15 (by omega) (by omega) (by omega) (by omega) hno)
            | 16, _, h2, hno =>
              have h3 := h2
              simp [Region.binds] at h3
              have d11 : listed[11]?.getD false = true := by repeat (first | exact h3 | exact h3.1 | (replace h3 := h3.2))
              have d15 : listed[15]?.getD false = true := by repeat (first | exact h3 | exact h3.1 | (replace h3 := h3.2))
              exact wpOp_do _ rfl rfl _ w' (run_index 22 23 (.tmp 44) (.tmp 48) rfl (.inr rfl) (hI.ks 11 (by omega) (by omega) (by omega) (dep 11 d11)) (i := a) (k := .i32) (hI.ks 15 (by omega) (by omega) (by omega) (dep 15 d15)) (by omega) (by omega) w') (hI.plain 16 (by omega) (by omega) (by omega) (by omega) hno)
            | 17, _, h2, hno =>
              have h3 := h2
              simp [Region.binds] at h3
              exact wpOp_do _ rfl rfl _ w' (run_load1 23 (.tmp 49) rfl (.inr (.inr rfl)) (hI.ks 16 (by omega) (by omega) (by omega) (dep 16 h3)) w' hcc.2.2.1 rfl) (hI.plain 17 (by omega) (by omega) (by omega) (by omega) hno)
            | 18, _, h2, hno =>
              exact wpOp_do _ rfl rfl _ w' (run_mv (.tmp 2) rfl (hI.pr 2 (by omega)) w') (hI.plain 18 (by omega) (by omega) (by omega) (by omega) hno)
            | 19, _, h2, hno =>
              have h3 := h2
              simp [Region.binds] at h3
              obtain ⟨rfl, hb⟩ := hI.built hno
              exact wpOp_do _ rfl rfl _ _ (run_bslice (.tmp 51) rfl (hI.ks 18 (by omega) (by omega) (by omega) (dep 18 h3)) _) hb
            | 20, _, h2, hno =>
              have h3 := h2
              simp [Region.binds] at h3
              have d17 : listed[17]?.getD false = true := by repeat (first | exact h3 | exact h3.1 | (replace h3 := h3.2))
              have d19 : listed[19]?.getD false = true := by repeat (first | exact h3 | exact h3.1 | (replace h3 := h3.2))
              obtain ⟨rfl, hb⟩ := hI.grown hno (dep 19 d19)
              refine wpOp_step rfl fun K' hK' => step_append_lies _ rfl (.tmp 50) (.tmp 52) 23 rfl y.base 21 i0 _ 1 4 Try.underlying23 hi hz0 hz1 hz2 rfl (by omega) (.slice aW lw cW) lw ((W a).map i32) (hI.ks 17 (by omega) (by omega) (by omega) (dep 17 d17)) (ho.drew.alloc _) ⟨wc.heap.size, 0, none⟩ 1 1 [i32 ci] (hI.ks 19 (by omega) (by omega) (by omega) (dep 19 d19)) rfl (World.news_of_block (cs := #[i32 ci]) (t := 21) (fr := (0, 0)) (heap_alloc_new wc.drew _)) (by simp [Value.oneCell']) (by omega) (by unfold maxLen; omega) (by omega) (by simp; omega) (wc.heap.size + 1) (by simp) ?_
              intro gg cap w1 hown1 hgrow hat hlt
              exact hK' _ _ (hb _ _ ⟨gg, cap, rfl, hown1, hgrow, hat⟩)
            | 21, _, h2, hno =>
              have h3 := h2
              simp [Region.binds] at h3
              have d3 : listed[3]?.getD false = true := by repeat (first | exact h3 | exact h3.1 | (replace h3 := h3.2))
              have d7 : listed[7]?.getD false = true := by repeat (first | exact h3 | exact h3.1 | (replace h3 := h3.2))
              exact wpOp_do _ rfl rfl _ w' (run_index 22 23 (.tmp 36) (.tmp 40) rfl (.inr rfl) (hI.ks 3 (by omega) (by omega) (by omega) (dep 3 d3)) (i := a) (k := .i32) (hI.ks 7 (by omega) (by omega) (by omega) (dep 7 d7)) (by omega) (by omega) w') (hI.plain 21 (by omega) (by omega) (by omega) (by omega) hno)
            | 22, _, h2, hno =>
              have h3 := h2
              simp [Region.binds] at h3
              obtain ⟨e21, e20, e0, e1, e2, e3, e4, e5, e6, e7, e8, e9, e10, e11, e12, e13, e14, e15, e16, e17, e18, e19, -⟩ := h3
              have hall : ∀ i, i < 22 → (fun i => listed.getD i false) i = true := fun i hi => by
                match i, hi with
                | 0, _ => exact dep 0 e0
                | 1, _ => exact dep 1 e1
                | 2, _ => exact dep 2 e2
                | 3, _ => exact dep 3 e3
                | 4, _ => exact dep 4 e4
                | 5, _ => exact dep 5 e5
                | 6, _ => exact dep 6 e6
                | 7, _ => exact dep 7 e7
                | 8, _ => exact dep 8 e8
                | 9, _ => exact dep 9 e9
                | 10, _ => exact dep 10 e10
                | 11, _ => exact dep 11 e11
                | 12, _ => exact dep 12 e12
                | 13, _ => exact dep 13 e13
                | 14, _ => exact dep 14 e14
                | 15, _ => exact dep 15 e15
                | 16, _ => exact dep 16 e16
                | 17, _ => exact dep 17 e17
                | 18, _ => exact dep 18 e18
                | 19, _ => exact dep 19 e19
                | 20, _ => exact dep 20 e20
                | 21, _ => exact dep 21 e21
                | i + 22, hi => omega
              obtain ⟨hG, hb⟩ := hI.stored hno hall
              obtain ⟨gg, cap, ev, -⟩ := id hG
              refine wpOp_skip _ rfl rfl _ (run_store23 (.tmp 54) (.tmp 53) rfl (hI.ks 21 (by omega) (by omega) (by omega) (dep 21 e21)) ev w' hcc.2.2.1 hcc.2.2.2) ?_
              rw [ev] at hb
              exact hb
          · intro listed a' w' hs hI hr
            have hs' : listed.size = 23 := hs
            have q : ∀ i, i < 23 → listed.getD i true = true → listed[i]?.getD false = true := fun i hi h => by
              rw [getD_both (by omega)] at h
              simpa using h
            have q0 := q 0 (by omega) (notReady hr (by decide) (by simp [Region.binds]))
            have q1 := q 1 (by omega) (notReady hr (by decide) (by simp [Region.binds, q0]))
            have q2 := q 2 (by omega) (notReady hr (by decide) (by simp [Region.binds, q0, q1]))
            have q3 := q 3 (by omega) (notReady hr (by decide) (by simp [Region.binds, q0, q1, q2]))
            have q4 := q 4 (by omega) (notReady hr (by decide) (by simp [Region.binds, q0, q1, q2, q3]))
            have q5 := q 5 (by omega) (notReady hr (by decide) (by simp [Region.binds, q0, q1, q2, q3, q4]))
            have q6 := q 6 (by omega) (notReady hr (by decide) (by simp [Region.binds, q0, q1, q2, q3, q4, q5]))
            have q7 := q 7 (by omega) (notReady hr (by decide) (by simp [Region.binds, q0, q1, q2, q3, q4, q5, q6]))
            have q8 := q 8 (by omega) (notReady hr (by decide) (by simp [Region.binds, q0, q1, q2, q3, q4, q5, q6, q7]))
            have q9 := q 9 (by omega) (notReady hr (by decide) (by simp [Region.binds, q0, q1, q2, q3, q4, q5, q6, q7, q8]))
            have q10 := q 10 (by omega) (notReady hr (by decide) (by simp [Region.binds, q0, q1, q2, q3, q4, q5, q6, q7, q8, q9]))
            have q11 := q 11 (by omega) (notReady hr (by decide) (by simp [Region.binds, q0, q1, q2, q3, q4, q5, q6, q7, q8, q9, q10]))
            have q12 := q 12 (by omega) (notReady hr (by decide) (by simp [Region.binds, q0, q1, q2, q3, q4, q5, q6, q7, q8, q9, q10, q11]))
            have q13 := q 13 (by omega) (notReady hr (by decide) (by simp [Region.binds, q0, q1, q2, q3, q4, q5, q6, q7, q8, q9, q10, q11, q12]))
            have q14 := q 14 (by omega) (notReady hr (by decide) (by simp [Region.binds, q0, q1, q2, q3, q4, q5, q6, q7, q8, q9, q10, q11, q12, q13]))
            have q15 := q 15 (by omega) (notReady hr (by decide) (by simp [Region.binds, q0, q1, q2, q3, q4, q5, q6, q7, q8, q9, q10, q11, q12, q13, q14]))
            have q16 := q 16 (by omega) (notReady hr (by decide) (by simp [Region.binds, q0, q1, q2, q3, q4, q5, q6, q7, q8, q9, q10, q11, q12, q13, q14, q15]))
            have q17 := q 17 (by omega) (notReady hr (by decide) (by simp [Region.binds, q0, q1, q2, q3, q4, q5, q6, q7, q8, q9, q10, q11, q12, q13, q14, q15, q16]))
            have q18 := q 18 (by omega) (notReady hr (by decide) (by simp [Region.binds, q0, q1, q2, q3, q4, q5, q6, q7, q8, q9, q10, q11, q12, q13, q14, q15, q16, q17]))
            have q19 := q 19 (by omega) (notReady hr (by decide) (by simp [Region.binds, q0, q1, q2, q3, q4, q5, q6, q7, q8, q9, q10, q11, q12, q13, q14, q15, q16, q17, q18]))
            have q20 := q 20 (by omega) (notReady hr (by decide) (by simp [Region.binds, q0, q1, q2, q3, q4, q5, q6, q7, q8, q9, q10, q11, q12, q13, q14, q15, q16, q17, q18, q19]))
            have q21 := q 21 (by omega) (notReady hr (by decide) (by simp [Region.binds, q0, q1, q2, q3, q4, q5, q6, q7, q8, q9, q10, q11, q12, q13, q14, q15, q16, q17, q18, q19, q20]))
            have q22 := q 22 (by omega) (notReady hr (by decide) (by simp [Region.binds, q0, q1, q2, q3, q4, q5, q6, q7, q8, q9, q10, q11, q12, q13, q14, q15, q16, q17, q18, q19, q20, q21]))
            have h22 : (fun i => listed.getD i false) 22 = true := by simpa using q22
            obtain ⟨v, w2, ⟨gg, cap, ev, hown1, hgrow, hat⟩, hw2⟩ : ∃ v w2, (∃ gg cap, v = .slice (some ⟨gg, 0, none⟩) (lw + 1) cap ∧ w2.ownsRow y.base 21 1 v (lw + 1) ((W a).map i32 ++ [i32 ci]) ∧ (wc.alloc (Obj.cells #[i32 ci] 21)).drew.grownBy w2 (Value.slice aW lw cW).ownBlock ∧ ((Value.slice aW lw cW).ownBlock = some gg ∨ gg = wc.heap.size + 1)) ∧ w' = w2.setCell ⟨y.bw, a, none⟩ v := by
              rcases hI.ph with ⟨_, _, h, _⟩ | ⟨_, _, h, _⟩ | ⟨_, _, h, _⟩ | ⟨_, _, h⟩
              · exact absurd (h22.symm.trans h) (by decide)
              · exact absurd (h22.symm.trans h) (by decide)
              · exact absurd (h22.symm.trans h) (by decide)
              · exact h
            have hsz := hI.sz
            have hdf := hI.df
            clear hc0 hc1 hc2 hcell
            rename_i hKK
            refine hKK a' w' ?_
            refine wp_seq (wp_region_list ?_)
            refine wpList_plain rfl fun K hK => ?_
            unfold Oper.wp
            rw [BigFrame.run_assign (.const (.bool true)) rfl w']
            refine hK _ _ ?_
            refine wp_ret ?_
            (try simp only [Exit.inBlock, Exit.then])
            refine bodyPost_ret (fn := Try.f52) (results_tmp rfl _ _ _) hdf ?_
            have e6 : ((a'.put (some 6) (.bool true)).tmps.getD 6 undef) = .bool true := (getD_put (by omega)).trans (if_pos rfl)
            rw [hw2, ev]
            rw [ev] at hown1
            exact (congrArg (fun u => RwPost y g w0 W vW ci w (.returned u) _) e6).mpr (fin.out gg cap w2 hown1 hgrow hat)
          · rfl
          · decide
          · refine ⟨rfl, rfl, fun k hk => ?_, fun i hi _ _ hl => ?_, .inl ⟨rfl, rfl, rfl, rfl⟩⟩
            · match k, hk with
              | 0, _ => rfl
              | 1, _ => rfl
              | 2, _ => rfl
            · have : ∀ j, j < 23 → (Array.replicate 23 false).getD j false = false := by decide
              have hl' : (Array.replicate 23 false).getD i false = true := hl
              rw [this i hi] at hl'
              cases hl'
    · obtain rfl : k = n := by omega
      go_wp2
      go_ret
      refine .inl ⟨rfl, fun j h1 h2 => ?_, q, HQ.out⟩
      rw [← HC.out]
      exact HF.out j h1 (by rw [HN.out]; exact h2)

end Go.Proofs.Qxb6600345a
