/-
  DERIVED. Seat b6600345a: build, walked.
-/
import Derived.Test.Qxb6600345aBld
namespace Go.Proofs.Qxb6600345a
open Go.RowKit
set_option linter.unusedVariables false
set_option linter.unusedSimpArgs false
attribute [local go_sem ↓] Go.wp_at_zero Go.wp_at_succ

theorem tab_list (c : List Nat) : (tab c.length fun i => i32 (c.getD i 0)) = (c.map i32).toArray := by
  apply Array.ext_getElem?
  intro j
  by_cases hj : j < c.length
  · rw [tab_at hj]; simp [hj]
  · rw [Array.getElem?_eq_none (by simp; omega), Array.getElem?_eq_none (by simp; omega)]

/-- The copy of clause ci: the first k of its cells are laid. -/
def part (c : List Nat) (k : Nat) : Array Value := tab c.length fun i => if i < k then i32 (c.getD i 0) else i32 0

theorem part_zero (c : List Nat) : part c 0 = tab c.length fun _ => i32 0 := tab_congr fun i _ => by rw [if_neg (by omega)]
theorem part_all (c : List Nat) : part c c.length = (c.map i32).toArray := by
  rw [← tab_list]; exact tab_congr fun i hi => by rw [if_pos hi]
theorem part_step (c : List Nat) {k x : Nat} (hx : c[k]? = some x) : (part c k).setIfInBounds k (i32 x) = part c (k + 1) := by
  unfold part
  rw [tab_set]
  refine tab_congr fun i hi => ?_
  unfold upd
  by_cases e : i = k
  · subst e
    rw [if_pos rfl, if_pos (by omega), List.getD, hx]; rfl
  · rw [if_neg e]
    dsimp only
    by_cases h : i < k
    · rw [if_pos h, if_pos (by omega)]
    · rw [if_neg h, if_neg (by omega)]

theorem Bd.clause {w0 : World} {n m bcl bw : Nat} {orig : Nat → List Nat} {ci : Nat} {w : World} {cb ow : Nat → Nat} {W : Nat → List Nat} {vW : Nat → Value} (h : Bd w0 n m bcl bw orig ci w cb ow W vW) {bc : Nat} (hbc : Bk w.heap bc 33 ((orig ci).map i32).toArray) (ht : ow bc = 20 + 2 * ci) (hbb : w0.heap.size ≤ bc) :
    Bd w0 n m bcl bw orig (ci + 1) (w.setCell ⟨bcl, ci, none⟩ (.slice (some ⟨bc, 0, none⟩) (orig ci).length (orig ci).length)) (upd cb ci bc) ow W vW := by
  have ne : ∀ b, ow b ≠ 1 → b ≠ bcl := fun b hb e => hb (by rw [e]; exact h.t1.1)
  refine ⟨h.below.setCell h.t1.2 _, ?_, fun j hj => ?_, ⟨h.mw.wh.other (ne _ (by have := h.t2.1; show ow bw ≠ 1; omega)) _ _, fun l hl => (h.mw.row l hl).kept fun b hb _ => heap_setCell_other _ _ _ _ (ne b (by have e : ow b = 21 + 2 * l := h.mw.tw l hl b hb; omega)), h.mw.tw⟩, h.t1, h.t2, fun j hj => ?_⟩
  · have e := h.clh.set ci (.slice (some ⟨bc, 0, none⟩) (orig ci).length (orig ci).length)
    rw [tab_set] at e
    refine Eq.mp (congrArg (Bk _ _ _) (tab_congr fun i _ => ?_)) e
    unfold upd
    by_cases e : i = ci
    · subst e; rw [if_pos rfl, if_pos (by omega), if_pos rfl]; rfl
    · rw [if_neg e, if_neg e]
      dsimp only
      by_cases hi : i < ci
      · rw [if_pos hi, if_pos (by omega)]
      · rw [if_neg hi, if_neg (by omega)]
  · by_cases e : j = ci
    · subst e; rw [upd_same]; exact hbc.other (ne _ (by omega)) _ _
    · rw [upd_ne _ _ e]; exact (h.cl j (by omega)).other (ne _ (by rw [(h.tc j (by omega)).1]; omega)) _ _
  · by_cases e : j = ci
    · subst e; rw [upd_same]; exact ⟨ht, hbb⟩
    · rw [upd_ne _ _ e]; exact h.tc j (by omega)

theorem Bd.wh {w0 : World} {n m bcl bw : Nat} {orig : Nat → List Nat} {ci : Nat} {w : World} {cb ow : Nat → Nat} {W : Nat → List Nat} {vW : Nat → Value} (h : Bd w0 n m bcl bw orig ci w cb ow W vW) : Bk w.heap bw 23 (tab (2 * n) vW) := h.mw.wh
theorem Bd.row {w0 : World} {n m bcl bw : Nat} {orig : Nat → List Nat} {ci : Nat} {w : World} {cb ow : Nat → Nat} {W : Nat → List Nat} {vW : Nat → Value} (h : Bd w0 n m bcl bw orig ci w cb ow W vW) {l : Nat} (hl : l < 2 * n) : Ow w.heap w0.heap.size 21 (vW l) ((W l).map i32) := h.mw.row l hl
theorem Bd.tw {w0 : World} {n m bcl bw : Nat} {orig : Nat → List Nat} {ci : Nat} {w : World} {cb ow : Nat → Nat} {W : Nat → List Nat} {vW : Nat → Value} (h : Bd w0 n m bcl bw orig ci w cb ow W vW) {l : Nat} (hl : l < 2 * n) {b : Nat} (hb : (vW l).ownBlock = some b) : ow b = 21 + 2 * l := h.mw.tw l hl b hb

theorem Bd.push {w0 : World} {n m bcl bw : Nat} {orig : Nat → List Nat} {ci : Nat} {w w2 : World} {cb ow : Nat → Nat} {W : Nat → List Nat} {vW : Nat → Value} (h : Bd w0 n m bcl bw orig ci w cb ow W vW) {a : Nat} (ha : a < 2 * n) (hg : w.grownBy w2 (vW a).ownBlock) {v' : Value} {x n' : Nat} (hown : w2.ownsRow w0.heap.size 21 1 v' n' ((W a).map i32 ++ [i32 x])) (hl : v'.ownBlock = (vW a).ownBlock ∨ ∃ b, v'.ownBlock = some b ∧ w.heap.size ≤ b) :
    Bd w0 n m bcl bw orig ci (w2.setCell ⟨bw, a, none⟩ v') cb (owAt ow v' (21 + 2 * a)) (upd W a (W a ++ [x])) (upd vW a v') := by
  obtain ⟨p1, p2⟩ := MemW.push' (y := y0 n bw w0.heap.size) (g := g0 ow) h.t2.1 h.mw ha hg v' x n' hown hl
  have q1 := p2 bcl h.clh.lt (by show ow bcl ≠ 2; rw [h.t1.1]; omega) (by show ow bcl ≠ _; rw [h.t1.1]; omega)
  have q2 : ∀ j, j < ci → _ := fun j hj => p2 (cb j) (h.cl j hj).lt (by show ow (cb j) ≠ 2; rw [(h.tc j hj).1]; omega) (by show ow (cb j) ≠ _; rw [(h.tc j hj).1]; omega)
  refine ⟨?_, q1.1.trans h.clh, fun j hj => (q2 j hj).1.trans (h.cl j hj), ⟨p1.wh, p1.row, p1.tw⟩, ⟨q1.2.trans h.t1.1, h.t1.2⟩, ⟨?_, h.t2.2⟩, fun j hj => ⟨(q2 j hj).2.trans (h.tc j hj).1, (h.tc j hj).2⟩⟩
  · refine Below.setCell (h.below.grown hg h.below.size fun j hj => ?_) h.t2.2 _
    exact ((h.mw.row a ha).owns.lt j hj).1
  · exact (owAt_old (v0 := vW a) (N := w.heap.size) (h.mw.tw a ha) hl h.mw.wh.lt (by show ow bw ≠ _; rw [h.t2.1]; omega)).trans h.t2.1

set_option maxRecDepth 100000 in
set_option maxHeartbeats 4000000 in
theorem build {w0 : World} {n m : Nat} {aK : Option Addr} {orig : Nat → List Nat} (hK : ClM w0 w0.heap.size aK m orig) (hn : n ≤ 4096) (hm : m ≤ 65536) (htwo : ∀ ci, ci < m → 2 ≤ (orig ci).length) (hbig : ∀ ci, ci < m → (orig ci).length ≤ 1000000) (hlt : ∀ ci, ci < m → ∀ x ∈ orig ci, x < 2 * n) (hnd : ∀ ci, ci < m → ((orig ci).map (· / 2)).Nodup) :
    Calls Try.prog 14 #[.int .i64 (n : Int), .slice aK m m] w0 fun e w' => ∃ bs, e = .returned (.pointer (some ⟨bs, 0, none⟩)) ∧
      Hid (∃ bcl bw w1 cb ow1 W vW ow b3 b5 b7 b9 b11 b13, Bd w0 n m bcl bw orig m w1 cb ow1 W vW ∧ WB n orig m W ∧ NS n (.slice (some ⟨bcl, 0, none⟩) m m) (.slice (some ⟨bw, 0, none⟩) (2 * n) (2 * n)) w1 ow1 w' ow bs b3 b5 b7 b9 b11 b13) := by
  have HK : Hid (ClM w0 w0.heap.size aK m orig) := hK
  have HND : Hid (∀ ci, ci < m → ((orig ci).map (· / 2)).Nodup) := hnd
  clear hK hnd
  go_enter Try.func14, Try.ntmps14
  go_wp2_with (first
    | (refine wpList_mk rfl 60 _ rfl m rfl 53 Try.underlying60 (.slice none 0 0) 24 info53 rfl (by omega) (by omega) ?_
       intro wa bcl hwa)
    | (refine wpList_mk rfl 22 _ rfl (2 * n) rfl 23 Try.underlying22 (.slice none 0 0) 24 info23 rfl (by omega) (by omega) ?_
       intro wb bw hwb)
    | go_in)
  have HS : Hid (Bd w0 n m bcl bw orig 0 wb (fun _ => 0) (upd (fun _ => 1) bw 2) (fun _ => []) (fun _ => .slice none 0 0) ∧ WB n orig 0 (fun _ => [])) := by
    obtain ⟨ea, eb⟩ := hwa.out
    obtain ⟨ec, ed⟩ := hwb.out
    have hlt : bcl < wa.heap.size := by rw [ea, eb]; simp
    have h1 : Below w0.heap.size w0 wa := by rw [ea]; exact Below.alloc ⟨rfl, rfl, rfl, Nat.le_refl _, fun _ _ => rfl⟩ (Nat.le_refl _) _
    have hbw : Bk wb.heap bw 23 (tab (2 * n) fun _ => .slice none 0 0) := by rw [ec, ed]; exact heap_alloc_new wa _
    have hbcl : Bk wb.heap bcl 53 (tab m fun _ => .slice none 0 0) := by
      have : Bk wa.heap bcl 53 (tab m fun _ => .slice none 0 0) := by rw [ea, eb]; exact heap_alloc_new w0 _
      rw [ec]
      exact (Below.heap_alloc wa _ _ hlt).trans this
    refine ⟨⟨by rw [ec]; exact h1.alloc h1.size _, ?_, fun j hj => by omega, ⟨hbw, fun l _ => .inl ⟨rfl, rfl⟩, fun l _ b hb => by cases hb⟩, ⟨upd_ne _ _ (by omega), by rw [eb]; exact Nat.le_refl _⟩, ⟨upd_same _ _ _, by rw [ed]; exact h1.size⟩, fun j hj => by omega⟩, ⟨fun _ _ => by simp, fun _ _ _ h => by simp at h, fun _ _ _ h => by simp at h⟩⟩
    refine Eq.mp (congrArg (Bk _ _ _) (tab_congr fun i _ => ?_)) hbcl
    rw [if_neg (by omega)]
  clear hwa hwb
  go_loopg [7] m (fun k s7 wr => ∃ (ci : Nat) (cb ow : Nat → Nat) (W : Nat → List Nat) (vW : Nat → Value), s7 = .int .i64 (ci : Int) ∧ ci ≤ m ∧ m - ci ≤ k ∧ Hid (Bd w0 n m bcl bw orig ci wr cb ow W vW ∧ WB n orig ci W))
  case atStart => exact ⟨0, _, _, _, _, rfl, Nat.zero_le _, Nat.le_refl _, HS⟩
  case round =>
    obtain ⟨ci, cb, ow, W, vW, rfl, hci, hcik, HB⟩ := hrel
    clear HS
    by_cases hcm : ci < m
    · obtain ⟨bK, rb, haK, hbK, hrb, ck0, cr0⟩ := HK.out.row ci hcm
      obtain ⟨nC, hnC⟩ : ∃ nC, nC = (orig ci).length := ⟨_, rfl⟩
      rw [← hnC] at ck0
      have hn2 : 2 ≤ nC := by rw [hnC]; exact htwo ci hcm
      have hnb : nC ≤ 1000000 := by rw [hnC]; exact hbig ci hcm
      have ck : wr.cell? ⟨bK, ci, none⟩ = some (.slice (some ⟨rb, 0, none⟩) nC nC) := by rw [World.cell?_of_block (HB.out.1.below.block bK hbK)]; exact ck0
      have HR : Hid (nC = (orig ci).length ∧ ∀ i x, (orig ci)[i]? = some x → w0.cell? ⟨rb, i, none⟩ = some (i32 x)) := ⟨hnC, cr0⟩
      clear ck0 cr0 hnC
      subst haK
      go_wp2_with (first
        | (refine wpList_mk rfl 53 _ rfl nC rfl 33 Try.underlying53 (.int .i32 0) 4 info33 rfl (by omega) (by omega) ?_
           intro wd bc hwd
           have HD : Hid (Bd w0 n m bcl bw orig ci wd cb (upd ow bc (20 + 2 * ci)) W vW ∧ Bk wd.heap bc 33 (part (orig ci) 0) ∧ upd ow bc (20 + 2 * ci) bc = 20 + 2 * ci ∧ w0.heap.size ≤ bc) := by
             obtain ⟨e1, e2⟩ := hwd.out
             refine ⟨HB.out.1.frame ?_ fun b hb _ => ?_, ?_, upd_same _ _ _, ?_⟩
             · rw [e1]; exact HB.out.1.below.alloc HB.out.1.below.size _
             · rw [e1]; exact ⟨Below.heap_alloc wr _ b hb, upd_ne _ _ (by omega)⟩
             · rw [part_zero, e1, e2, ← HR.out.1]; exact heap_alloc_new wr _
             · rw [e2]; exact HB.out.1.below.size
           clear hwd)
        | go_in)
      go_loopg [10] nC (fun k s10 wr => ∃ j : Nat, s10 = .int .i64 (j : Int) ∧ j ≤ nC ∧ nC - j ≤ k ∧ Hid (Bd w0 n m bcl bw orig ci wr cb (upd ow bc (20 + 2 * ci)) W vW ∧ Bk wr.heap bc 33 (part (orig ci) j)))
      case atStart => exact ⟨0, rfl, Nat.zero_le _, Nat.le_refl _, HD.out.1, HD.out.2.1⟩
      case round =>
        obtain ⟨j, rfl, hj, hjk, HJ⟩ := hrel
        replace HB : Hid (WB n orig ci W) := HB.out.2
        have HT : Hid (upd ow bc (20 + 2 * ci) bc = 20 + 2 * ci ∧ w0.heap.size ≤ bc) := HD.out.2.2
        clear HD ck
        by_cases hjn : j < nC
        · obtain ⟨x, hx⟩ : ∃ x, (orig ci)[j]? = some x := ⟨_, List.getElem?_eq_getElem (by rw [← HR.out.1]; exact hjn)⟩
          have cx : wr.cell? ⟨rb, j, none⟩ = some (i32 x) := by rw [World.cell?_of_block (HJ.out.1.below.block rb hrb)]; exact HR.out.2 j x hx
          have HX : Hid ((orig ci)[j]? = some x) := hx
          have hsz : j < (part (orig ci) j).size := by unfold part; rw [tab_size, ← HR.out.1]; exact hjn
          clear hx
          go_wp2_with (first
            | (refine wpList_store_bk rfl 33 _ _ rfl bc j rfl (i32 x) rfl rfl (by kernel_rfl) _ _ HJ.out.2 hsz ?_
               intro w4 hw4)
            | go_in)
          go_roundg (nC - (j + 1))
          case measure => omega
          case rel =>
            refine ⟨j + 1, by go_num, by omega, Nat.le_refl _, ?_, ?_⟩
            · rw [hw4.out]
              refine HJ.out.1.frame (HJ.out.1.below.setCell HT.out.2 _) fun b hb hne => ⟨heap_setCell_other _ _ _ _ (fun e => ?_), rfl⟩
              have e' : b = bc := e
              rw [e', HT.out.1] at hne
              exact hne rfl
            · rw [hw4.out, ← part_step _ HX.out]
              exact HJ.out.2.set j (i32 x)
        · have dj : decide ((j : Int) < (nC : Int)) = false := decide_eq_false (by omega)
          obtain ⟨i0, hi0, hz0, hz1, hz2⟩ := info_parts info21
          obtain ⟨x0, hx0⟩ : ∃ x0, x0 = (orig ci).getD 0 0 := ⟨_, rfl⟩
          obtain ⟨x1, hx1⟩ : ∃ x1, x1 = (orig ci).getD 1 0 := ⟨_, rfl⟩
          have hl0 : 0 < (orig ci).length := by rw [← HR.out.1]; omega
          have hl1 : 1 < (orig ci).length := by rw [← HR.out.1]; omega
          have h20 : x0 < 2 * n := by rw [hx0]; exact hlt ci hcm _ (getD_mem hl0)
          have h21 : x1 < 2 * n := by rw [hx1]; exact hlt ci hcm _ (getD_mem hl1)
          have hvne : x1 / 2 ≠ x0 / 2 := by rw [hx0, hx1]; exact vars_ne (HND.out ci hcm) hl1 hl0 (by omega)
          obtain ⟨a, ha⟩ : ∃ a, a = neg x0 := ⟨_, rfl⟩
          obtain ⟨b, hb⟩ : ∃ b, b = neg x1 := ⟨_, rfl⟩
          have hno0 : ∀ w, Calls Try.prog 41 #[i32 x0] w fun e w' => e = .returned (i32 a) ∧ w' = w := fun w => by rw [ha]; exact litNot x0 (by omega) w
          have hno1 : ∀ w, Calls Try.prog 41 #[i32 x1] w fun e w' => e = .returned (i32 b) ∧ w' = w := fun w => by rw [hb]; exact litNot x1 (by omega) w
          have ha2 : a < 2 * n := by rw [ha]; exact neg_lt h20
          have hb2 : b < 2 * n := by rw [hb]; exact neg_lt h21
          have hba : b ≠ a := fun e => hvne (by rw [← neg_var x1, ← hb, e, ha, neg_var])
          have hbc : Hid (Bk wr.heap bc 33 ((orig ci).map i32).toArray) := by
            have e := HJ.out.2
            rw [show j = (orig ci).length by rw [← HR.out.1]; omega, part_all] at e
            exact e
          have HX : Hid (x0 = (orig ci).getD 0 0 ∧ x1 = (orig ci).getD 1 0 ∧ a = neg x0 ∧ b = neg x1) := ⟨hx0, hx1, ha, hb⟩
          clear hx0 hx1 ha hb hl0 hl1 hvne
          have hcells : ∀ w' : World, Bk w'.heap bc 33 ((orig ci).map i32).toArray → w'.cell? ⟨bc, 0, none⟩ = some (i32 x0) ∧ w'.cell? ⟨bc, 1, none⟩ = some (i32 x1) := fun w' hh => by
            have hl := HR.out.1
            refine ⟨?_, ?_⟩
            · rw [hh.cell, HX.out.1, List.getD]; simp [List.getElem?_eq_getElem (show 0 < (orig ci).length by omega)]
            · rw [hh.cell, HX.out.2.1, List.getD]; simp [List.getElem?_eq_getElem (show 1 < (orig ci).length by omega)]
          obtain ⟨aW, cW, hvW⟩ := (HJ.out.1.mw.row a ha2).shape
          obtain ⟨lw, hlw⟩ : ∃ lw, lw = (W a).length := ⟨_, rfl⟩
          rw [List.length_map, ← hlw] at hvW
          have hlwm : lw ≤ 65536 := by rw [hlw]; exact Nat.le_trans (HB.out.len ha2) (by omega)
          obtain ⟨aX, cX, hvX⟩ := (HJ.out.1.mw.row b hb2).shape
          obtain ⟨lx, hlx⟩ : ∃ lx, lx = (W b).length := ⟨_, rfl⟩
          rw [List.length_map, ← hlx] at hvX
          have hlxm : lx ≤ 65536 := by rw [hlx]; exact Nat.le_trans (HB.out.len hb2) (by omega)
          have HV : Hid (vW a = .slice aW lw cW ∧ lw = (W a).length ∧ vW b = .slice aX lx cX ∧ lx = (W b).length) := ⟨hvW, hlw, hvX, hlx⟩
          clear hvW hlw hvX hlx
          have hst5 : ∀ w5 : World, w5 = wr.setCell ⟨bcl, ci, none⟩ (.slice (some ⟨bc, 0, none⟩) nC nC) → Hid (Bd w0 n m bcl bw orig (ci + 1) w5 (upd cb ci bc) (upd ow bc (20 + 2 * ci)) W vW) ∧ w5.cell? ⟨bc, 0, none⟩ = some (i32 x0) ∧ w5.cell? ⟨bw, a, none⟩ = some (.slice aW lw cW) ∧ Hid (w5.ownsRow w0.heap.size 21 1 (.slice aW lw cW) lw ((W a).map i32)) ∧ w0.heap.size ≤ w5.heap.size := fun w5 hw5 => by
            have H5 : Bd w0 n m bcl bw orig (ci + 1) w5 (upd cb ci bc) (upd ow bc (20 + 2 * ci)) W vW := by
              rw [hw5, HR.out.1]; exact HJ.out.1.clause hbc.out HT.out.1 HT.out.2
            refine ⟨H5, (hcells w5 (by have e := H5.cl ci (by omega); rw [upd_same] at e; exact e)).1, by rw [H5.wh.cell, tab_at ha2, HV.out.1], ?_, H5.below.size⟩
            have e := (H5.row ha2).owns
            rw [List.length_map, ← HV.out.2.1, HV.out.1] at e
            exact e
          have hst7 : ∀ w5 w6 w7 : World, ∀ v' : Value, Bd w0 n m bcl bw orig (ci + 1) w5 (upd cb ci bc) (upd ow bc (20 + 2 * ci)) W vW → w5.grownBy w6 (Value.slice aW lw cW).ownBlock → w6.ownsRow w0.heap.size 21 1 v' (lw + 1) ((W a).map i32 ++ [i32 ci]) → (v'.ownBlock = (Value.slice aW lw cW).ownBlock ∨ ∃ b, v'.ownBlock = some b ∧ w5.heap.size ≤ b) → w7 = w6.setCell ⟨bw, a, none⟩ v' →
              Hid (Bd w0 n m bcl bw orig (ci + 1) w7 (upd cb ci bc) (owAt (upd ow bc (20 + 2 * ci)) v' (21 + 2 * a)) (upd W a (W a ++ [ci])) (upd vW a v')) ∧ w7.cell? ⟨bc, 1, none⟩ = some (i32 x1) ∧ w7.cell? ⟨bw, b, none⟩ = some (.slice aX lx cX) ∧ Hid (w7.ownsRow w0.heap.size 21 1 (.slice aX lx cX) lx ((W b).map i32)) ∧ w0.heap.size ≤ w7.heap.size := fun w5 w6 w7 v' H5 hg hown hl hw7 => by
            have H7 : Bd w0 n m bcl bw orig (ci + 1) w7 (upd cb ci bc) (owAt (upd ow bc (20 + 2 * ci)) v' (21 + 2 * a)) (upd W a (W a ++ [ci])) (upd vW a v') := by
              rw [hw7]
              exact H5.push ha2 (by rw [HV.out.1]; exact hg) hown (by rw [HV.out.1]; exact hl)
            refine ⟨H7, (hcells w7 (by have e := H7.cl ci (by omega); rw [upd_same] at e; exact e)).2, by rw [H7.wh.cell, tab_at hb2, upd_ne _ _ hba, HV.out.2.2.1], ?_, H7.below.size⟩
            have e := (H7.row hb2).owns
            rw [upd_ne _ _ hba, upd_ne _ _ hba, List.length_map, ← HV.out.2.2.2, HV.out.2.2.1] at e
            exact e
          have hbk6 : ∀ w5 w6 : World, ∀ c W' vW' aY ly cY l ow', Bd w0 n m bcl bw orig (ci + 1) w5 c ow' W' vW' → l < 2 * n → vW' l = .slice aY ly cY → w5.grownBy w6 (Value.slice aY ly cY).ownBlock → Bk w6.heap bw 23 (tab (2 * n) vW') := fun w5 w6 c W' vW' aY ly cY l ow' H5 hl hv hg => H5.wh.grown hg fun e => by
            have := H5.tw hl (b := bw) (by rw [hv]; exact e.symm)
            rw [H5.t2.1] at this
            omega
          go_wp2_with (first
            | (refine wpList_store_bk rfl 53 _ _ rfl bcl ci rfl (.slice (some ⟨bc, 0, none⟩) nC nC) rfl rfl (by kernel_rfl) _ _ HJ.out.1.clh (by simp; omega) ?_
               intro w5 hw5
               obtain ⟨H5, c50, cw5, ho5, hbs5⟩ := hst5 w5 hw5.out
               clear hw5)
            | (go_at_call 41; refine (hno0 _).mono ?_; rintro e w' ⟨rfl, rfl⟩)
            | (at_builtin
               refine wpList_append_own_at _ rfl _ _ 23 rfl w0.heap.size 21 i0 (.int .i32 0) 1 4 Try.underlying23 hi0 hz0 hz1 hz2 rfl (by decide) _ _ _ rfl (ho5.out.alloc _) ⟨w'.heap.size, 0, none⟩ 1 1 [i32 ci] rfl rfl (cell_one_new _ _ _) (ints_oneCell .i32 [(ci : Int)]) (by unfold maxLen; omega) (by omega) (by simp; omega) ?_
               intro v' w6 hown6 hg6 hnil6 hat6
               have hg56 : w'.grownBy w6 (Value.slice aW lw cW).ownBlock := (World.grownBy_alloc _ _ _).trans hg6
               have hb6 := hbk6 _ _ _ _ _ _ _ _ a _ H5.out ha2 HV.out.1 hg56)
            | (refine wpList_store_bk rfl 23 _ _ rfl bw a rfl v' rfl (own_oneCell hown6) (by kernel_rfl) _ _ hb6 (by simp; omega) ?_
               intro w7 hw7
               obtain ⟨H7, c71, cw7, ho7, hbs7⟩ := hst7 _ _ w7 v' H5.out hg56 hown6 (hat6.elim .inl (fun h => .inr ⟨_, h, by simp⟩)) hw7.out
               clear hw7)
            | (go_at_call 41; refine (hno1 _).mono ?_; rintro e w9 ⟨rfl, rfl⟩)
            | (at_builtin
               refine wpList_append_own_at _ rfl _ _ 23 rfl w0.heap.size 21 i0 (.int .i32 0) 1 4 Try.underlying23 hi0 hz0 hz1 hz2 rfl (by decide) _ _ _ rfl (ho7.out.alloc _) ⟨w9.heap.size, 0, none⟩ 1 1 [i32 ci] rfl rfl (cell_one_new _ _ _) (ints_oneCell .i32 [(ci : Int)]) (by unfold maxLen; omega) (by omega) (by simp; omega) ?_
               intro v2 w10 hown10 hg10 hnil10 hat10
               have hg910 : w9.grownBy w10 (Value.slice aX lx cX).ownBlock := (World.grownBy_alloc _ _ _).trans hg10
               have hb10 := hbk6 _ _ _ _ _ _ _ _ b _ H7.out hb2 (by rw [upd_ne _ _ hba]; exact HV.out.2.2.1) hg910)
            | (refine wpList_store_bk rfl 23 _ _ rfl bw b rfl v2 rfl (own_oneCell hown10) (by kernel_rfl) _ _ hb10 (by simp; omega) ?_
               intro w11 hw11)
            | go_in)
          go_roundg (m - (ci + 1))
          case measure => omega
          case rel =>
            refine ⟨ci + 1, upd cb ci bc, owAt (owAt (upd ow bc (20 + 2 * ci)) v' (21 + 2 * a)) v2 (21 + 2 * b), upd (upd W a (W a ++ [ci])) b (upd W a (W a ++ [ci]) b ++ [ci]), upd (upd vW a v') b v2, by go_num, by omega, Nat.le_refl _, ?_, ?_⟩
            · rw [hw11.out]
              refine H7.out.push hb2 ?_ (n' := lx + 1) ?_ ?_
              · rw [upd_ne _ _ hba, HV.out.2.2.1]; exact hg910
              · rw [upd_ne _ _ hba]; exact hown10
              · rw [upd_ne _ _ hba, HV.out.2.2.1]; exact hat10.elim .inl (fun h => .inr ⟨_, h, by simp⟩)
            · exact HB.out.push hba (by rw [HX.out.2.2.1, neg_neg]; exact HX.out.1.symm) (by rw [HX.out.2.2.2, neg_neg]; exact HX.out.2.1.symm)
    · have dc : decide ((ci : Int) < (m : Int)) = false := decide_eq_false (by omega)
      obtain rfl : ci = m := by omega
      have hns := zzNewSolver (w1 := wr) n hn (some ⟨bcl, 0, none⟩) (some ⟨bw, 0, none⟩) ci ci (2 * n) (2 * n) ow
      go_wp2_with (go_at_call 42; refine hns.mono ?_; rintro e w' ⟨bs, rfl, hb⟩)
      go_ret
      obtain ⟨ow', b3, b5, b7, b9, b11, b13, hN⟩ := hb.out
      exact ⟨bs, rfl, bcl, bw, wr, cb, ow, W, vW, ow', b3, b5, b7, b9, b11, b13, HB.out.1, HB.out.2, hN⟩

end Go.Proofs.Qxb6600345a
