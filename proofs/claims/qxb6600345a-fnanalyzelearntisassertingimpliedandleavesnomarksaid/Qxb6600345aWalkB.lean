/-
  DERIVED. Seat b6600345a: assign, ZZNewLevel.
-/
import Derived.Test.Qxb6600345aWalkA
import Derived.Deep.Cut
namespace Go.Proofs.Qxb6600345a
open Go.RowKit
set_option linter.unusedVariables false
set_option linter.unusedSimpArgs false

theorem size1 : (Try.prog.info? 63).map (·.size) = some 1 := by kernel_rfl
theorem info33 : (Try.prog.info? 33).map (fun i => (i.zero, i.size, i.bytes)) = some (some (.int .i32 0), 1, 4) := by kernel_rfl
theorem info21 : (Try.prog.info? 21).map (fun i => (i.zero, i.size, i.bytes)) = some (some (.int .i32 0), 1, 4) := by kernel_rfl
theorem info3 : (Try.prog.info? 3).map (fun i => (i.zero, i.size, i.bytes)) = some (some (.int .i64 0), 1, 8) := by kernel_rfl

theorem own_oneCell {w : World} {base n : Nat} {e : TypeId} {v : Value} {xs : List Value} (h : w.ownsRow base e 1 v n xs) : v.oneCell' = true := by
  rcases h.2 with ⟨rfl, _⟩ | ⟨g, cap, cur, rfl, _⟩ <;> rfl

set_option maxRecDepth 100000 in
set_option maxHeartbeats 2000000 in
theorem assign {y : Sv} {g : Gh} {w w0 : World} (h : MemC w.heap y g) (hB : Below y.base w0 w) (hn : y.n ≤ 4096) (l : Nat) (hl : l < 2 * y.n) (rs : Int) (hL : g.L.length < 1000000) (hT : g.T.length ≤ 4096) :
    Calls Try.prog 45 #[.pointer (some ⟨y.bs, 0, none⟩), i32 l, .int .i32 rs] w fun e w' => e = .returned (.tuple #[]) ∧ Below y.base w0 w' ∧ ∃ v' ow', Fr w.heap w'.heap g.ow ow' ∧
      MemC w'.heap y { g with asg := upd g.asg (l / 2) (1 + l % 2), lvl := upd g.lvl (l / 2) g.L.length, rsn := upd g.rsn (l / 2) rs, T := g.T ++ [l], vT := v', ow := ow' } := by
  have hv : l / 2 < y.n := by omega
  have hand := and_i32 l (by omega)
  have c2 : ∀ w' : World, ∀ g', MemC w'.heap y g' → w'.cell? ⟨y.bs, 2, none⟩ = some (.slice (some ⟨y.ba, 0, none⟩) y.n y.n) := fun w' g' h => by rw [h.sv.cell]; rfl
  have HL := fun w => litVar l (by omega) w
  have c2' := c2 w g h
  go_enter Try.func45, Try.ntmps45
  go_upto_if 17 with (first
    | (go_at_call 25; refine (HL _).mono ?_; rintro e w' ⟨rfl, rfl⟩)
    | (refine wpList_store_bk rfl 63 _ _ rfl y.ba (l / 2) rfl (.int .i8 1) rfl rfl size1 _ _ h.asg (by simp; omega) ?_; intro w1 hw1)
    | go_in)
  have h1 : MemC w1.heap y { g with asg := upd g.asg (l / 2) 1 } := by rw [hw1.out]; exact h.setAsg (l / 2) 1
  have hB1 : Below y.base w0 w1 := by rw [hw1.out]; exact hB.setCell h.t3.2 _
  have hF1 : Fr w'.heap w1.heap g.ow g.ow := by rw [hw1.out]; exact Fr.set _ _ (by rw [h.t3.1]; omega) _ _
  clear hw1 c2'
  have c2' := c2 w1 _ h1
  go_cut [] from 18 (fun wc => MemC wc.heap y { g with asg := upd g.asg (l / 2) (1 + l % 2) } ∧ Below y.base w0 wc ∧ Fr w'.heap wc.heap g.ow g.ow)
  case first =>
    by_cases hp : l % 2 = 0
    · have hd : (((l % 2 : Nat) : Int) == 1) = false := by simp; omega
      go_wp2
      go_meet
      case rel => rw [hp]; exact ⟨h1, hB1, hF1⟩
    · have hp1 : l % 2 = 1 := by omega
      have hd : (((l % 2 : Nat) : Int) == 1) = true := by simp; omega
      go_wp2_with (first
        | (refine wpList_store_bk rfl 63 _ _ rfl y.ba (l / 2) rfl (.int .i8 2) rfl rfl size1 _ _ h1.asg (by simp; omega) ?_; intro w2 hw2)
        | go_in)
      go_meet
      case rel =>
        rw [hw2.out, hp1]
        refine ⟨?_, hB1.setCell h.t3.2 _, hF1.trans (Fr.set _ _ (by rw [h.t3.1]; omega) _ _)⟩
        have e := h1.setAsg (l / 2) 2
        have e2 : upd (upd g.asg (l / 2) 1) (l / 2) 2 = upd g.asg (l / 2) (1 + 1) := by funext j; simp only [upd]; split <;> rfl
        rw [show ({ g with asg := upd g.asg (l / 2) (1 + 1) } : Gh) = { g with asg := upd (upd g.asg (l / 2) 1) (l / 2) 2 } from by rw [e2]]
        exact e
  case rest =>
    obtain ⟨h2, hB2, hF2⟩ := hcut
    clear h hB h1 hB1 c2' c2 hF1 w1
    have HF2 : Hid _ := hF2
    clear hF2
    obtain ⟨d, hd⟩ : ∃ d, d = g.L.length := ⟨_, rfl⟩
    have hdl := fun w' (hh : w'.heap = wc.heap) => decisionLevel (w := w') (y := y) (g := { g with asg := upd g.asg (l / 2) (1 + l % 2) }) (by rw [hh]; exact h2)
    simp only [← hd] at hdl hL
    have hdw : IntKind.i32.wrap (d : Int) = d := wrap_i32_nat d (by omega)
    have c3 : wc.cell? ⟨y.bs, 3, none⟩ = some (.slice (some ⟨y.bl, 0, none⟩) y.n y.n) := by rw [h2.sv.cell]; rfl
    obtain ⟨x0, cl⟩ : ∃ x0, wc.cell? ⟨y.bl, l / 2, none⟩ = some x0 := ⟨_, by rw [h2.lvl.cell, tab_at hv]⟩
    have fl : wc.frozen? ⟨y.bl, l / 2, none⟩ = false := h2.lvl.frozen _
    have HD : Hid (d = g.L.length) := hd
    have H2 : Hid _ := h2
    have HB2 : Hid _ := hB2
    clear hd h2 hB2
    go_upto_region 4 with fail
    go_cut [] from 24 (fun wx => MemC wx.heap y { g with asg := upd g.asg (l / 2) (1 + l % 2), lvl := upd g.lvl (l / 2) g.L.length } ∧ Below y.base w0 wx ∧ Fr w'.heap wx.heap g.ow g.ow)
    case first =>
      go_region_with (go_at_call 47; refine (hdl _ (by rfl)).mono ?_; rintro e w' ⟨rfl, rfl⟩)
      all_goals go_wp2
      all_goals go_meet
      all_goals exact ⟨by rw [← HD.out]; exact H2.out.setLvl (l / 2) d, HB2.out.drew.setCell H2.out.t4.2 _, HF2.out.trans (Fr.set wc.drew _ (by rw [H2.out.t4.1]; omega) _ _)⟩
    case rest =>
      obtain ⟨h3, hB3, hF3⟩ := hcut
      have HF3 : Hid _ := hF3
      clear hF3 HF2 H2 HB2 hdl c3 cl fl x0 hdw HD hL
      obtain ⟨i0, hi, hz0, hz1, hz2⟩ := info_parts info33
      obtain ⟨k, hk⟩ : ∃ k, k = g.T.length := ⟨_, rfl⟩
      obtain ⟨aT, cT, hvT⟩ := h3.trail.shape
      rw [List.length_map] at hvT
      simp only [← hk] at hvT hT
      replace hvT : Hid (g.vT = .slice aT k cT) := hvT
      have HK : Hid (k = g.T.length) := hk
      clear hk
      have c4 : wc.cell? ⟨y.bs, 4, none⟩ = some (.slice (some ⟨y.br, 0, none⟩) y.n y.n) := by rw [h3.sv.cell]; rfl
      have H3 : Hid _ := h3
      have HB3 : Hid _ := hB3
      have hrs := h3.rsn
      clear h3 hB3
      go_wp2_with (first
        | (refine wpList_store_bk rfl 21 _ _ rfl y.br (l / 2) rfl (.int .i32 rs) rfl rfl (by kernel_rfl) _ _ hrs (by simp; omega) ?_
           intro w4 hw4
           have H4 : Hid (MemC w4.heap y { g with asg := upd g.asg (l / 2) (1 + l % 2), lvl := upd g.lvl (l / 2) g.L.length, rsn := upd g.rsn (l / 2) rs }) := by rw [hw4.out]; exact H3.out.setRsn (l / 2) rs
           have c5 : w4.cell? ⟨y.bs, 5, none⟩ = some (.slice aT k cT) := by rw [H4.out.sv.cell, ← hvT.out]; rfl
           have ht4 : w4.ownsRow y.base 33 1 (.slice aT k cT) k (g.T.map i32) := by
             have := H4.out.trail.owns
             rw [List.length_map, ← HK.out, hvT.out] at this
             exact this)
        | (at_builtin
           refine wpList_append_own_at _ rfl _ _ 53 rfl y.base 33 i0 (.int .i32 0) 1 4 Try.underlying53 hi hz0 hz1 hz2 rfl (by decide) _ _ _ rfl (ht4.alloc _) ⟨w4.heap.size, 0, none⟩ 1 1 [i32 l] rfl rfl (cell_one_new _ _ _) (ints_oneCell .i32 [(l : Int)]) (by unfold maxLen; omega) (by omega) (by have := H4.out.base; simp; omega) ?_
           intro v' w5 hown5 hg5 hnil5 hat5
           have hg45 : w4.grownBy w5 (Value.slice aT k cT).ownBlock := (World.grownBy_alloc _ _ _).trans hg5
           have hb5 : Bk w5.heap y.bs 73 (svCells y { g with asg := upd g.asg (l / 2) (1 + l % 2), lvl := upd g.lvl (l / 2) g.L.length, rsn := upd g.rsn (l / 2) rs }) := H4.out.sv.grown hg45 (fun e => by
             have := H4.out.t9 y.bs (by show g.vT.ownBlock = _; rw [hvT.out]; exact e.symm)
             rw [H4.out.t0.1] at this
             omega))
        | (refine wpList_store_bk rfl 53 _ _ rfl y.bs 5 rfl v' rfl (own_oneCell hown5) (by kernel_rfl) _ _ hb5 (by simp [svCells]) ?_
           intro w6 hw6)
        | go_in)
      go_end0
      refine ⟨rfl, ?_, v', owAt g.ow v' 9, ?_, ?_⟩
      · rw [hw6.out]
        have e4 : Below y.base w0 w4 := by rw [hw4.out]; exact HB3.out.setCell H3.out.t5.2 _
        refine Below.setCell (e4.grown hg45 H4.out.base fun j hj => ?_) H3.out.t0.2 _
        exact (ht4.lt j hj).1
      · rw [hw6.out]
        have f1 : Fr wc.heap w4.heap g.ow g.ow := by rw [hw4.out]; exact Fr.set _ _ (by rw [H3.out.t5.1]; omega) _ _
        have f2 : Fr w4.heap w5.heap g.ow (owAt g.ow v' 9) := Fr.row (v0 := Value.slice aT k cT) (.inl rfl) hg45 (fun b hb => H4.out.t9 b (by show g.vT.ownBlock = _; rw [hvT.out]; exact hb)) (hat5.elim .inl (fun h => .inr ⟨_, h, by simp⟩))
        have f3 : Fr w5.heap (w5.setCell ⟨y.bs, 5, none⟩ v').heap (owAt g.ow v' 9) (owAt g.ow v' 9) := Fr.set _ _ (by
          have e : owAt g.ow v' 9 y.bs = 0 := (owAt_old (v0 := Value.slice aT k cT) (N := w4.heap.size) (fun b hb => H4.out.t9 b (by show g.vT.ownBlock = _; rw [hvT.out]; exact hb)) (hat5.elim .inl (fun h => .inr ⟨_, h, by simp⟩)) H4.out.sv.lt (by rw [H3.out.t0.1]; omega)).trans H3.out.t0.1
          rw [e]; omega) _ _
        exact ((HF3.out.trans f1).trans f2).trans f3
      · rw [hw6.out]
        have e := H4.out.pushT (w2 := w5) (by show w4.grownBy w5 g.vT.ownBlock; rw [hvT.out]; exact hg45) v' l (k + 1) hown5 (by
          show v'.ownBlock = g.vT.ownBlock ∨ _
          rw [hvT.out]
          exact hat5.elim .inl (fun h => .inr ⟨_, h, by simp⟩))
        exact e

end Go.Proofs.Qxb6600345a
