/-
  DERIVED. Seat b6600345a: ZZPropagate, run.
-/
import Derived.Test.Qxb6600345aWalkE
namespace Go.Proofs.Qxb6600345a
open Go.RowKit
set_option linter.unusedVariables false
set_option linter.unusedSimpArgs false
attribute [local go_sem ↓] Go.wp_at_zero Go.wp_at_succ

theorem PI.drew {y : Sv} {orig : Nat → List Nat} {w0 w : World} {g : Gh} {E : List En} {d : Nat} (h : PI y orig w0 w g E d) (q : Nat) : PI y orig w0 (w.drewN q) g E d := ⟨h.mem, below_drewN h.below q, h.tok, h.cok, h.q, h.cur⟩
theorem PW.drew {y : Sv} {w : World} {g : Gh} {W : Nat → List Nat} {vW : Nat → Value} (h : PW y w g W vW) (q : Nat) : PW y (w.drewN q) g W vW := ⟨h.mem, h.ok⟩

theorem PI.decide {y : Sv} {orig : Nat → List Nat} {w0 w wc : World} {g : Gh} {E : List En} {d : Nat} (h : PI y orig w0 w g E d) (hq : g.q = g.T.length) {l : Nat} (hl : l < 2 * y.n) (hu : l / 2 ∉ g.T.map (· / 2)) {x v1 v' : Value} {ow1 ow' : Nat → Nat} (hb : Below y.base w0 wc)
    (hm : MemC wc.heap y { g with asg := upd g.asg (l / 2) (1 + l % 2), lvl := upd g.lvl (l / 2) (g.L ++ [x]).length, rsn := upd g.rsn (l / 2) (-1), T := g.T ++ [l], vT := v', L := g.L ++ [x], vL := v1, ow := ow' }) :
    PI y orig w0 wc { g with asg := upd g.asg (l / 2) (1 + l % 2), lvl := upd g.lvl (l / 2) (g.L ++ [x]).length, rsn := upd g.rsn (l / 2) (-1), T := g.T ++ [l], vT := v', L := g.L ++ [x], vL := v1, ow := ow' } (E ++ [⟨l, d + 1, -1⟩]) (d + 1) := by
  have ht := (h.tok.level x v1 ow1).push hl hu (-1) (by omega) (.inl ⟨rfl, fun e he => Nat.lt_succ_of_le (h.tok.lev e he).2⟩) v' ow'
  have hlen : g.T.length = E.length := by rw [h.tok.T, List.length_map]
  refine ⟨hm, hb, ht, h.cok, ?_, fun j e hj he => ?_⟩
  · show g.q ≤ (g.T ++ [l]).length
    rw [List.length_append]; omega
  · have hj' : E.length ≤ j := by have : g.q ≤ j := hj; omega
    rw [List.getElem?_append_right hj'] at he
    have hm1 := List.mem_of_getElem? he
    rw [List.mem_singleton.1 hm1]

set_option maxRecDepth 100000 in
theorem zzPropagate {y : Sv} {orig : Nat → List Nat} {g : Gh} {E : List En} {d : Nat} {w w0 : World} {W : Nat → List Nat} {vW : Nat → Value} (h : PI y orig w0 w g E d) (hW : PW y w g W vW) (hn : y.n ≤ 4096) (hm : y.m ≤ 65536) (hd : 1 ≤ d) (hd2 : d < 1000000) :
    Calls Try.prog 20 #[.pointer (some ⟨y.bs, 0, none⟩)] w fun e w' => PrPost y orig w0 g d e w' := by
  have hc : Calls Try.prog 46 #[.pointer (some ⟨y.bs, 0, none⟩)] w fun e w' => ∃ v, e = .returned v ∧ Hid (PrPost y orig w0 g d (.returned v) w') := (propagate h hW hn hm hd hd2).mono fun e w' hp => by
    have hp' := hp
    obtain ⟨g', E', h1, h2, h3, ⟨rfl, h4⟩ | ⟨ci, rfl, h4⟩⟩ := hp
    · exact ⟨_, rfl, hp'⟩
    · exact ⟨_, rfl, hp'⟩
  clear h hW
  go_enter Try.func20, Try.ntmps20
  go_wp2_with (go_at_call 46; refine hc.mono ?_; rintro e w' ⟨v, rfl, hb⟩)
  go_ret
  exact hb.out

def RunPost (y : Sv) (orig : Nat → List Nat) (w0 : World) (g : Gh) (e : Ending) (w' : World) : Prop :=
  ∃ g' E' d, PI y orig w0 w' g' E' d ∧ d ≤ 262144 ∧ g'.seen = g.seen ∧ g'.act = g.act ∧ (e = .returned (.int .i32 (-1)) ∨ ∃ ci, e = .returned (i32 ci) ∧ Confl y g' E' d ci ∧ 1 ≤ d)

set_option maxRecDepth 100000 in
set_option maxHeartbeats 4000000 in
theorem run {y : Sv} {orig : Nat → List Nat} {g : Gh} {w w0 : World} {W : Nat → List Nat} {vW : Nat → Value} (h : PI y orig w0 w g [] 0) (hW : PW y w g W vW) (hq : g.q = g.T.length) (hn : y.n ≤ 4096) (hm : y.m ≤ 65536)
    (D : List Nat) (aD : Option Addr) (nD : Nat) (hnD : nD = D.length) (hlD : nD ≤ 262144) (hDl : ∀ x ∈ D, x < 2 * y.n) (hD : ∀ i x, D[i]? = some x → ∃ bD, aD = some ⟨bD, 0, none⟩ ∧ bD < y.base ∧ w0.cell? ⟨bD, i, none⟩ = some (i32 x)) :
    Calls Try.prog 22 #[.pointer (some ⟨y.bs, 0, none⟩), .slice aD nD nD] w fun e w' => RunPost y orig w0 g e w' := by
  have H0 : Hid (PI y orig w0 w g [] 0 ∧ PW y w g W vW ∧ g.q = g.T.length) := ⟨h, hW, hq⟩
  have HD : Hid (∀ i x, D[i]? = some x → ∃ bD, aD = some ⟨bD, 0, none⟩ ∧ bD < y.base ∧ w0.cell? ⟨bD, i, none⟩ = some (i32 x)) := hD
  have HND : Hid (nD = D.length) := hnD
  clear h hW hq hD hnD
  go_enter Try.func22, Try.ntmps22
  go_wp2
  go_loopg [5] nD (fun k s5 wr => ∃ (g' : Gh) (E' : List En) (d i : Nat) (W' : Nat → List Nat) (vW' : Nat → Value), s5 = .int .i64 (i : Int) ∧ i ≤ nD ∧ d ≤ i ∧ nD - i ≤ k ∧
    Hid (PI y orig w0 wr g' E' d ∧ PW y wr g' W' vW' ∧ g'.q = g'.T.length ∧ g'.seen = g.seen ∧ g'.act = g.act))
  case atStart => exact ⟨g, [], 0, 0, W, vW, rfl, Nat.zero_le _, Nat.le_refl _, Nat.le_refl _, H0.out.1, H0.out.2.1, H0.out.2.2, rfl, rfl⟩
  case round =>
    obtain ⟨g', E', d, i, W', vW', rfl, hi, hdi, hik, HI⟩ := hrel
    clear H0
    by_cases hil : i < nD
    · obtain ⟨l, hl⟩ : ∃ l, D[i]? = some l := ⟨_, List.getElem?_eq_getElem (by rw [← HND.out]; exact hil)⟩
      obtain ⟨bD, rfl, hbD, cD0⟩ := HD.out i l hl
      have hl2 : l < 2 * y.n := hDl l (List.mem_of_getElem? hl)
      have cD : wr.cell? ⟨bD, i, none⟩ = some (i32 l) := by rw [World.cell?_of_block (HI.out.1.below.block bD hbD)]; exact cD0
      clear cD0
      have hasg : g'.asg (l / 2) ≤ 2 := by rw [HI.out.1.tok.asg]; exact asgOf_le _ _
      have hlv := zzLitValue HI.out.1.mem hn l hl2 hasg
      obtain ⟨z, hz⟩ : ∃ z, z = lval g'.asg l := ⟨_, rfl⟩
      rw [← hz] at hlv
      have HZ : Hid (z = lval g'.asg l) := hz
      clear hz
      by_cases hz0 : z = 0
      · have dz : ((z : Int) != 0) = false := by simp; omega
        have hnl : ∀ w', Hid (∃ q, w' = wr.drewN q) → Calls Try.prog 18 #[.pointer (some ⟨y.bs, 0, none⟩)] w' fun e w1 => e = .returned (.tuple #[]) ∧ Hid (Below y.base w0 w1 ∧ ∃ v1 ow1, Fr w'.heap w1.heap g'.ow ow1 ∧ MemC w1.heap y { g' with L := g'.L ++ [.int .i64 g'.T.length], vL := v1, ow := ow1 }) := fun w' hw => by
          obtain ⟨q, rfl⟩ := hw.out
          exact newLevel (w := wr.drewN q) HI.out.1.mem (below_drewN HI.out.1.below _) (by rw [HI.out.1.tok.dl]; omega)
        have has : ∀ w1, (Below y.base w0 w1 ∧ ∃ v1 ow1, Fr wr.heap w1.heap g'.ow ow1 ∧ MemC w1.heap y { g' with L := g'.L ++ [.int .i64 g'.T.length], vL := v1, ow := ow1 }) → Calls Try.prog 19 #[.pointer (some ⟨y.bs, 0, none⟩), i32 l, .int .i32 (-1)] w1 fun e w2 => e = .returned (.tuple #[]) ∧
            Hid (∃ g2 W2 vW2, PI y orig w0 w2 g2 (E' ++ [⟨l, d + 1, -1⟩]) (d + 1) ∧ PW y w2 g2 W2 vW2 ∧ g2.seen = g.seen ∧ g2.act = g.act) := fun w1 hw => by
          obtain ⟨hb1, v1, ow1, hf1, hm1⟩ := hw
          refine (zzAssign hm1 hb1 hn l hl2 (-1) (by show (g'.L ++ [_]).length < _; rw [List.length_append, HI.out.1.tok.dl]; simp; omega) (Nat.le_trans HI.out.1.tok.len hn)).mono fun e w2 hp => ?_
          obtain ⟨rfl, hb2, v', ow', hf2, hm2⟩ := hp
          have hu : l / 2 ∉ g'.T.map (· / 2) := lval_zero_unset HI.out.1.tok.nd (by rw [← HI.out.1.tok.asg, ← HZ.out]; exact hz0)
          refine ⟨rfl, _, W', vW', HI.out.1.decide (ow1 := ow1) HI.out.2.2.1 hl2 hu hb2 hm2, ⟨?_, HI.out.2.1.ok⟩, HI.out.2.2.2.1, HI.out.2.2.2.2⟩
          have e := HI.out.2.1.mem.frame (g' := { g' with ow := ow' }) HI.out.1.mem.t2.1 (hf1.trans hf2)
          exact ⟨e.wh, e.row, e.tw⟩
        have hpr : ∀ w2, (∃ g2 W2 vW2, PI y orig w0 w2 g2 (E' ++ [⟨l, d + 1, -1⟩]) (d + 1) ∧ PW y w2 g2 W2 vW2 ∧ g2.seen = g.seen ∧ g2.act = g.act) → Calls Try.prog 20 #[.pointer (some ⟨y.bs, 0, none⟩)] w2 fun e w3 =>
            ∃ x : Int, e = .returned (.int .i32 x) ∧ Hid (∃ g3 E3, PI y orig w0 w3 g3 E3 (d + 1) ∧ g3.seen = g.seen ∧ g3.act = g.act ∧ ((x = -1 ∧ g3.q = g3.T.length ∧ ∃ W3 vW3, PW y w3 g3 W3 vW3) ∨ ∃ ci : Nat, x = (ci : Int) ∧ Confl y g3 E3 (d + 1) ci)) := fun w2 hw => by
          obtain ⟨g2, W2, vW2, hp2, hpw2, s1, s2⟩ := hw
          refine (zzPropagate hp2 hpw2 hn hm (by omega) (by omega)).mono fun e w3 hp => ?_
          obtain ⟨g3, E3, h1, h2, h3, ⟨rfl, h4⟩ | ⟨ci, rfl, h4⟩⟩ := hp
          · exact ⟨-1, rfl, g3, E3, h1, h2.trans s1, h3.trans s2, .inl ⟨rfl, h4⟩⟩
          · exact ⟨(ci : Int), rfl, g3, E3, h1, h2.trans s1, h3.trans s2, .inr ⟨ci, rfl, h4⟩⟩
        go_upto_if 30 with (first
          | (go_at_call 15; refine hlv.mono ?_; rintro e w' ⟨rfl, hb⟩; replace hb : Hid _ := hb)
          | (go_at_call 18; refine (hnl _ hb).mono ?_; rintro e w1 ⟨rfl, hb1⟩
             replace hb1 : Hid (Below y.base w0 w1 ∧ ∃ v1 ow1, Fr wr.heap w1.heap g'.ow ow1 ∧ MemC w1.heap y { g' with L := g'.L ++ [.int .i64 g'.T.length], vL := v1, ow := ow1 }) := by
               obtain ⟨q, hq⟩ := hb.out; have e := hb1.out; rw [hq] at e; exact e)
          | (go_at_call 19; refine (has _ hb1.out).mono ?_; rintro e w2 ⟨rfl, hb2⟩)
          | (go_at_call 20; refine (hpr _ hb2.out).mono ?_; rintro e w3 ⟨x, rfl, hb3⟩)
          | go_in)
        by_cases hx : 0 ≤ x
        · have dx : decide (x ≥ 0) = true := decide_eq_true hx
          go_wp2
          go_ret
          obtain ⟨g3, E3, h1, h2, h3, ⟨h4, _⟩ | ⟨ci, h4, h5⟩⟩ := hb3.out
          · omega
          · subst h4
            exact ⟨g3, E3, d + 1, h1, by omega, h2, h3, .inr ⟨ci, rfl, h5, by omega⟩⟩
        · have dx : decide (x ≥ 0) = false := decide_eq_false hx
          go_wp2
          go_roundg (nD - (i + 1))
          case measure => omega
          case rel =>
            obtain ⟨g3, E3, h1, h2, h3, ⟨h4, h5, W3, vW3, h6⟩ | ⟨ci, h4, h5⟩⟩ := hb3.out
            · exact ⟨g3, E3, d + 1, i + 1, W3, vW3, by go_num, by omega, by omega, Nat.le_refl _, h1, h6, h5, h2, h3⟩
            · omega
      · have dz : ((z : Int) != 0) = true := by simp; omega
        go_wp2_with (go_at_call 15; refine hlv.mono ?_; rintro e w' ⟨rfl, hb⟩; replace hb : Hid _ := hb)
        go_roundg (nD - (i + 1))
        case measure => omega
        case rel =>
          obtain ⟨q, hq⟩ := hb.out
          rw [hq]
          exact ⟨g', E', d, i + 1, W', vW', by go_num, by omega, by omega, Nat.le_refl _, HI.out.1.drew q, HI.out.2.1.drew q, HI.out.2.2⟩
    · have dl : decide ((i : Int) < (nD : Int)) = false := decide_eq_false (by omega)
      go_wp2
      go_ret
      exact ⟨g', E', d, HI.out.1, by omega, HI.out.2.2.2.1, HI.out.2.2.2.2, .inl rfl⟩

end Go.Proofs.Qxb6600345a
