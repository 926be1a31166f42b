/-
  DERIVED. Seat b6600345a: the solver as build leaves it; ZZAnalyze.
-/
import Derived.Test.Qxb6600345aBldW
import Derived.Test.Qxb6600345aWalkH
namespace Go.Proofs.Qxb6600345a
open Go.RowKit
set_option linter.unusedVariables false
set_option linter.unusedSimpArgs false
attribute [local go_sem ↓] Go.wp_at_zero Go.wp_at_succ

def yB (w0 : World) (n m bcl bw : Nat) (cb : Nat → Nat) (bs b3 b5 b7 b9 b11 b13 : Nat) : Sv := ⟨bs, bcl, bw, b3, b5, b7, b9, b11, b13, n, m, w0.heap.size, cb⟩
def gB (orig : Nat → List Nat) (ow : Nat → Nat) : Gh := ⟨orig, fun _ => 0, fun _ => 0, fun _ => 0, fun _ => false, fun _ => false, [], .slice none 0 0, [], .slice none 0 0, 0, ow⟩

theorem Mk.get {H : Array Obj} {n base : Nat} {ow : Nat → Nat} {ty : TypeId} {z : Value} {τ b : Nat} (h : Mk H n base ow ty z τ (row b n)) : Bk H b ty (tab n fun _ => z) ∧ ow b = τ ∧ base ≤ b := by
  obtain ⟨b', h1, h2, h3, h4⟩ := h
  unfold row at h1
  injection h1 with h1
  injection h1 with h1
  injection h1 with h1
  subst h1
  exact ⟨h2, h4, h3⟩

theorem built {w0 w1 w : World} {n m bcl bw : Nat} {orig : Nat → List Nat} {cb ow1 ow : Nat → Nat} {W : Nat → List Nat} {vW : Nat → Value} {bs b3 b5 b7 b9 b11 b13 : Nat} (hB : Bd w0 n m bcl bw orig m w1 cb ow1 W vW) (hWB : WB n orig m W) (hN : NS n (.slice (some ⟨bcl, 0, none⟩) m m) (.slice (some ⟨bw, 0, none⟩) (2 * n) (2 * n)) w1 ow1 w ow bs b3 b5 b7 b9 b11 b13)
    (htwo : ∀ ci, ci < m → 2 ≤ (orig ci).length) (hbig : ∀ ci, ci < m → (orig ci).length ≤ 1000000) (hlt : ∀ ci, ci < m → ∀ x ∈ orig ci, x < 2 * n) (hnd : ∀ ci, ci < m → ((orig ci).map (· / 2)).Nodup) :
    PI (yB w0 n m bcl bw cb bs b3 b5 b7 b9 b11 b13) orig w0 w (gB orig ow) [] 0 ∧ PW (yB w0 n m bcl bw cb bs b3 b5 b7 b9 b11 b13) w (gB orig ow) W vW := by
  have hbase := hB.below.size
  have kp : ∀ b, b < w1.heap.size → w.heap[b]? = w1.heap[b]? ∧ ow b = ow1 b := fun b hb => ⟨hN.bel.block b hb, hN.old b hb⟩
  obtain ⟨k3, t3, u3⟩ := hN.k3.get
  obtain ⟨k5, t5, u5⟩ := hN.k5.get
  obtain ⟨k7, t7, u7⟩ := hN.k7.get
  obtain ⟨k9, t9, u9⟩ := hN.k9.get
  obtain ⟨k13, t13, u13⟩ := hN.k13.get
  have x1 := kp bcl hB.clh.lt
  have x2 := kp bw hB.wh.lt
  have hbel : Below w0.heap.size w0 w := ⟨hN.bel.os.trans hB.below.os, hN.bel.tape.trans hB.below.tape, hN.bel.output.trans hB.below.output, Nat.le_trans hbase hN.bel.size, fun b hb => (hN.bel.block b (by omega)).trans (hB.below.block b hb)⟩
  have hmem : MemC w.heap (yB w0 n m bcl bw cb bs b3 b5 b7 b9 b11 b13) (gB orig ow) := {
    sv := hN.sv
    clh := by
      have e := x1.1.trans hB.clh
      refine Eq.mp (congrArg (Bk _ _ _) (tab_congr fun i hi => ?_)) e
      exact if_pos hi
    asg := k3
    lvl := k5
    rsn := k7
    act := k9
    seen := k13
    cl := fun ci hci => (kp _ (hB.cl ci hci).lt).1.trans (hB.cl ci hci)
    trail := .inl ⟨rfl, rfl⟩
    lim := .inl ⟨rfl, rfl⟩
    base := hbel.size
    t0 := ⟨hN.t0.1, Nat.le_trans hbase hN.t0.2⟩
    t1 := ⟨x1.2.trans hB.t1.1, hB.t1.2⟩
    t2 := ⟨x2.2.trans hB.t2.1, hB.t2.2⟩
    t2l := Nat.lt_of_lt_of_le hB.wh.lt hN.bel.size
    t3 := ⟨t3, Nat.le_trans hbase u3⟩
    t4 := ⟨t5, Nat.le_trans hbase u5⟩
    t5 := ⟨t7, Nat.le_trans hbase u7⟩
    t6 := ⟨t9, Nat.le_trans hbase u9⟩
    t7 := ⟨t13, Nat.le_trans hbase u13⟩
    t9 := fun b hb => by cases hb
    t10 := fun b hb => by cases hb
    tc := fun ci hci => ⟨(kp _ (hB.cl ci hci).lt).2.trans (hB.tc ci hci).1, (hB.tc ci hci).2⟩
  }
  refine ⟨⟨hmem, hbel, ?_, ?_, Nat.le_refl _, fun j e _ he => by simp at he⟩, ⟨⟨x2.1.trans hB.wh, fun l hl => (hB.row hl).kept fun b hb hlt => (kp b hlt).1, fun l hl b hb => (kp b (Ow.lt (hB.row hl) hb)).2.trans (hB.tw hl hb)⟩, ?_⟩⟩
  · refine ⟨rfl, fun e he => by simp at he, ?_, ?_, fun e he => by simp at he, fun e he => by simp at he, fun e he => by simp at he, List.Pairwise.nil, fun A e B h => by simp at h, rfl⟩
    · show (([] : List Nat).map (· / 2)).Nodup
      simp
    · funext v
      simp [gB, asgOf]
  · exact ⟨fun _ _ => List.Perm.refl _, htwo, hlt, hnd, hbig⟩
  · exact ⟨hWB.nd, hWB.lt, hWB.watch⟩

set_option maxRecDepth 100000 in
theorem zzAnalyze {y : Sv} {orig : Nat → List Nat} {g : Gh} {E : List En} {d : Nat} {w w0 : World} {ci : Nat} (h : PI y orig w0 w g E d) (hc : Confl y g E d ci) (hs0 : ∀ v, g.seen v = false) (ha0 : ∀ v, g.act v = false) (hn : y.n ≤ 4096) (hm : y.m ≤ 65536) (hd : 1 ≤ d) (hd2 : d < 1000000) :
    Calls Try.prog 34 #[.pointer (some ⟨y.bs, 0, none⟩), i32 ci] w fun e w' => ∃ v back, e = .returned (.tuple #[v, .int .i64 (back : Nat)]) ∧ Hid (∃ M s a ow p L, AnPost y orig w0 g E d w' v M back s a ow p L) := by
  have ha := analyze h hc hs0 ha0 hn hm hd hd2
  clear h hc hs0 ha0
  go_enter Try.func34, Try.ntmps34
  go_wp2_with (go_at_call 49; refine ha.mono ?_; rintro e w' ⟨v, back, rfl, hb⟩)
  go_ret2
  exact ⟨v, back, rfl, hb⟩

end Go.Proofs.Qxb6600345a
