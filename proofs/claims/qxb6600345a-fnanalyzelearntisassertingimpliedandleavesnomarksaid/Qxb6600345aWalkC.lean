/-
  DERIVED. Seat b6600345a: ZZNewLevel, the thin readers, bump.
-/
import Derived.Test.Qxb6600345aWalkB
import Derived.Deep.RegionLaw
import Derived.Deep.RegionHeld3
import Derived.Deep.AppendLies
namespace Go.Proofs.Qxb6600345a
open Go.RowKit
set_option linter.unusedVariables false
set_option linter.unusedSimpArgs false

set_option maxRecDepth 100000 in
set_option maxHeartbeats 4000000 in
theorem newLevel {y : Sv} {g : Gh} {w w0 : World} (h : MemC w.heap y g) (hB : Below y.base w0 w) (hL : g.L.length < 1000000) :
    Calls Try.prog 18 #[.pointer (some ⟨y.bs, 0, none⟩)] w fun e w' => e = .returned (.tuple #[]) ∧ Below y.base w0 w' ∧ ∃ v' ow', Fr w.heap w'.heap g.ow ow' ∧
      MemC w'.heap y { g with L := g.L ++ [.int .i64 g.T.length], vL := v', ow := ow' } := by
  obtain ⟨i0, hi, hz0, hz1, hz2⟩ := info_parts info3
  obtain ⟨aL, cL, hvL⟩ := h.lim.shape
  obtain ⟨aT, cT, hvT⟩ := h.trail.shape
  rw [List.length_map] at hvT
  obtain ⟨k, hk⟩ : ∃ k, k = g.T.length := ⟨_, rfl⟩
  obtain ⟨d, hd⟩ : ∃ d, d = g.L.length := ⟨_, rfl⟩
  simp only [← hk, ← hd] at hvT hvL hL ⊢
  have c6 : w.cell? ⟨y.bs, 6, none⟩ = some (.slice aL d cL) := by rw [h.sv.cell, ← hvL]; rfl
  have c5 : w.cell? ⟨y.bs, 5, none⟩ = some (.slice aT k cT) := by rw [h.sv.cell, ← hvT]; rfl
  have f6 : w.frozen? ⟨y.bs, 6, none⟩ = false := h.sv.frozen _
  have lg := h.sv.lt
  have ho : w.ownsRow y.base 3 1 (.slice aL d cL) d g.L := by have := h.lim.owns; rw [hvL, ← hd] at this; exact this
  have hne : (Value.slice aL d cL).ownBlock ≠ some y.bs := fun e => by
    have := h.t10 y.bs (by rw [hvL]; exact e)
    rw [h.t0.1] at this
    omega
  have HV : Hid (g.vL = .slice aL d cL) := hvL
  have H0 : Hid (MemC w.heap y g) := h
  have HB : Hid (Below y.base w0 w) := hB
  have hbase := h.base
  have fin : Hid (∀ gg cap (w1 : World), w1.ownsRow y.base 3 1 (.slice (some ⟨gg, 0, none⟩) (d + 1) cap) (d + 1) (g.L ++ [.int .i64 k]) → (w.alloc (Obj.cells #[Value.int .i64 k] 3)).drew.grownBy w1 (Value.slice aL d cL).ownBlock →
      ((Value.slice aL d cL).ownBlock = some gg ∨ gg = w.heap.size + 1) → Below y.base w0 (w1.setCell ⟨y.bs, 6, none⟩ (.slice (some ⟨gg, 0, none⟩) (d + 1) cap)) ∧ ∃ v' ow', Fr w.heap (w1.setCell ⟨y.bs, 6, none⟩ (.slice (some ⟨gg, 0, none⟩) (d + 1) cap)).heap g.ow ow' ∧
      MemC (w1.setCell ⟨y.bs, 6, none⟩ (.slice (some ⟨gg, 0, none⟩) (d + 1) cap)).heap y { g with L := g.L ++ [.int .i64 k], vL := v', ow := ow' }) := by
    intro gg cap w1 hown1 hgrow hat
    have hg : w.grownBy w1 g.vL.ownBlock := by
      rw [hvL]
      exact (World.grownBy_alloc w (Obj.cells #[Value.int .i64 k] 3) _).trans ⟨hgrow.os, hgrow.tape, hgrow.output, hgrow.size, hgrow.block⟩
    have hl : (Value.slice (some ⟨gg, 0, none⟩) (d + 1) cap).ownBlock = g.vL.ownBlock ∨ ∃ b, (Value.slice (some ⟨gg, 0, none⟩) (d + 1) cap).ownBlock = some b ∧ w.heap.size ≤ b := by
      rw [hvL]
      rcases hat with hat | hat
      · exact .inl hat.symm
      · exact .inr ⟨gg, rfl, by omega⟩
    refine ⟨?_, _, _, ?_, h.pushL hg _ _ (d + 1) hown1 hl⟩
    · refine Below.setCell (hB.grown hg h.base fun j hj => ?_) h.t0.2 _
      rw [hvL] at hj
      exact (ho.lt j hj).1
    · refine (Fr.row (.inr rfl) hg h.t10 hl).trans (Fr.set _ _ ?_ _ _)
      have e : owAt g.ow (Value.slice (some ⟨gg, 0, none⟩) (d + 1) cap) 10 y.bs = 0 := (owAt_old h.t10 hl h.sv.lt (by rw [h.t0.1]; omega)).trans h.t0.1
      rw [e]; omega
  clear hvL hvT hk hd h hB
  go_enter Try.func18, Try.ntmps18
  go_wp2_with fail
  go_region_law
    ((refine step_append_lies _ (by rfl) _ _ _ (by rfl) y.base 3 i0 _ 1 8 Try.underlying42 hi hz0 hz1 hz2 rfl (by omega) (.slice aL d cL) d g.L (by rfl) ((ho.alloc _).drew)
        ⟨w.heap.size, 0, none⟩ 1 1 [.int .i64 k] (by rfl) (by rfl) (World.news_of_block (cs := #[.int .i64 k]) (t := 3) (fr := (0, 0)) (heap_alloc_new w _)) (by simp [Value.oneCell'])
        (by omega) (by unfold maxLen; omega) (by omega) (by simp; omega) (w.heap.size + 1) (by simp) ?_; intro gg cap w1 hown1 hgrow hat hlt
      have c61 : w1.cell? ⟨y.bs, 6, none⟩ = some (.slice aL d cL) := (hgrow.cell_far _ (by simp; omega) (Ne.symm hne)).trans (by rw [show (w.alloc (Obj.cells #[Value.int .i64 (k : Int)] 3)).drew.cell? ⟨y.bs, 6, none⟩ = w.cell? ⟨y.bs, 6, none⟩ from World.cell?_of_block (Below.heap_alloc w _ _ lg)]; exact c6)
      have f61 : w1.frozen? ⟨y.bs, 6, none⟩ = false := (hgrow.frozen_far _ (by simp; omega) (Ne.symm hne)).trans (by rw [show (w.alloc (Obj.cells #[Value.int .i64 (k : Int)] 3)).drew.frozen? ⟨y.bs, 6, none⟩ = w.frozen? ⟨y.bs, 6, none⟩ from World.frozen?_of_block (Below.heap_alloc w _ _ lg)]; exact f6)))
  all_goals go_end0
  all_goals exact ⟨rfl, fin.out _ _ _ hown1 hgrow hat⟩

set_option maxRecDepth 100000 in
theorem zzAssign {y : Sv} {g : Gh} {w w0 : World} (h : MemC w.heap y g) (hB : Below y.base w0 w) (hn : y.n ≤ 4096) (l : Nat) (hl : l < 2 * y.n) (rs : Int) (hL : g.L.length < 1000000) (hT : g.T.length ≤ 4096) :
    Calls Try.prog 19 #[.pointer (some ⟨y.bs, 0, none⟩), i32 l, .int .i32 rs] w fun e w' => e = .returned (.tuple #[]) ∧ Below y.base w0 w' ∧ ∃ v' ow', Fr w.heap w'.heap g.ow ow' ∧
      MemC w'.heap y { g with asg := upd g.asg (l / 2) (1 + l % 2), lvl := upd g.lvl (l / 2) g.L.length, rsn := upd g.rsn (l / 2) rs, T := g.T ++ [l], vT := v', ow := ow' } := by
  have hc := assign h hB hn l hl rs hL hT
  go_enter Try.func19, Try.ntmps19
  go_wp2_with (go_at_call 45; refine hc.mono ?_; rintro e w' ⟨rfl, hb⟩; replace hb : Hid _ := hb)
  go_end0
  exact ⟨rfl, hb.out⟩

set_option maxRecDepth 100000 in
theorem zzLitValue {y : Sv} {g : Gh} {w : World} (h : MemC w.heap y g) (hn : y.n ≤ 4096) (l : Nat) (hl : l < 2 * y.n) (ha : g.asg (l / 2) ≤ 2) :
    Calls Try.prog 15 #[.pointer (some ⟨y.bs, 0, none⟩), i32 l] w fun e w' => e = .returned (.int .i8 (lval g.asg l : Int)) ∧ ∃ q, w' = w.drewN q := by
  have hc := litValue h hn l hl ha
  obtain ⟨x, hx⟩ : ∃ x, x = lval g.asg l := ⟨_, rfl⟩
  rw [← hx] at hc ⊢
  clear hx
  go_enter Try.func15, Try.ntmps15
  go_wp2_with (go_at_call 43; refine hc.mono ?_; rintro e w' ⟨rfl, hb⟩; replace hb : Hid _ := hb)
  go_ret
  exact ⟨rfl, hb.out⟩

set_option maxRecDepth 100000 in
theorem zzLevel {y : Sv} {g : Gh} {w : World} (h : MemC w.heap y g) (hn : y.n ≤ 4096) (v : Nat) (hv : v < y.n) :
    Calls Try.prog 27 #[.pointer (some ⟨y.bs, 0, none⟩), i32 v] w fun e w' => e = .returned (i32 (g.lvl v)) ∧ w' = w := by
  have c3 : w.cell? ⟨y.bs, 3, none⟩ = some (.slice (some ⟨y.bl, 0, none⟩) y.n y.n) := by rw [h.sv.cell]; rfl
  have cl : w.cell? ⟨y.bl, v, none⟩ = some (i32 (g.lvl v)) := by rw [h.lvl.cell, tab_at hv]
  go_enter Try.func27, Try.ntmps27
  go_wp2
  go_ret
  exact ⟨rfl, rfl⟩

set_option maxRecDepth 100000 in
theorem zzSeen {y : Sv} {g : Gh} {w : World} (h : MemC w.heap y g) (hn : y.n ≤ 4096) (v : Nat) (hv : v < y.n) :
    Calls Try.prog 50 #[.pointer (some ⟨y.bs, 0, none⟩), i32 v] w fun e w' => e = .returned (.bool (g.seen v)) ∧ w' = w := by
  have c3 : w.cell? ⟨y.bs, 14, none⟩ = some (.slice (some ⟨y.bn, 0, none⟩) y.n y.n) := by rw [h.sv.cell]; rfl
  have cl : w.cell? ⟨y.bn, v, none⟩ = some (.bool (g.seen v)) := by rw [h.seen.cell, tab_at hv]
  go_enter Try.func50, Try.ntmps50
  go_wp2
  go_ret
  exact ⟨rfl, rfl⟩

set_option maxRecDepth 100000 in
theorem zzDecisionLevel {y : Sv} {g : Gh} {w : World} (h : MemC w.heap y g) : Calls Try.prog 28 #[.pointer (some ⟨y.bs, 0, none⟩)] w fun e w' => e = .returned (.int .i64 g.L.length) ∧ w' = w := by
  have hc := decisionLevel h
  obtain ⟨d, hd⟩ : ∃ d, d = g.L.length := ⟨_, rfl⟩
  rw [← hd] at hc ⊢
  clear hd
  go_enter Try.func28, Try.ntmps28
  go_wp2_with (go_at_call 47; refine hc.mono ?_; rintro e w' ⟨rfl, rfl⟩)
  go_ret
  exact ⟨rfl, rfl⟩

end Go.Proofs.Qxb6600345a
