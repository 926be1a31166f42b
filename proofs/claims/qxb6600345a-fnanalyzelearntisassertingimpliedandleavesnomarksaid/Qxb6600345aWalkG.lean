/-
  DERIVED. Seat b6600345a: bump.
-/
import Derived.Test.Qxb6600345aWalkF
import Derived.Test.Qxb6600345aAna
import Derived.WalkLawsBesides
namespace Go.Proofs.Qxb6600345a
open Go.RowKit
set_option linter.unusedVariables false
set_option linter.unusedSimpArgs false
attribute [local go_sem ↓] Go.wp_at_zero Go.wp_at_succ

set_option maxRecDepth 100000 in
theorem has {y : Sv} {g : Gh} {w : World} (h : MemC w.heap y g) (hn : y.n ≤ 4096) (v : Nat) (hv : v < y.n) :
    Calls Try.prog 54 #[.pointer (some ⟨y.bs, 10, none⟩), i32 v] w fun e w' => e = .returned (.bool false) ∧ w' = w := by
  have c11 : w.cell? ⟨y.bs, 11, none⟩ = some (.slice none 0 0) := by rw [h.sv.cell]; rfl
  have dv : decide ((v : Int) < 0) = false := decide_eq_false (by omega)
  clear h
  go_enter Try.func54, Try.ntmps54
  go_wp2
  go_ret
  exact ⟨rfl, rfl⟩

set_option maxRecDepth 100000 in
theorem bump {y : Sv} {g : Gh} {w w0 : World} (h : MemC w.heap y g) (hB : Below y.base w0 w) (hn : y.n ≤ 4096) (v : Nat) (hv : v < y.n) (ha : g.act v = false) :
    Calls Try.prog 53 #[.pointer (some ⟨y.bs, 0, none⟩), i32 v] w fun e w' => e = .returned (.tuple #[]) ∧ Hid (Below y.base w0 w' ∧ Fr w.heap w'.heap g.ow g.ow ∧ MemC w'.heap y { g with act := upd g.act v true }) := by
  have c8 : w.cell? ⟨y.bs, 8, none⟩ = some (.slice (some ⟨y.bx, 0, none⟩) y.n y.n) := by rw [h.sv.cell]; rfl
  have c9 : w.cell? ⟨y.bs, 9, none⟩ = some (.float .f64 one) := by rw [h.sv.cell]; rfl
  have cx : w.cell? ⟨y.bx, v, none⟩ = some (.float .f64 0) := by rw [h.act.cell, tab_at hv, ha]; rfl
  have fx : w.frozen? ⟨y.bx, v, none⟩ = false := h.act.frozen _
  have H0 : Hid (MemC w.heap y g) := h
  have HB : Hid (Below y.base w0 w) := hB
  clear h hB
  have hadd : ∀ w, (binOp .add 68 (.float .f64 0) (.float .f64 one)).run Try.prog w = .ok (.float .f64 one) w := fun w => run_float_arith w .add 68 .f64 0 one one (by kernel_rfl)
  have hcmp : FloatKind.f64.format.order one 6103021453049119613 = some .lt := by kernel_rfl
  have hst : ∀ w ad m, Sem.run Try.prog (store ad (.float .f64 one) m) w = _ := fun w ad m => run_store Try.prog w ad (.float .f64 one) m rfl
  go_enter Try.func53, Try.ntmps53
  go_wp2_with fail
  go_cut [] from 18 (fun wc => Hid (Below y.base w0 wc ∧ Fr w.heap wc.heap g.ow g.ow ∧ MemC wc.heap y { g with act := upd g.act v true }))
  case first =>
    go_region
    all_goals go_wp2
    all_goals go_meet
    all_goals exact ⟨(HB.out.setCell H0.out.t6.2 _).drew, Fr.set w _ (by rw [H0.out.t6.1]; omega) _ _, H0.out.setAct v true⟩
  case rest =>
    have hc := hcut.out
    have c8 : wc.cell? ⟨y.bs, 8, none⟩ = some (.slice (some ⟨y.bx, 0, none⟩) y.n y.n) := by rw [hc.2.2.sv.cell]; rfl
    have cx : wc.cell? ⟨y.bx, v, none⟩ = some (.float .f64 one) := by
      rw [hc.2.2.act.cell, tab_at hv]
      show some (Value.float .f64 (if upd g.act v true v = true then one else 0)) = _
      rw [upd_same]; rfl
    have hh := has hc.2.2 hn v hv
    clear hc
    go_wp2_with (go_at_call 54; refine hh.mono ?_; rintro e w' ⟨rfl, rfl⟩)
    go_end0
    exact ⟨rfl, hcut⟩

end Go.Proofs.Qxb6600345a
