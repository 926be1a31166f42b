/-
  DERIVED. Seat b6600345a: trueValue, litVal, naiveClose, allSeenClear.
-/
import Derived.Test.Qxb6600345aWalkG
namespace Go.Proofs.Qxb6600345a
open Go.RowKit
set_option linter.unusedVariables false
set_option linter.unusedSimpArgs false
attribute [local go_sem ↓] Go.wp_at_zero Go.wp_at_succ

set_option maxRecDepth 100000 in
theorem trueValue (l : Nat) (hl : l < 16384) (w : World) : Calls Try.prog 16 #[i32 l] w fun e w' => e = .returned (.int .i8 ((1 + l % 2 : Nat) : Int)) ∧ w' = w := by
  have hand := and_i32 l hl
  rcases Nat.mod_two_eq_zero_or_one l with hp | hp
  · have h2 : (((l % 2 : Nat) : Int) == 0) = true := by simp; omega
    go_enter Try.func16, Try.ntmps16
    go_wp2
    go_ret
    exact ⟨by rw [hp]; rfl, rfl⟩
  · have h2 : (((l % 2 : Nat) : Int) == 0) = false := by simp; omega
    go_enter Try.func16, Try.ntmps16
    go_wp2
    go_ret
    exact ⟨by rw [hp]; rfl, rfl⟩

set_option maxRecDepth 100000 in
theorem litVal {w : World} {n b : Nat} {f : Nat → Nat} (h : Bk w.heap b 31 (tab n fun v => .int .i8 (f v : Int))) (hn : n ≤ 4096) (l : Nat) (hl : l < 2 * n) (ha : f (l / 2) ≤ 2) :
    Calls Try.prog 44 #[.slice (some ⟨b, 0, none⟩) n n, i32 l] w fun e w' => e = .returned (.int .i8 (lval f l : Int)) ∧ w' = w := by
  obtain ⟨x, hx⟩ : ∃ x, x = f (l / 2) := ⟨_, rfl⟩
  have hv : l / 2 < n := by omega
  have ca : w.cell? ⟨b, l / 2, none⟩ = some (.int .i8 (x : Int)) := by rw [h.cell, tab_at hv, hx]
  have hand := and_i32 l (by omega)
  rw [← hx] at ha
  have hr : lval f l = if x = 0 ∨ l % 2 = 0 then x else 3 - x := by rw [hx]; rfl
  rw [hr]
  clear hr hx h
  by_cases h0 : x = 0
  · rw [if_pos (.inl h0)]
    subst h0
    go_enter Try.func44, Try.ntmps44
    go_wp2
    go_ret
    exact ⟨rfl, rfl⟩
  · have h1 : ((x : Int) == 0) = false := by simp; omega
    by_cases hp : l % 2 = 0
    · have h2 : (((l % 2 : Nat) : Int) == 0) = true := by simp; omega
      rw [if_pos (.inr hp)]
      go_enter Try.func44, Try.ntmps44
      go_wp2
      go_ret
      exact ⟨rfl, rfl⟩
    · have h2 : (((l % 2 : Nat) : Int) == 0) = false := by simp; omega
      rw [if_neg (by omega), show ((3 - x : Nat) : Int) = 3 - (x : Int) by omega]
      go_enter Try.func44, Try.ntmps44
      go_wp2
      go_ret
      exact ⟨rfl, rfl⟩

set_option maxRecDepth 100000 in
theorem allSeenClear {y : Sv} {g : Gh} {w : World} (h : MemC w.heap y g) (hn : y.n ≤ 4096) (hs : ∀ v, g.seen v = false) :
    Calls Try.prog 37 #[.pointer (some ⟨y.bs, 0, none⟩), .int .i64 (y.n : Int)] w fun e w' => e = .returned (.bool true) ∧ w' = w := by
  have hz : ∀ v, v < y.n → Calls Try.prog 50 #[.pointer (some ⟨y.bs, 0, none⟩), i32 v] w fun e w' => e = .returned (.bool false) ∧ w' = w := fun v hv => by
    have e := zzSeen h hn v hv
    rw [hs] at e
    exact e
  clear h
  go_enter Try.func37, Try.ntmps37
  go_wp2
  go_loopg [5] y.n (fun k s5 wr => ∃ i : Nat, s5 = .int .i64 (i : Int) ∧ i ≤ y.n ∧ y.n - i ≤ k ∧ Hid (wr = w))
  case atStart => exact ⟨0, rfl, Nat.zero_le _, Nat.le_refl _, rfl⟩
  case round =>
    obtain ⟨i, rfl, hi, hik, HW⟩ := hrel
    by_cases hil : i < y.n
    · have hzi := hz i hil
      rw [← HW.out] at hzi
      go_wp2_with (go_at_call 50; refine hzi.mono ?_; rintro e w' ⟨rfl, rfl⟩)
      go_roundg (y.n - (i + 1))
      case measure => omega
      case rel => exact ⟨i + 1, by go_num, by omega, Nat.le_refl _, HW⟩
    · have dl : decide ((i : Int) < (y.n : Int)) = false := decide_eq_false (by omega)
      go_wp2
      go_ret
      exact ⟨rfl, HW.out⟩

end Go.Proofs.Qxb6600345a
