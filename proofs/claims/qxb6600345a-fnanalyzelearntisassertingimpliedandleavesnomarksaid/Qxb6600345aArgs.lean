/-
  DERIVED. Seat b6600345a: the arguments as they came in; zzBytes, bytesWithin.
-/
import Derived.Test.Qxb6600345aAsm
namespace Go.Proofs.Qxb6600345a
open Go.RowKit
set_option linter.unusedVariables false
set_option linter.unusedSimpArgs false
attribute [local go_sem ↓] Go.wp_at_zero Go.wp_at_succ

/-- A row of int32 that came in. -/
def RowI (w : World) (a : Option Addr) (len : Nat) (zs : List Int) : Prop :=
  len = 0 ∨ ∃ b o, a = some ⟨b, o, none⟩ ∧ b < w.heap.size ∧ ∀ i, i < len → w.cell? ⟨b, o + i, none⟩ = some (.int .i32 (zs.getD i 0))

/-- The clauses that came in. -/
structure Cl2 (w : World) (aC : Option Addr) (m : Nat) (A : Nat → Option Addr) (L C : Nat → Nat) (Z : Nat → List Int) : Prop where
  out : m = 0 ∨ ∃ b o, aC = some ⟨b, o, none⟩ ∧ b < w.heap.size ∧ ∀ r, r < m → w.cell? ⟨b, o + r, none⟩ = some (.slice (A r) (L r) (C r))
  row : ∀ r, r < m → RowI w (A r) (L r) (Z r)
  len : ∀ r, r < m → L r ≤ (Z r).length
  nil : ∀ r, r < m → A r = none → L r = 0
  mx : m ≤ maxLen
  mxr : ∀ r, r < m → L r ≤ maxLen
  wf : ∀ r, r < m → ∀ z ∈ Z r, -2147483648 ≤ z ∧ z < 2147483648

theorem Cl2.at {w : World} {aC : Option Addr} {m : Nat} {A : Nat → Option Addr} {L C : Nat → Nat} {Z : Nat → List Int} (h : Cl2 w aC m A L C Z) {r : Nat} (hr : r < m) : ∃ b o, aC = some ⟨b, o, none⟩ ∧ b < w.heap.size ∧ w.cell? ⟨b, o + r, none⟩ = some (.slice (A r) (L r) (C r)) := by
  rcases h.out with h0 | ⟨b, o, h1, h2, h3⟩
  · omega
  · exact ⟨b, o, h1, h2, h3 r hr⟩

set_option maxRecDepth 100000 in
theorem zzBytes {w : World} {n : Int} {aC : Option Addr} {m cC : Nat} {A : Nat → Option Addr} {L C : Nat → Nat} {Z : Nat → List Int} (h : Cl2 w aC m A L C Z) (aD : Option Addr) (nD cD : Nat) (hD : nD ≤ maxLen) :
    Calls Try.prog 36 #[.int .i64 n, .slice aC m cC, .slice aD nD cD] w fun e w' => ∃ b, e = .returned (.bool b) ∧ w' = w := by
  have hm := h.mx
  unfold maxLen at hm hD
  have HC : Hid (Cl2 w aC m A L C Z) := h
  clear h
  by_cases h1 : m ≤ 1048576
  · go_enter Try.func36, Try.ntmps36
    go_wp2
    go_loopg [7, 8] m (fun k s7 s8 wr => ∃ t i : Nat, s7 = .int .i64 (t : Int) ∧ s8 = .int .i64 (i : Int) ∧ t ≤ 1048576 ∧ i ≤ m ∧ m - i ≤ k ∧ Hid (wr = w))
    case atStart => exact ⟨m, 0, by go_num, rfl, h1, Nat.zero_le _, Nat.le_refl _, rfl⟩
    case round =>
      obtain ⟨t, i, rfl, rfl, ht, hi, hik, HW⟩ := hrel
      by_cases him : i < m
      · obtain ⟨b, o, rfl, hb, cr⟩ := HC.out.at him
        obtain ⟨l, hl⟩ : ∃ l, l = L i := ⟨_, rfl⟩
        obtain ⟨aR, hR⟩ : ∃ aR, aR = A i := ⟨_, rfl⟩
        obtain ⟨cR, hcR⟩ : ∃ cR, cR = C i := ⟨_, rfl⟩
        have hlm : l ≤ 9223372036854775807 := by rw [hl]; have := HC.out.mxr i him; unfold maxLen at this; exact this
        rw [← hl, ← hR, ← hcR, ← HW.out] at cr
        clear hl hR hcR
        by_cases hl1 : l ≤ 1048576
        · by_cases ht1 : t + l ≤ 1048576
          · go_wp2
            go_roundg (m - (i + 1))
            case measure => omega
            case rel => exact ⟨t + l, i + 1, by go_num, by go_num, ht1, by omega, Nat.le_refl _, HW⟩
          · go_wp2
            go_ret
            exact ⟨false, rfl, HW.out⟩
        · go_wp2
          go_ret
          exact ⟨false, rfl, HW.out⟩
      · have dl : decide ((i : Int) < (m : Int)) = false := decide_eq_false (by omega)
        by_cases hd1 : nD ≤ 1048576
        · by_cases ht1 : t + nD ≤ 1048576
          · go_wp2
            go_ret
            exact ⟨true, rfl, HW.out⟩
          · go_wp2
            go_ret
            exact ⟨false, rfl, HW.out⟩
        · go_wp2
          go_ret
          exact ⟨false, rfl, HW.out⟩
  · go_enter Try.func36, Try.ntmps36
    go_wp2
    go_ret
    exact ⟨false, rfl, rfl⟩

set_option maxRecDepth 100000 in
theorem bytesWithin {w : World} {aC : Option Addr} {m cC : Nat} {A : Nat → Option Addr} {L C : Nat → Nat} {Z : Nat → List Int} (h : Cl2 w aC m A L C Z) (aD : Option Addr) (nD cD : Nat) (hD : nD ≤ maxLen) :
    Calls Try.prog 10 #[.slice aC m cC, .slice aD nD cD] w fun e w' => ∃ b, e = .returned (.bool b) ∧ w' = w ∧ Hid (b = true → ∀ r, r < m → L r ≤ 262144) := by
  have hm := h.mx
  unfold maxLen at hm hD
  have HC : Hid (Cl2 w aC m A L C Z) := h
  clear h
  by_cases h1 : m ≤ 1048576
  · by_cases h2 : nD ≤ 1048576
    · by_cases h3 : 24 * m + 4 * nD ≤ 1048576
      · go_enter Try.func10, Try.ntmps10
        go_wp2
        go_loopg [5, 6] m (fun k s5 s6 wr => ∃ t i : Nat, s5 = .int .i64 (t : Int) ∧ s6 = .int .i64 (i : Int) ∧ t ≤ 1048576 ∧ i ≤ m ∧ m - i ≤ k ∧ Hid (wr = w ∧ ∀ r, r < i → L r ≤ 262144))
        case atStart => exact ⟨24 * m + 4 * nD, 0, by go_num, rfl, h3, Nat.zero_le _, Nat.le_refl _, rfl, fun r hr => by omega⟩
        case round =>
          obtain ⟨t, i, rfl, rfl, ht, hi, hik, HW⟩ := hrel
          by_cases him : i < m
          · obtain ⟨b, o, rfl, hb, cr⟩ := HC.out.at him
            obtain ⟨l, hl⟩ : ∃ l, l = L i := ⟨_, rfl⟩
            obtain ⟨aR, hR⟩ : ∃ aR, aR = A i := ⟨_, rfl⟩
            obtain ⟨cR, hcR⟩ : ∃ cR, cR = C i := ⟨_, rfl⟩
            have hlm : l ≤ 9223372036854775807 := by rw [hl]; have := HC.out.mxr i him; unfold maxLen at this; exact this
            rw [← hl, ← hR, ← hcR, ← HW.out.1] at cr
            have HL : Hid (l = L i) := hl
            clear hl hR hcR
            by_cases hl1 : l ≤ 1048576
            · by_cases ht1 : t + 4 * l ≤ 1048576
              · go_wp2
                go_roundg (m - (i + 1))
                case measure => omega
                case rel =>
                  refine ⟨t + 4 * l, i + 1, by go_num, by go_num, ht1, by omega, Nat.le_refl _, HW.out.1, fun r hr => ?_⟩
                  by_cases e : r = i
                  · subst e; rw [← HL.out]; omega
                  · exact HW.out.2 r (by omega)
              · go_wp2
                go_ret
                exact ⟨false, rfl, HW.out.1, fun h => by cases h⟩
            · go_wp2
              go_ret
              exact ⟨false, rfl, HW.out.1, fun h => by cases h⟩
          · have dl : decide ((i : Int) < (m : Int)) = false := decide_eq_false (by omega)
            go_wp2
            go_ret
            exact ⟨true, rfl, HW.out.1, fun _ r hr => HW.out.2 r (by omega)⟩
      · go_enter Try.func10, Try.ntmps10
        go_wp2
        go_ret
        exact ⟨false, rfl, rfl, fun h => by cases h⟩
    · go_enter Try.func10, Try.ntmps10
      go_wp2
      go_ret
      exact ⟨false, rfl, rfl, fun h => by cases h⟩
  · go_enter Try.func10, Try.ntmps10
    go_wp2
    go_ret
    exact .inl ⟨rfl, rfl, trivial⟩

end Go.Proofs.Qxb6600345a
