/-
  DERIVED. Seat b6600345a: Var, Not, decisionLevel, litValue.
-/
import Derived.Test.Qxb6600345aMem
namespace Go.Proofs.Qxb6600345a
open Go.RowKit
set_option linter.unusedVariables false
set_option linter.unusedSimpArgs false

def neg (l : Nat) : Nat := if l % 2 = 0 then l + 1 else l - 1

theorem neg_eq_xor (l : Nat) : l ^^^ 1 = neg l := by
  have h1 : (l ^^^ 1) / 2 = l / 2 := by rw [Nat.xor_div_two]; simp
  have h2 : (l ^^^ 1) % 2 = (l + 1) % 2 := by
    have h3 := Nat.xor_mod_two_pow (a := l) (b := 1) (n := 1)
    rw [Nat.pow_one] at h3
    rw [h3]
    rcases Nat.mod_two_eq_zero_or_one l with h | h
    · rw [h]; show 1 = _; omega
    · rw [h]; show 0 = _; omega
  unfold neg
  split <;> omega

theorem wrap_i32_nat (x : Nat) (h : x < 2147483648) : IntKind.i32.wrap (x : Int) = x := by
  simp [IntKind.wrap, IntKind.bits, IntKind.signed]
  omega

theorem xor_i32 (l : Nat) (h : l < 16384) : bits .xor .i32 (l : Int) 1 = (neg l : Int) := by
  have hn : neg l < 16385 := by unfold neg; split <;> omega
  have h1 : (BitVec.ofInt 32 (l : Int)).toNat = l := by
    rw [BitVec.ofInt_natCast, BitVec.toNat_ofNat]; exact Nat.mod_eq_of_lt (by omega)
  show IntKind.i32.wrap ((BitVec.ofInt 32 (l : Int) ^^^ BitVec.ofInt 32 1).toNat : Int) = _
  rw [BitVec.toNat_xor, h1, show (BitVec.ofInt 32 1).toNat = 1 from rfl, neg_eq_xor]
  exact wrap_i32_nat _ (by omega)

theorem and_i32 (l : Nat) (h : l < 16384) : bits .and .i32 (l : Int) 1 = ((l % 2 : Nat) : Int) := by
  have h1 : (BitVec.ofInt 32 (l : Int)).toNat = l := by
    rw [BitVec.ofInt_natCast, BitVec.toNat_ofNat]; exact Nat.mod_eq_of_lt (by omega)
  show IntKind.i32.wrap ((BitVec.ofInt 32 (l : Int) &&& BitVec.ofInt 32 1).toNat : Int) = _
  rw [BitVec.toNat_and, h1, show (BitVec.ofInt 32 1).toNat = 1 from rfl, Nat.and_one_is_mod]
  exact wrap_i32_nat _ (by omega)

theorem Ow.shape {H : Array Obj} {base : Nat} {e : TypeId} {v : Value} {xs : List Value} (h : Ow H base e v xs) : ∃ a c, v = .slice a xs.length c := by
  rcases h with ⟨h1, h2⟩ | ⟨g, cap, cur, h1, _⟩
  · exact ⟨none, 0, by rw [h1, h2]; rfl⟩
  · exact ⟨_, _, h1⟩

set_option maxRecDepth 100000 in
theorem litVar (l : Nat) (hl : l < 16384) (w : World) : Calls Try.prog 25 #[i32 l] w fun e w' => e = .returned (i32 (l / 2)) ∧ w' = w := by
  go_enter Try.func25, Try.ntmps25
  go_wp2
  go_ret
  exact ⟨by simp, rfl⟩

set_option maxRecDepth 100000 in
theorem litNot (l : Nat) (hl : l < 16384) (w : World) : Calls Try.prog 41 #[i32 l] w fun e w' => e = .returned (i32 (neg l)) ∧ w' = w := by
  have hx := xor_i32 l hl
  go_enter Try.func41, Try.ntmps41
  go_wp2
  go_ret
  exact ⟨rfl, rfl⟩

set_option maxRecDepth 100000 in
theorem decisionLevel {y : Sv} {g : Gh} {w : World} (h : MemC w.heap y g) : Calls Try.prog 47 #[.pointer (some ⟨y.bs, 0, none⟩)] w fun e w' => e = .returned (.int .i64 g.L.length) ∧ w' = w := by
  obtain ⟨aL, cL, hL⟩ := h.lim.shape
  obtain ⟨d, hd⟩ : ∃ d, d = g.L.length := ⟨_, rfl⟩
  rw [← hd] at hL ⊢
  have c6 : w.cell? ⟨y.bs, 6, none⟩ = some (.slice aL d cL) := by rw [h.sv.cell, ← hL]; rfl
  clear hL hd
  go_enter Try.func47, Try.ntmps47
  go_wp2
  go_ret
  exact ⟨rfl, rfl⟩

/-- The value of a literal under an assignment of its variables: 0, 1 (true), 2 (false). -/
def lval (asg : Nat → Nat) (l : Nat) : Nat := if asg (l / 2) = 0 ∨ l % 2 = 0 then asg (l / 2) else 3 - asg (l / 2)

set_option maxRecDepth 100000 in
theorem litValue {y : Sv} {g : Gh} {w : World} (h : MemC w.heap y g) (hn : y.n ≤ 4096) (l : Nat) (hl : l < 2 * y.n) (ha : g.asg (l / 2) ≤ 2) :
    Calls Try.prog 43 #[.pointer (some ⟨y.bs, 0, none⟩), i32 l] w fun e w' => e = .returned (.int .i8 (lval g.asg l : Int)) ∧ ∃ q, w' = w.drewN q := by
  have c2 : w.cell? ⟨y.bs, 2, none⟩ = some (.slice (some ⟨y.ba, 0, none⟩) y.n y.n) := by rw [h.sv.cell]; rfl
  obtain ⟨x, hx⟩ : ∃ x, x = g.asg (l / 2) := ⟨_, rfl⟩
  have hv : l / 2 < y.n := by omega
  have ca : w.cell? ⟨y.ba, l / 2, none⟩ = some (.int .i8 (x : Int)) := by rw [h.asg.cell, tab_at hv, hx]
  have hand := and_i32 l (by omega)
  rw [← hx] at ha
  have hr : lval g.asg l = if x = 0 ∨ l % 2 = 0 then x else 3 - x := by rw [hx]; rfl
  rw [hr]
  clear hr hx h
  go_enter Try.func43, Try.ntmps43
  go_wp2
  go_quiet (first | (go_at_call 25; refine Calls.quiet_of_same (litVar l (by omega) _)))
  by_cases h0 : x = 0
  · subst h0
    go_wp2
    go_ret
    exact ⟨by simp, nq, rfl⟩
  · have h1 : ((x : Int) == 0) = false := by simp; omega
    by_cases hp : l % 2 = 0
    · have h2 : (((l % 2 : Nat) : Int) == 0) = true := by simp; omega
      go_wp2
      go_ret
      exact ⟨by simp [hp], nq, rfl⟩
    · have h2 : (((l % 2 : Nat) : Int) == 0) = false := by simp; omega
      go_wp2
      go_ret
      refine ⟨?_, nq, rfl⟩
      simp [hp, h0]
      omega

end Go.Proofs.Qxb6600345a
