/-
  DERIVED. Seat b6600345a: the statement.
-/
import Derived.Test.Qxb6600345aRows
import Derived.Test.Qxb6600345aLawC
import Derived.WalkKit
import Derived.ProofKit
import Derived.OpenShut
import Derived.ShutString
import Derived.ChangeOld
import Derived.Below
import Derived.Deep.Matrix
namespace Go.Proofs.Qxb6600345a.fnAnalyzeLearntIsAssertingImpliedAndLeavesNoMark
open Go.ChangeShapes Go.WideShapes Go.ChangeAt Go.RowKit
open Go.Deep (open_int_rows)
set_option linter.unusedVariables false

theorem own : ownKnob Try.prog.godebug = none := by kernel_rfl
theorem laidOut : laidOutB Try.prog = true := by kernel_rfl

theorem cell_near {w : World} {x : Addr} {v : Value} (h : w.cell? x = some v) : x = ⟨x.block, x.off, none⟩ ∧ x.block < w.heap.size := by
  obtain ⟨b, o, p⟩ := x
  unfold World.cell? at h
  cases hb : w.heap[b]? with
  | none => simp [hb] at h
  | some ob =>
    refine ⟨?_, (Array.getElem?_eq_some_iff.1 hb).1⟩
    cases p with
    | none => rfl
    | some q => cases ob <;> simp [hb] at h

theorem near0 {w : World} {x : Addr} {v : Value} (h : w.cell? (x.add 0) = some v) : ∃ b o, x = ⟨b, o, none⟩ ∧ b < w.heap.size := by
  obtain ⟨e, hb⟩ := cell_near h
  obtain ⟨b, o, p⟩ := x
  have hp : p = none := by simpa [Addr.add] using e
  subst hp
  exact ⟨b, o, rfl, by simpa [Addr.add] using hb⟩

theorem wf_i32 {z : Int} (h : (Lit.int .i32 z).wf = true) : -2147483648 ≤ z ∧ z < 2147483648 := by
  simp [Lit.wf, IntKind.min, IntKind.max, IntKind.signed, IntKind.bits] at h
  omega

/-- One row of integers. -/
theorem rowI_of {w : World} {a : Option Addr} {len cap : Nat} {zs : List Int} (hl : len ≤ cap) (hn : a = none → cap = 0) (hc : ∀ a', a = some a' → ∀ c, c < cap → w.cell? (a'.add c) = some (.int .i32 (zs.getD c 0))) : RowI w a len zs := by
  rcases Nat.eq_zero_or_pos len with h0 | h0
  · exact .inl h0
  · cases a with
    | none => have := hn rfl; omega
    | some x =>
      obtain ⟨b, o, rfl, hb⟩ := near0 (hc x rfl 0 (by omega))
      refine .inr ⟨b, o, rfl, hb, fun i hi => ?_⟩
      have e := hc _ rfl i (by omega)
      rw [Addr.add_lit] at e
      exact e

set_option maxRecDepth 100000 in
theorem lifted (os : Os) (started : os.Started) (H : Type) (enc : TypeId × Value → H) :
    ReturnsInHanded {} Try.checked os 6 .any (Rows.fnAnalyzeLearntIsAssertingImpliedAndLeavesNoMarkSpec.pre6 enc Try.prog Try.f6 Rows.fnAnalyzeLearntIsAssertingImpliedAndLeavesNoMarkRow.domain false) (Rows.fnAnalyzeLearntIsAssertingImpliedAndLeavesNoMarkSpec.post enc Try.prog Try.f6 false true false false) := by
  refine returnsInHanded_of_change (C := Try.checked) own started (by kernel_rfl) Try.func6
    (ChangeSpec.witness6 (enc := enc) (C := Try.checked) false ⟨#[], #[.int .i64 0, .slice none 0 0, .slice none 0 0], []⟩ 8 (by kernel_rfl) (by kernel_rfl) (by kernel_rfl) (by kernel_rfl)) ?_
  intro W base args ds gs before hval0 hW hcnd _
  have hval : ∀ (j : Nat) t v, Try.f6.params[j]? = some t → args[j]? = some v → Value.okWide Try.prog W .any base t v := hval0
  have hW' := hW
  obtain ⟨p, q, hA0, hV, rfl, hfz, hnd⟩ := hW
  have hA : DataW.TrodAll enc Try.prog W 0 (fun _ => true) true Try.f6.params.toList args.toList ds p := hA0
  rw [Try.params6] at hA hval
  obtain ⟨v0, vs0, d0, ds0, p0, q0, hargs, rfl, rfl, h0, r0⟩ := trodAll_cons hA
  obtain ⟨v1, vs1, d1, ds1, p1, q1, rfl, rfl, rfl, h1, r1⟩ := trodAll_cons r0
  obtain ⟨v2, vs2, d2, ds2, p2, q2, rfl, rfl, rfl, h2, r2⟩ := trodAll_cons r1
  obtain ⟨rfl, rfl, rfl⟩ := trodAll_nil r2
  obtain rfl : args = #[v0, v1, v2] := by cases args; simp_all
  obtain ⟨rfl, rfl⟩ := trodVars_none hV
  obtain ⟨n, rfl, rfl, rfl, wn⟩ := open_int Try.underlying3 (hval 0 3 v0 rfl rfl) h0
  obtain ⟨aC, m, cC, rfl⟩ := okWide_slice Try.underlying22 (hval 1 22 v1 rfl rfl)
  obtain ⟨aD, nD, cD, rfl⟩ := okWide_slice Try.underlying23 (hval 2 23 v2 rfl rfl)
  have k1 := h1
  have k2 := h2
  have lt1 : ∀ x ∈ p1, x.block < W.heap.size := by obtain ⟨m, hm⟩ := k1; exact DataW.trod_lt m _ _ _ hm
  have lt2 : ∀ x ∈ p2, x.block < W.heap.size := by obtain ⟨m, hm⟩ := k2; exact DataW.trod_lt m _ _ _ hm
  obtain ⟨A, L, C, Z, hC, hnC⟩ : ∃ A L C Z, Cl2 W aC m A L C Z ∧ (aC = none → m = 0) := by
    obtain ⟨fuel, hf⟩ := h1
    rcases open_int_rows Try.underlying22 Try.underlying23 Try.underlying21 (by kernel_rfl) (by kernel_rfl) hf with ⟨hcs, _⟩ | ⟨a, len, cap, A, L, C, Z, hcs, _, hl, hm, _, hr⟩
    · simp [Value.cells] at hcs
      obtain ⟨rfl, rfl, rfl⟩ := hcs
      exact ⟨fun _ => Option.none, fun _ => 0, fun _ => 0, fun _ => [], ⟨.inl rfl, fun r hr => by omega, fun r hr => by omega, fun r hr => by omega, Nat.zero_le _, fun r hr => by omega, fun r hr => by omega⟩, fun _ => rfl⟩
    · simp [Value.cells] at hcs
      obtain ⟨rfl, rfl, rfl⟩ := hcs
      refine ⟨A, L, C, Z, ⟨?_, fun r hr' => ?_, fun r hr' => ?_, fun r hr' e => ?_, Nat.le_trans hl hm, fun r hr' => ?_, fun r hr' z hz => ?_⟩, fun e => by cases e⟩
      · rcases Nat.eq_zero_or_pos m with h0 | h0
        · exact .inl h0
        · obtain ⟨b, o, rfl, hb⟩ := near0 (hr 0 (by omega)).1
          refine .inr ⟨b, o, rfl, hb, fun r hr' => ?_⟩
          have e := (hr r (by omega)).1
          rw [Addr.add_lit] at e
          exact e
      · obtain ⟨_, e2, e3, e4, e5, e6, e7⟩ := hr r (by omega)
        exact rowI_of e2 e6 fun a' ha' => (e7 a' ha').2
      · obtain ⟨_, e2, e3, e4, e5, e6, e7⟩ := hr r (by omega)
        omega
      · obtain ⟨_, e2, e3, e4, e5, e6, e7⟩ := hr r (by omega)
        have := e6 e
        omega
      · obtain ⟨_, e2, e3, e4, e5, e6, e7⟩ := hr r (by omega)
        exact Nat.le_trans e2 e3
      · obtain ⟨_, e2, e3, e4, e5, e6, e7⟩ := hr r (by omega)
        exact wf_i32 (e5 z hz)
  obtain ⟨zD, hD, hnD, hmD, hlD, hwD⟩ : ∃ zD, RowI W aD nD zD ∧ (aD = none → nD = 0) ∧ nD ≤ maxLen ∧ nD ≤ zD.length ∧ ∀ z ∈ zD, -2147483648 ≤ z ∧ z < 2147483648 := by
    obtain ⟨fuel, hf⟩ := h2
    rcases open_ints Try.underlying23 Try.underlying21 (by kernel_rfl) hf with ⟨hcs, _⟩ | ⟨x, l, c, zs, hcs, _, hl, hm, hz, _, hcell, hwz⟩
    · simp [Value.cells] at hcs
      obtain ⟨rfl, rfl, rfl⟩ := hcs
      exact ⟨[], .inl rfl, fun _ => rfl, Nat.zero_le _, Nat.le_refl _, fun z hz => by cases hz⟩
    · simp [Value.cells] at hcs
      obtain ⟨rfl, rfl, rfl⟩ := hcs
      have hz' : zs.length = cD := by simpa using hz
      refine ⟨zs, rowI_of hl (fun e => by cases e) (fun a' ha' c' hc' => ?_), (fun e => by cases e), Nat.le_trans hl hm, by omega, fun z hz => wf_i32 (hwz z hz)⟩
      cases ha'
      exact hcell c' (by omega)
  clear hA0 hval0
  refine (law (n := n) hC hnC hD hnD hmD hlD hwD).mono fun e W' ⟨he, bel⟩ => ?_
  subst he
  exact ⟨_, rfl, _, _, _, [], _, [], hW', trodAll_mk1 (shut_bool Try.underlying4 _), (trodAll_cons_mk (shut_int Try.underlying3 wn) (trodAll_cons_mk (Below.trod laidOut (by kernel_rfl) (of_decide_eq_true (by kernel_rfl)) k1 bel lt1) (trodAll_cons_mk (Below.trod laidOut (by kernel_rfl) (of_decide_eq_true (by kernel_rfl)) k2 bel lt2) trodAll_mk0))), rfl, bel.frame _, fun h => by cases h⟩

theorem over : Rows.fnAnalyzeLearntIsAssertingImpliedAndLeavesNoMarkRow.holds Try.pinned (OpenSpec.ofChange Rows.fnAnalyzeLearntIsAssertingImpliedAndLeavesNoMarkSpec) :=
  OpenClaim.holds_of_wide 6 Try.f6 rfl rfl rfl rfl rfl rfl rfl ⟨rfl, rfl, rfl, rfl, rfl⟩ rfl rfl rfl rfl rfl (by kernel_rfl) Try.func6 (by kernel_rfl)
    (of_decide_eq_true (by kernel_rfl)) (by unfold Func.isWrapper; first | (rw [if_pos (by decide +kernel)]; kernel_rfl) | (rw [if_neg (by decide +kernel)]; exact ⟨rfl, rfl⟩))
    (fun os started H enc _ => lifted os started H enc)

theorem proved : Rows.FnAnalyzeLearntIsAssertingImpliedAndLeavesNoMarkSaid := over
#print axioms proved
end Go.Proofs.Qxb6600345a.fnAnalyzeLearntIsAssertingImpliedAndLeavesNoMark
