/-
  DERIVED. Seat b6600356a: what has no Go in it: the map that b1lmMap fills (key i, element zs[i]); what a range over it collects; the median's law.
-/
import Derived.Maps.Ext
import Derived.Maps.RangeWalk
import Derived.WalkArith
namespace Go.Proofs.Qxb6600356a
open Go.Maps

/-- THE MAP AFTER k ROUNDS. -/
def Cm {H : Type} (zs : List Int) : Nat → DataW H
  | 0 => .map []
  | k + 1 => (Cm zs k).put (.int .i64 (k : Int)) (.lit (.int .u64 (zs.getD k 0)))

theorem isKey (x : Int) : WideAt.IsKeyLit (.int .i64 x) := trivial

theorem Cm_tidy {H : Type} (zs : List Int) : ∀ k, Tidy (Cm (H := H) zs k)
  | 0 => tidy_empty
  | k + 1 => (Cm_tidy zs k).put (isKey _) _

theorem key_ne {x y : Int} (h : x ≠ y) : (Lit.int .i64 x) ≠ .int .i64 y := fun e => h (by injection e)

theorem Cm_has {H : Type} (zs : List Int) (x : Int) : ∀ k : Nat, has (Cm (H := H) zs k) (.int .i64 x) = decide (0 ≤ x ∧ x < k)
  | 0 => by
    have h : ¬ (0 ≤ x ∧ x < ((0 : Nat) : Int)) := by omega
    rw [decide_eq_false h]; rfl
  | k + 1 => by
    show has ((Cm (H := H) zs k).put _ _) _ = _
    by_cases hx : x = k
    · subst hx
      rw [has_put_same (Cm_tidy zs k).isMap (isKey _), eq_comm, decide_eq_true_eq]
      omega
    · rw [has_put_other (key_ne hx), Cm_has zs x k]
      exact decide_eq_decide.2 (by omega)

theorem Cm_size {H : Type} (zs : List Int) : ∀ k : Nat, Maps.size (Cm (H := H) zs k) = k
  | 0 => rfl
  | k + 1 => by
    show Maps.size ((Cm (H := H) zs k).put _ _) = _
    rw [size_put (Cm_tidy zs k), Cm_has, Cm_size zs k, if_neg (by simp)]

theorem Cm_at {H : Type} (zs : List Int) (x : Int) (z : DataW H) : ∀ k : Nat, 0 ≤ x → x < k → (Cm zs k).atKey (.int .i64 x) z = .lit (.int .u64 (zs.getD x.toNat 0))
  | 0 => fun h0 h1 => absurd h1 (by omega)
  | k + 1 => fun h0 h1 => by
    show ((Cm (H := H) zs k).put _ _).atKey _ _ = _
    by_cases hx : x = k
    · subst hx
      rw [atKey_put_same (Cm_tidy zs k).isMap (isKey _)]
      simp
    · rw [atKey_put_other (key_ne hx), Cm_at zs x z k h0 (by omega)]

/-- WHAT A RANGE HAS COLLECTED: the keys met so far (as numbers), no key twice. -/
def Met' (n : Nat) (left : Lit → Bool) (is : List Nat) : Prop := is.Nodup ∧ ∀ i, i ∈ is ↔ (i < n ∧ left (.int .i64 (i : Int)) = false)

theorem Met'.start {H : Type} (zs : List Int) (n : Nat) : Met' n (has (Cm (H := H) zs n)) [] := ⟨List.nodup_nil, fun i => by
  rw [Cm_has]
  constructor
  · intro h; cases h
  · rintro ⟨h1, h2⟩
    rw [decide_eq_false_iff_not] at h2
    exact absurd ⟨by omega, by omega⟩ h2⟩

theorem Met'.step {n : Nat} {left : Lit → Bool} {is : List Nat} (h : Met' n left is) {i : Nat} (hi : i < n) (hl : left (.int .i64 (i : Int)) = true) : Met' n (fun z => left z && !z.sameKey (.int .i64 (i : Int))) (is ++ [i]) := by
  have hnew : i ∉ is := fun hx => by have := ((h.2 i).1 hx).2; rw [hl] at this; cases this
  refine ⟨List.nodup_append.2 ⟨h.1, by simp, fun a ha b hb => by simp at hb; subst hb; exact fun e => hnew (e ▸ ha)⟩, fun j => ?_⟩
  by_cases hj : j = i
  · subst hj; simp [hi, Lit.sameKey]
  · have : ¬ ((j : Int) = (i : Int)) := by omega
    simp [h.2 j, hj, Lit.sameKey]
    intro _
    cases left (Lit.int .i64 (j : Int)) with
    | false => simp
    | true => simp; omega

theorem Met'.perm {n : Nat} {left : Lit → Bool} {is : List Nat} (h : Met' n left is) (hl : ∀ kl, left kl = false) : is.Perm (List.range n) :=
  (List.perm_ext_iff_of_nodup h.1 List.nodup_range).2 fun i => by rw [h.2 i, hl]; simp

theorem range_vals (zs : List Int) (n : Nat) (h : n ≤ zs.length) : (List.range n).map (fun i => zs.getD i 0) = zs.take n := by
  apply List.ext_getElem (by simp; omega)
  intro i h1 h2
  simp at h1
  simp [List.getD, List.getElem?_eq_getElem (show i < zs.length by omega)]

/-- r IS THE LOWER MEDIAN OF xs (0 of none). -/
def IsMed (xs : List Int) (r : Int) : Prop := (xs = [] ∧ r = 0) ∨ (0 < xs.length ∧ ∃ A B : List Int, (A ++ r :: B).Perm xs ∧ A.length = (xs.length + 1) / 2 - 1 ∧ (∀ a ∈ A, a ≤ r) ∧ ∀ b ∈ B, r ≤ b)

theorem isMed_sorted {xs ss : List Int} (hp : ss.Perm xs) (hn : 0 < xs.length) {r : Int} (hr : (ss.mergeSort fun x y => decide (x ≤ y))[(xs.length + 1) / 2 - 1]? = some r) : IsMed xs r := by
  have hl : ss.length = xs.length := hp.length_eq
  obtain ⟨S, hS⟩ : ∃ S, S = ss.mergeSort fun x y => decide (x ≤ y) := ⟨_, rfl⟩
  rw [← hS] at hr
  have hperm : S.Perm xs := by rw [hS]; exact (List.mergeSort_perm ss _).trans hp
  have hsort : S.Pairwise (fun a b => a ≤ b) := by
    have := List.pairwise_mergeSort (le := fun x y : Int => decide (x ≤ y)) (fun a b c h1 h2 => by simp only [decide_eq_true_eq] at *; omega) (fun a b => by simp only [Bool.or_eq_true, decide_eq_true_eq]; omega) ss
    rw [hS]
    simp only [decide_eq_true_eq] at this
    exact this
  obtain ⟨hlt, hget⟩ := List.getElem?_eq_some_iff.1 hr
  have hcut : S = S.take ((xs.length + 1) / 2 - 1) ++ r :: S.drop ((xs.length + 1) / 2 - 1 + 1) := by
    rw [← hget, ← List.drop_eq_getElem_cons hlt, List.take_append_drop]
  rw [hcut] at hsort
  obtain ⟨_, h2, h3⟩ := List.pairwise_append.1 hsort
  refine .inr ⟨hn, _, _, hcut ▸ hperm, by rw [List.length_take]; omega, fun a ha => h3 a ha r (by simp), fun b hb => (List.pairwise_cons.1 h2).1 b hb⟩

theorem med_mem {xs : List Int} {r : Int} (h : IsMed xs r) (hn : 0 < xs.length) : r ∈ xs := by
  rcases h with ⟨rfl, _⟩ | ⟨_, A, B, hp, _⟩
  · simp at hn
  · exact hp.mem_iff.1 (by simp)

theorem med_below {xs : List Int} {r : Int} (h : IsMed xs r) (hn : 0 < xs.length) : xs.countP (fun x => decide (x < r)) < (xs.length + 1) / 2 := by
  rcases h with ⟨rfl, _⟩ | ⟨_, A, B, hp, hA, h1, h2⟩
  · simp at hn
  · rw [← hp.countP_eq, List.countP_append, List.countP_cons]
    have e1 : A.countP (fun x => decide (x < r)) ≤ A.length := List.countP_le_length
    have e2 : B.countP (fun x => decide (x < r)) = 0 := List.countP_eq_zero.2 fun b hb => by have := h2 b hb; simp; omega
    simp [e2]
    omega

theorem med_upto {xs : List Int} {r : Int} (h : IsMed xs r) (hn : 0 < xs.length) : (xs.length + 1) / 2 ≤ xs.countP (fun x => decide (x ≤ r)) := by
  rcases h with ⟨rfl, _⟩ | ⟨_, A, B, hp, hA, h1, h2⟩
  · simp at hn
  · rw [← hp.countP_eq, List.countP_append, List.countP_cons]
    have e1 : A.countP (fun x => decide (x ≤ r)) = A.length := List.countP_eq_length.2 fun a ha => by have := h1 a ha; simpa using this
    simp [e1]
    omega

theorem med_above {xs : List Int} {r h : Int} (hm : IsMed xs r) (h0 : 0 ≤ h) : decide (r > h) = decide (2 * xs.countP (fun x => decide (x > h)) > xs.length) := by
  rcases hm with ⟨rfl, rfl⟩ | ⟨hn, A, B, hp, hA, h1, h2⟩
  · have : ¬ ((0 : Int) > h) := by omega
    simp [this]
  · have hl := hp.length_eq
    simp only [List.length_append, List.length_cons] at hl
    rw [← hp.countP_eq, List.countP_append, List.countP_cons]
    have b1 : A.countP (fun x => decide (x > h)) ≤ A.length := List.countP_le_length
    have b2 : B.countP (fun x => decide (x > h)) ≤ B.length := List.countP_le_length
    by_cases hr : r > h
    · have e2 : B.countP (fun x => decide (x > h)) = B.length := List.countP_eq_length.2 fun b hb => by have := h2 b hb; simp; omega
      simp only [hr, decide_true, if_true]
      rw [eq_comm, decide_eq_true_eq]
      omega
    · have e1 : A.countP (fun x => decide (x > h)) = 0 := List.countP_eq_zero.2 fun a ha => by have := h1 a ha; simp; omega
      simp only [hr, decide_false, Bool.false_eq_true, if_false]
      rw [eq_comm, decide_eq_false_iff_not]
      omega

end Go.Proofs.Qxb6600356a
