/-
  DERIVED. Seat b6600345a: an invariant over a region that draws its order.
-/
import Derived.Test.Qxb6600345aMem
import Derived.BigRegion
namespace Go.Proofs.Qxb6600345a
open Go.RowKit
set_option linter.unusedVariables false
set_option linter.unusedSimpArgs false

theorem getD_set_true (listed : Array Bool) {i : Nat} (hi : i < listed.size) : (fun j => (listed.setIfInBounds i true).getD j false) = upd (fun j => listed.getD j false) i true := by
  funext j
  simp only [upd, Array.getD_eq_getD_getElem?, Array.getElem?_setIfInBounds]
  by_cases e : i = j
  · subst e; simp [hi]
  · rw [if_neg e, if_neg (fun h => e h.symm)]

/-- AN INVARIANT OVER A REGION THAT DRAWS ITS ORDER: whatever operation comes next keeps it. -/
theorem wpAny_inv {P : Program} {md : Region.Mode} {ops : Array Oper} {Q : Exit → Act → World → Prop} (Inv : (Nat → Bool) → Act → World → Prop)
    (step : ∀ (listed : Array Bool) a w, listed.size = ops.size → Inv (fun i => listed.getD i false) a w → ∀ i ∈ Region.ready md ops listed, wpOp P ops Q i (fun a' w' => Inv (upd (fun i => listed.getD i false) i true) a' w') a w)
    (done : ∀ (listed : Array Bool) a w, listed.size = ops.size → Inv (fun i => listed.getD i false) a w → Region.ready md ops listed = [] → Q .normal a w) :
    ∀ (fuel : Nat) (listed : Array Bool) a w, listed.size = ops.size → listed.toList.count false ≤ fuel → Inv (fun i => listed.getD i false) a w → wpAny P md ops Q fuel listed a w := by
  have key : ∀ (listed : Array Bool) i, listed.size = ops.size → i ∈ Region.ready md ops listed → i < listed.size ∧ listed.toList[i]? = some false := fun listed i hs hi => by
    unfold Region.ready at hi
    rw [List.mem_filter] at hi
    have h1 : i < ops.size := List.mem_range.1 hi.1
    have h2 : listed.getD i true = false := by
      have := hi.2
      rw [Bool.and_eq_true] at this
      simpa using this.1
    have h3 : i < listed.size := by omega
    refine ⟨h3, ?_⟩
    rw [Array.getD_eq_getD_getElem?, Array.getElem?_eq_getElem h3] at h2
    rw [Array.getElem?_toList, Array.getElem?_eq_getElem h3]
    exact congrArg some h2
  intro fuel
  induction fuel with
  | zero =>
    intro listed a w hs hc hI
    have hr : Region.ready md ops listed = [] := by
      cases hr : Region.ready md ops listed with
      | nil => rfl
      | cons i rs =>
        have := (key listed i hs (by rw [hr]; simp)).2
        have hm : false ∈ listed.toList := List.mem_of_getElem? this
        have := List.count_pos_iff.2 hm
        omega
    exact ⟨hr, done listed a w hs hI hr⟩
  | succ fuel ih =>
    intro listed a w hs hc hI
    refine ⟨done listed a w hs hI, fun i hi => ?_⟩
    obtain ⟨hlt, hf⟩ := key listed i hs hi
    refine wpOp_mono (fun a' w' h => ih (listed.setIfInBounds i true) a' w' (by simpa using hs) ?_ (by rw [getD_set_true listed hlt]; exact h)) (step listed a w hs hI i hi)
    obtain ⟨hlt', hf'⟩ := List.getElem?_eq_some_iff.1 hf
    rw [Array.toList_setIfInBounds, List.count_set hlt']
    have hpos : 0 < listed.toList.count false := List.count_pos_iff.2 (List.mem_of_getElem? hf)
    rw [hf', if_pos (by decide), if_neg (by decide)]
    omega

/-- One operation of a region that draws, that yields a value. -/
theorem wpOp_do {P : Program} {ops : Array Oper} {Q : Exit → Act → World → Prop} {i : Nat} {K : Act → World → Prop} {a : Act} {w : World} (o : Oper) (ho : ops[i]? = some o) (hg : o.guard = none) (v : Value) (w' : World) (hrun : (execOp a.eval o).run P w = .ok (.value v) w') (hK : K (a.put o.dst v) w') : wpOp P ops Q i K a w := by
  unfold wpOp
  rw [ho]
  simp only []
  rw [if_pos (by simp [Region.wanted, hg])]
  refine .inl ?_
  unfold Oper.wp
  rw [hrun]
  exact hK

theorem getD_put {a : Act} {d k : Nat} {v : Value} (hk : k < a.tmps.size) : (a.put (some d) v).tmps.getD k undef = if k = d then v else a.tmps.getD k undef := by
  simp only [Act.put, Array.getD_eq_getD_getElem?, Array.getElem?_setIfInBounds]
  by_cases e : d = k
  · subst e; simp [hk]
  · rw [if_neg e, if_neg (fun h => e h.symm)]

theorem notReady {md : Region.Mode} {ops : Array Oper} {listed : Array Bool} (h : Region.ready md ops listed = []) {i : Nat} (hi : i < ops.size) (hd : ((ops[i]?).map (·.after.all fun e => !Region.binds md e || listed.getD e.on false)).getD false = true) : listed.getD i true = true := by
  cases hc : listed.getD i true with
  | true => rfl
  | false =>
    exfalso
    have : i ∈ Region.ready md ops listed := by
      unfold Region.ready
      rw [List.mem_filter]
      refine ⟨List.mem_range.2 hi, ?_⟩
      rw [hd, hc]; rfl
    rw [h] at this
    simp at this

theorem getD_both {listed : Array Bool} {i : Nat} (h : i < listed.size) : listed.getD i true = listed.getD i false := by
  rw [Array.getD_eq_getD_getElem?, Array.getD_eq_getD_getElem?, Array.getElem?_eq_getElem h]; rfl

end Go.Proofs.Qxb6600345a
