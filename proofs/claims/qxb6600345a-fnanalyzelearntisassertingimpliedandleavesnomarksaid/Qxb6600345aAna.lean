/-
  DERIVED. Seat b6600345a: what analyze learns, and what the naive closure finds (no Go in it).
-/
import Derived.Test.Qxb6600345aLogic
namespace Go.Proofs.Qxb6600345a
set_option linter.unusedVariables false
set_option linter.unusedSimpArgs false

/-! ### analyze -/
theorem lval_neg (a : Nat → Nat) (x : Nat) : lval a (neg x) = 1 ↔ lval a x = 2 := by
  have hv := neg_var x
  unfold lval
  rw [hv]
  have hp : neg x % 2 = 1 - x % 2 := by unfold neg; split <;> omega
  rw [hp]
  rcases Nat.mod_two_eq_zero_or_one x with h | h
  · rw [h]; simp; split <;> omega
  · rw [h]; simp; split <;> omega

/-- No clause is unit or false under a. -/
def Closed (m : Nat) (orig : Nat → List Nat) (a : Nat → Nat) : Prop := ∀ ci, ci < m → ∀ x ∈ orig ci, (∀ z ∈ orig ci, z ≠ x → lval a z = 2) → lval a x = 1

def opn (E : List En) (k d : Nat) (seen : Nat → Bool) : Nat := (E.take k).countP fun e => e.lev == d && seen (e.l / 2)

structure AI (y : Sv) (g : Gh) (E : List En) (d : Nat) (orig : Nat → List Nat) (k : Nat) (L : List Nat) (seen act : Nat → Bool) (C : List Nat) : Prop where
  kle : k ≤ E.length
  bef : ∀ v, seen v = true → ∃ j e, j < k ∧ E[j]? = some e ∧ e.l / 2 = v
  low : ∀ x ∈ L, neg x ∈ E.map (·.l) ∧ seen (x / 2) = true ∧ g.lvl (x / 2) ≠ d
  nd : (L.map (· / 2)).Nodup
  inL : ∀ v, seen v = true → g.lvl v ≠ d → v ∈ L.map (· / 2)
  act : ∀ j e, j < k → E[j]? = some e → act (e.l / 2) = seen (e.l / 2)
  cl : ∀ x ∈ C, neg x ∈ (E.take k).map (·.l)
  forces : ∀ a, Closed y.m orig a → (∀ j e, j < k → E[j]? = some e → seen (e.l / 2) = true → lval a e.l = 1) → (∀ x ∈ C, lval a x = 2) → False

theorem var_inj {y : Sv} {g : Gh} {E : List En} {d : Nat} (h : TOK y g E d) {i j : Nat} {e f : En} (hi : E[i]? = some e) (hj : E[j]? = some f) (hv : e.l / 2 = f.l / 2) : i = j := by
  have hnd := h.nd
  unfold Cons at hnd
  rw [h.T, List.map_map] at hnd
  have hp := List.pairwise_iff_getElem.1 (List.nodup_iff_pairwise_ne.1 hnd)
  obtain ⟨hi1, hi2⟩ := List.getElem?_eq_some_iff.1 hi
  obtain ⟨hj1, hj2⟩ := List.getElem?_eq_some_iff.1 hj
  rcases Nat.lt_trichotomy i j with hlt | he | hlt
  · exact absurd (by rw [List.getElem_map, List.getElem_map, hi2, hj2]; exact hv) (hp i j (by simpa using hi1) (by simpa using hj1) hlt)
  · exact he
  · exact absurd (by rw [List.getElem_map, List.getElem_map, hi2, hj2]; exact hv.symm) (hp j i (by simpa using hj1) (by simpa using hi1) hlt)

theorem mem_take_map {E : List En} {k x : Nat} (h : x ∈ (E.take k).map (·.l)) : ∃ j e, j < k ∧ E[j]? = some e ∧ e.l = x := by
  obtain ⟨e, he, rfl⟩ := List.mem_map.1 h
  obtain ⟨j, hj, hje⟩ := List.getElem_of_mem he
  rw [List.length_take] at hj
  rw [List.getElem_take] at hje
  exact ⟨j, e, by omega, by rw [List.getElem?_eq_getElem (by omega), hje], rfl⟩

/-- One literal of the clause is met that is marked already. -/
theorem AI.old {y : Sv} {g : Gh} {E : List En} {d : Nat} {orig : Nat → List Nat} {k : Nat} {L : List Nat} {seen act : Nat → Bool} {q : Nat} {C : List Nat} (hT : TOK y g E d) (h : AI y g E d orig k L seen act (q :: C)) (hs : seen (q / 2) = true) : AI y g E d orig k L seen act C := by
  refine ⟨h.kle, h.bef, h.low, h.nd, h.inL, h.act, fun x hx => h.cl x (List.mem_cons_of_mem _ hx), fun a hc h1 h2 => h.forces a hc h1 fun x hx => ?_⟩
  rcases List.mem_cons.1 hx with rfl | hx
  · obtain ⟨j, e, hj, he, hl⟩ := mem_take_map (h.cl x (by simp))
    have := h1 j e hj he (by rw [hl, neg_var]; exact hs)
    rw [hl] at this
    exact (lval_neg a x).1 this
  · exact h2 x hx

theorem countP_upd_ne (A : List En) (d v : Nat) (seen : Nat → Bool) (b : Bool) (h : ∀ e ∈ A, e.l / 2 ≠ v) : A.countP (fun e => e.lev == d && upd seen v b (e.l / 2)) = A.countP (fun e => e.lev == d && seen (e.l / 2)) := by
  apply List.countP_congr
  intro e he
  rw [upd_ne _ _ (h e he)]

theorem opn_mark {y : Sv} {g : Gh} {E : List En} {d : Nat} (hT : TOK y g E d) {k j v : Nat} {seen : Nat → Bool} {e : En} (hj : j < k) (he : E[j]? = some e) (hv : e.l / 2 = v) (hs : seen v = false) :
    opn E k d (upd seen v true) = opn E k d seen + (if e.lev = d then 1 else 0) := by
  obtain ⟨hj1, hj2⟩ := List.getElem?_eq_some_iff.1 he
  have hsp : E.take k = E.take j ++ e :: (E.take k).drop (j + 1) := by
    have h1 := (List.take_append_drop j (E.take k)).symm
    rw [List.take_take, Nat.min_eq_left (by omega)] at h1
    have h2 : (E.take k).drop j = e :: (E.take k).drop (j + 1) := by
      rw [List.drop_eq_getElem_cons (by rw [List.length_take]; omega), List.getElem_take, hj2]
    rw [h2] at h1
    exact h1
  have hA : ∀ f ∈ E.take j, f.l / 2 ≠ v := fun f hf e' => by
    obtain ⟨i, hi, hif⟩ := List.getElem_of_mem hf
    rw [List.length_take] at hi
    rw [List.getElem_take] at hif
    have := var_inj hT (i := i) (j := j) (by rw [List.getElem?_eq_getElem (by omega), hif]) he (by rw [e', hv])
    omega
  have hB : ∀ f ∈ (E.take k).drop (j + 1), f.l / 2 ≠ v := fun f hf e' => by
    obtain ⟨i, hi, hif⟩ := List.getElem_of_mem hf
    rw [List.length_drop, List.length_take] at hi
    rw [List.getElem_drop, List.getElem_take] at hif
    have := var_inj hT (i := j + 1 + i) (j := j) (by rw [List.getElem?_eq_getElem (by omega), hif]) he (by rw [e', hv])
    omega
  unfold opn
  rw [hsp, List.countP_append, List.countP_append, List.countP_cons, List.countP_cons, countP_upd_ne _ _ _ _ _ hA, countP_upd_ne _ _ _ _ _ hB, hv, upd_same, hs]
  by_cases hd : e.lev = d
  · simp [hd]; omega
  · simp [hd]

/-- One literal of the clause is met that is not marked: it is marked. -/
theorem AI.new {y : Sv} {g : Gh} {E : List En} {d : Nat} {orig : Nat → List Nat} {k : Nat} {L : List Nat} {seen act : Nat → Bool} {q : Nat} {C : List Nat} (hT : TOK y g E d) (h : AI y g E d orig k L seen act (q :: C)) (hs : seen (q / 2) = false) :
    act (q / 2) = false ∧ (∃ e ∈ E, e.l = neg q) ∧
    AI y g E d orig k (if g.lvl (q / 2) = d then L else L ++ [q]) (upd seen (q / 2) true) (upd act (q / 2) true) C ∧
    opn E k d (upd seen (q / 2) true) = opn E k d seen + (if g.lvl (q / 2) = d then 1 else 0) := by
  obtain ⟨j, e, hj, he, hl⟩ := mem_take_map (h.cl q (by simp))
  have hev : e.l / 2 = q / 2 := by rw [hl, neg_var]
  have hm : e ∈ E := List.mem_of_getElem? he
  have hlv : g.lvl (q / 2) = e.lev := by rw [← hev]; exact hT.lvl e hm
  have ha : act (q / 2) = false := by rw [← hev, h.act j e hj he, hev]; exact hs
  refine ⟨ha, ⟨e, hm, hl⟩, ⟨h.kle, fun v hv => ?_, ?_, ?_, fun v hv hd => ?_, fun i f hi hf => ?_, fun x hx => h.cl x (List.mem_cons_of_mem _ hx), fun a hc h1 h2 => h.forces a hc (fun i f hi hf hsf => ?_) fun x hx => ?_⟩, ?_⟩
  · by_cases e' : v = q / 2
    · exact ⟨j, e, hj, he, by rw [hev, e']⟩
    · rw [upd_ne _ _ e'] at hv; exact h.bef v hv
  · have hlow : ∀ x ∈ L, neg x ∈ E.map (·.l) ∧ upd seen (q / 2) true (x / 2) = true ∧ g.lvl (x / 2) ≠ d := fun x hx => by
      obtain ⟨h1, h2, h3⟩ := h.low x hx
      refine ⟨h1, ?_, h3⟩
      unfold upd; split
      · rfl
      · exact h2
    split
    · exact hlow
    · rename_i hd
      intro x hx
      rcases List.mem_append.1 hx with hx | hx
      · exact hlow x hx
      · rw [List.mem_singleton.1 hx]
        exact ⟨List.mem_map.2 ⟨e, hm, hl⟩, upd_same _ _ _, hd⟩
  · split
    · exact h.nd
    · rw [List.map_append]
      refine List.nodup_append.2 ⟨h.nd, by simp, fun a ha b hb => ?_⟩
      simp at hb
      subst hb
      intro e'
      obtain ⟨x, hx, hxa⟩ := List.mem_map.1 ha
      have := (h.low x hx).2.1
      rw [hxa, e', hs] at this
      cases this
  · by_cases e' : v = q / 2
    · subst e'; rw [if_neg hd]; simp
    · rw [upd_ne _ _ e'] at hv
      have := h.inL v hv hd
      split
      · exact this
      · rw [List.map_append]; exact List.mem_append.2 (.inl this)
  · by_cases e' : f.l / 2 = q / 2
    · rw [e', upd_same, upd_same]
    · rw [upd_ne _ _ e', upd_ne _ _ e']; exact h.act i f hi hf
  · refine h1 i f hi hf ?_
    unfold upd; split
    · rfl
    · exact hsf
  · rcases List.mem_cons.1 hx with rfl | hx
    · have := h1 j e hj he (by rw [hev, upd_same])
      rw [hl] at this
      exact (lval_neg a x).1 this
    · exact h2 x hx
  · rw [opn_mark hT hj he hev hs, hlv]

theorem opn_pos {E : List En} {k d : Nat} {seen : Nat → Bool} (h : 0 < opn E k d seen) : ∃ j e, j < k ∧ E[j]? = some e ∧ e.lev = d ∧ seen (e.l / 2) = true := by
  obtain ⟨e, he, hp⟩ := List.countP_pos_iff.1 h
  obtain ⟨j, hj, hje⟩ := List.getElem_of_mem he
  rw [List.length_take] at hj
  rw [List.getElem_take] at hje
  simp at hp
  exact ⟨j, e, by omega, by rw [List.getElem?_eq_getElem (by omega), hje], hp.1, hp.2⟩

theorem opn_of {E : List En} {k d : Nat} {seen : Nat → Bool} {j : Nat} {e : En} (hj : j < k) (he : E[j]? = some e) (hd : e.lev = d) (hs : seen (e.l / 2) = true) : 0 < opn E k d seen := by
  refine List.countP_pos_iff.2 ⟨e, ?_, by simp [hd, hs]⟩
  obtain ⟨hj1, hj2⟩ := List.getElem?_eq_some_iff.1 he
  rw [← hj2]
  exact List.mem_take_iff_getElem.2 ⟨j, by omega, rfl⟩

theorem opn_succ {E : List En} {k d : Nat} {seen : Nat → Bool} {e : En} (he : E[k]? = some e) : opn E (k + 1) d seen = opn E k d seen + (if e.lev = d ∧ seen (e.l / 2) = true then 1 else 0) := by
  unfold opn
  rw [List.take_add_one, he, List.countP_append]
  simp [List.countP_cons]

/-- The scan passes an entry that is not marked. -/
theorem AI.skip {y : Sv} {g : Gh} {E : List En} {d : Nat} {orig : Nat → List Nat} {k : Nat} {L : List Nat} {seen act : Nat → Bool} (hT : TOK y g E d) (h : AI y g E d orig (k + 1) L seen act []) {e : En} (he : E[k]? = some e) (hs : seen (e.l / 2) = false) :
    AI y g E d orig k L seen act [] ∧ opn E k d seen = opn E (k + 1) d seen := by
  refine ⟨⟨Nat.le_of_succ_le h.kle, fun v hv => ?_, h.low, h.nd, h.inL, fun j f hj hf => h.act j f (by omega) hf, fun x hx => by simp at hx, fun a hc h1 h2 => h.forces a hc (fun i f hi hf hsf => ?_) h2⟩, ?_⟩
  · obtain ⟨j, f, hj, hf, hfv⟩ := h.bef v hv
    refine ⟨j, f, ?_, hf, hfv⟩
    have : j ≠ k := fun e' => by
      subst e'
      rw [he] at hf
      cases hf
      rw [hfv, hv] at hs
      cases hs
    omega
  · have : i ≠ k := fun e' => by
      subst e'
      rw [he] at hf
      cases hf
      rw [hsf] at hs
      cases hs
    exact h1 i f (by omega) hf hsf
  · rw [opn_succ he, hs]; simp

/-- What the learnt clause is. -/
structure LOK (y : Sv) (g : Gh) (E : List En) (d : Nat) (orig : Nat → List Nat) (p : Nat) (L : List Nat) : Prop where
  pE : ∃ e ∈ E, e.l = p ∧ e.lev = d
  low : ∀ x ∈ L, neg x ∈ E.map (·.l) ∧ g.lvl (x / 2) ≠ d
  nd : ((neg p :: L).map (· / 2)).Nodup
  forces : ∀ a, Closed y.m orig a → (∀ x ∈ neg p :: L, lval a x = 2) → False

theorem AI.last {y : Sv} {g : Gh} {E : List En} {d : Nat} {orig : Nat → List Nat} {k : Nat} {L : List Nat} {seen act : Nat → Bool} (hT : TOK y g E d) (h : AI y g E d orig (k + 1) L seen act []) {e : En} (he : E[k]? = some e) (hs : seen (e.l / 2) = true) (ho : 0 < opn E (k + 1) d seen) : e.lev = d := by
  obtain ⟨j, f, hj, hf, hfd, _⟩ := opn_pos ho
  have hle := (hT.lev e (List.mem_of_getElem? he)).2
  by_cases e' : j = k
  · subst e'; rw [he] at hf; cases hf; exact hfd
  · obtain ⟨hj1, hj2⟩ := List.getElem?_eq_some_iff.1 hf
    obtain ⟨hk1, hk2⟩ := List.getElem?_eq_some_iff.1 he
    have := (List.pairwise_iff_getElem.1 hT.mono) j k hj1 hk1 (by omega)
    rw [hj2, hk2] at this
    omega

/-- The scan has come to a marked entry. -/
theorem AI.pop {y : Sv} {g : Gh} {E : List En} {d : Nat} {orig : Nat → List Nat} {k : Nat} {L : List Nat} {seen act : Nat → Bool} (hT : TOK y g E d) (hC : COK y g.cls orig) (h : AI y g E d orig (k + 1) L seen act []) {e : En} (he : E[k]? = some e) (hs : seen (e.l / 2) = true) (ho : 0 < opn E (k + 1) d seen) :
    opn E (k + 1) d seen = opn E k d (upd seen (e.l / 2) false) + 1 ∧
    (opn E k d (upd seen (e.l / 2) false) = 0 → LOK y g E d orig e.l L ∧ ∀ v, upd seen (e.l / 2) false v = true → v ∈ L.map (· / 2)) ∧
    (0 < opn E k d (upd seen (e.l / 2) false) → ∃ ci rest, ci < y.m ∧ e.rs = (ci : Int) ∧ g.cls ci = e.l :: rest ∧ AI y g E d orig k L (upd seen (e.l / 2) false) act rest) := by
  have hd := h.last hT he hs ho
  have hm : e ∈ E := List.mem_of_getElem? he
  have hlv : g.lvl (e.l / 2) = d := (hT.lvl e hm).trans hd
  obtain ⟨hk1, hk2⟩ := List.getElem?_eq_some_iff.1 he
  have hA : ∀ f ∈ E.take k, f.l / 2 ≠ e.l / 2 := fun f hf e' => by
    obtain ⟨i, hi, hif⟩ := List.getElem_of_mem hf
    rw [List.length_take] at hi
    rw [List.getElem_take] at hif
    have := var_inj hT (i := i) (j := k) (by rw [List.getElem?_eq_getElem (by omega), hif]) he e'
    omega
  have hseen : ∀ j f, j < k → E[j]? = some f → upd seen (e.l / 2) false (f.l / 2) = seen (f.l / 2) := fun j f hj hf => by
    refine upd_ne _ _ fun e' => ?_
    have := var_inj hT hf he e'
    omega
  have hbef : ∀ v, upd seen (e.l / 2) false v = true → ∃ j f, j < k ∧ E[j]? = some f ∧ f.l / 2 = v := fun v hv => by
    have hne : v ≠ e.l / 2 := fun e' => by rw [e', upd_same] at hv; cases hv
    rw [upd_ne _ _ hne] at hv
    obtain ⟨j, f, hj, hf, hfv⟩ := h.bef v hv
    refine ⟨j, f, ?_, hf, hfv⟩
    have : j ≠ k := fun e' => by
      subst e'; rw [he] at hf; cases hf; exact hne hfv.symm
    omega
  have hL : ∀ x ∈ L, x / 2 ≠ e.l / 2 := fun x hx e' => (h.low x hx).2.2 (by rw [e']; exact hlv)
  refine ⟨?_, fun h0 => ⟨⟨⟨e, hm, rfl, hd⟩, fun x hx => ⟨(h.low x hx).1, (h.low x hx).2.2⟩, ?_, fun a hc ha => ?_⟩, fun v hv => ?_⟩, fun hpos => ?_⟩
  · rw [opn_succ he, if_pos ⟨hd, hs⟩]
    unfold opn
    rw [countP_upd_ne _ _ _ _ _ hA]
  · rw [List.map_cons, neg_var]
    refine List.nodup_cons.2 ⟨fun hx => ?_, h.nd⟩
    obtain ⟨x, hx, e'⟩ := List.mem_map.1 hx
    exact hL x hx e'
  · refine h.forces a hc (fun i f hi hf hsf => ?_) (by simp)
    by_cases hik : i = k
    · subst hik; rw [he] at hf; cases hf
      have := ha (neg e.l) (by simp)
      rw [← neg_neg e.l]
      exact (lval_neg a (neg e.l)).2 this
    · have hik' : i < k := by omega
      have hfd : f.lev ≠ d := fun e' => by
        have := opn_of (seen := upd seen (e.l / 2) false) hik' hf e' (by rw [hseen i f hik' hf]; exact hsf)
        omega
      have hfm := List.mem_of_getElem? hf
      have hfl : g.lvl (f.l / 2) ≠ d := by rw [hT.lvl f hfm]; exact hfd
      obtain ⟨x, hx, e'⟩ := List.mem_map.1 (h.inL _ hsf hfl)
      have hnx := (h.low x hx).1
      obtain ⟨e2, he2, hl2⟩ := List.mem_map.1 hnx
      have hfl2 : f.l = neg x := by
        have : f.l / 2 = e2.l / 2 := by rw [hl2, neg_var]; exact e'.symm
        obtain ⟨i2, hi2, hie2⟩ := List.getElem_of_mem he2
        have hq : E[i2]? = some e2 := by rw [List.getElem?_eq_getElem hi2, hie2]
        have := var_inj hT hf hq this
        subst this
        rw [hf] at hq
        cases hq
        exact hl2
      rw [hfl2]
      exact (lval_neg a x).2 (ha x (List.mem_cons_of_mem _ hx))
  · obtain ⟨j, f, hj, hf, hfv⟩ := hbef v hv
    have hsf : seen v = true := by
      have := hseen j f hj hf
      rw [hfv] at this
      rw [← this]; exact hv
    refine h.inL v hsf fun e' => ?_
    have hfd : f.lev = d := by rw [← hT.lvl f (List.mem_of_getElem? hf), hfv]; exact e'
    have := opn_of (seen := upd seen (e.l / 2) false) hj hf hfd (by rw [hfv]; exact hv)
    omega
  · obtain ⟨j, f, hj, hf, hfd, hfs⟩ := opn_pos hpos
    have hsp : E = E.take k ++ e :: E.drop (k + 1) := by
      have h1 := (List.take_append_drop k E).symm
      rw [List.drop_eq_getElem_cons hk1, hk2] at h1
      exact h1
    have hfA : f ∈ E.take k := by
      obtain ⟨hj1, hj2⟩ := List.getElem?_eq_some_iff.1 hf
      rw [← hj2]
      exact List.mem_take_iff_getElem.2 ⟨j, by omega, rfl⟩
    rcases hT.why _ _ _ hsp with ⟨_, h2⟩ | ⟨ci, h1, h2, rest, h3, h4⟩
    · have := h2 f hfA
      omega
    · refine ⟨ci, rest, h1, h2, h3, ⟨Nat.le_of_succ_le h.kle, hbef, fun x hx => ⟨(h.low x hx).1, by rw [upd_ne _ _ (hL x hx)]; exact (h.low x hx).2.1, (h.low x hx).2.2⟩, h.nd, fun v hv hd' => ?_, fun i f' hi hf' => by rw [hseen i f' hi hf']; exact h.act i f' (by omega) hf', h4, fun a hc ha hr => h.forces a hc (fun i f' hi hf' hsf => ?_) (by simp)⟩⟩
      · have hne : v ≠ e.l / 2 := fun e' => by rw [e', upd_same] at hv; cases hv
        rw [upd_ne _ _ hne] at hv
        exact h.inL v hv hd'
      · by_cases hik : i = k
        · subst hik; rw [he] at hf'; cases hf'
          have hp := hC.perm ci h1
          rw [h3] at hp
          refine hc ci h1 _ (hp.mem_iff.1 (by simp)) fun z hz hne => ?_
          rcases List.mem_cons.1 (hp.mem_iff.2 hz) with e' | hz'
          · exact absurd e' hne
          · exact hr z hz'
        · have hik' : i < k := by omega
          exact ha i f' hik' hf' (by rw [hseen i f' hik' hf']; exact hsf)

/-- The last loop: the learnt clause's marks are cleared, one of the highest level comes second. -/
structure FL (g : Gh) (M0 : List Nat) (M : List Nat) (j : Nat) (seen : Nat → Bool) (back : Nat) : Prop where
  perm : M.Perm M0
  hd : M.getD 0 0 = M0.getD 0 0
  seen : ∀ v, seen v = true → ∃ i, j ≤ i ∧ i < M.length ∧ M.getD i 0 / 2 = v
  le : ∀ i, 1 ≤ i → i < j → g.lvl (M.getD i 0 / 2) ≤ back
  at1 : (j = 1 ∧ back = 0) ∨ (1 < j ∧ g.lvl (M.getD 1 0 / 2) = back)

theorem FL.start {g : Gh} {p : Nat} {L : List Nat} {seen : Nat → Bool} (h : ∀ v, seen v = true → v ∈ L.map (· / 2)) : FL g (p :: L) (p :: L) 1 seen 0 := by
  refine ⟨List.Perm.refl _, rfl, fun v hv => ?_, fun i h1 h2 => by omega, .inl ⟨rfl, rfl⟩⟩
  obtain ⟨x, hx, e⟩ := List.mem_map.1 (h v hv)
  obtain ⟨i, hi, hix⟩ := List.getElem_of_mem hx
  refine ⟨i + 1, by omega, by simp; omega, ?_⟩
  rw [List.getD_cons_succ, List.getD, List.getElem?_eq_getElem hi, hix]
  exact e

theorem FL.step {g : Gh} {M0 M : List Nat} {j : Nat} {seen : Nat → Bool} {back : Nat} (h : FL g M0 M j seen back) (hj : 1 ≤ j) (hl : j < M.length) (hlow : ∀ i, 1 ≤ i → i < M.length → 1 ≤ g.lvl (M.getD i 0 / 2)) :
    (back < g.lvl (M.getD j 0 / 2) → FL g M0 (swp M 1 j) (j + 1) (upd seen (M.getD j 0 / 2) false) (g.lvl (M.getD j 0 / 2))) ∧
    (¬ back < g.lvl (M.getD j 0 / 2) → FL g M0 M (j + 1) (upd seen (M.getD j 0 / 2) false) back) := by
  have hs : ∀ v, upd seen (M.getD j 0 / 2) false v = true → ∃ i, j + 1 ≤ i ∧ i < M.length ∧ M.getD i 0 / 2 = v := fun v hv => by
    have hne : v ≠ M.getD j 0 / 2 := fun e' => by rw [e', upd_same] at hv; cases hv
    rw [upd_ne _ _ hne] at hv
    obtain ⟨i, h1, h2, h3⟩ := h.seen v hv
    have : i ≠ j := fun e' => by subst e'; exact hne h3.symm
    exact ⟨i, by omega, h2, h3⟩
  refine ⟨fun hb => ⟨(swp_perm M (by omega) hl).trans h.perm, ?_, fun v hv => ?_, fun i h1 h2 => ?_, .inr ⟨by omega, ?_⟩⟩, fun hb => ⟨h.perm, h.hd, hs, fun i h1 h2 => ?_, ?_⟩⟩
  · rw [swp_getD _ (by omega) hl, if_neg (by omega), if_neg (by omega)]; exact h.hd
  · obtain ⟨i, h1, h2, h3⟩ := hs v hv
    refine ⟨i, h1, by unfold swp; simpa using h2, ?_⟩
    rw [swp_getD _ (by omega) hl, if_neg (by omega), if_neg (by omega)]; exact h3
  · rw [swp_getD _ (by omega) hl]
    split
    · rename_i hij
      subst hij
      rcases h.at1 with ⟨h3, h4⟩ | ⟨h3, h4⟩
      · rw [h3]; exact Nat.le_refl _
      · rw [h4]; omega
    · split
      · exact Nat.le_refl _
      · have := h.le i h1 (by omega); omega
  · rw [swp_getD _ (by omega) hl]
    split
    · rename_i hij; subst hij; rfl
    · simp
  · by_cases e' : i = j
    · subst e'; omega
    · exact h.le i h1 (by omega)
  · have h0 := hlow j hj hl
    rcases h.at1 with ⟨h3, h4⟩ | ⟨h3, h4⟩
    · omega
    · exact .inr ⟨by omega, h4⟩

/-! ### naiveClose -/
/-- Satisfied, or two literals unset. -/
def Ok1 (a : Nat → Nat) (c : List Nat) : Prop := (∃ x ∈ c, lval a x = 1) ∨ 2 ≤ c.countP (fun x => lval a x == 0)

theorem closed_of {m : Nat} {orig : Nat → List Nat} {a : Nat → Nat} (hnd : ∀ ci, ci < m → ((orig ci).map (· / 2)).Nodup) (h : ∀ ci, ci < m → Ok1 a (orig ci)) : Closed m orig a := by
  intro ci hci x hx ho
  rcases h ci hci with ⟨z, hz, hz1⟩ | h2
  · by_cases e : z = x
    · rw [← e]; exact hz1
    · have := ho z hz e; omega
  · exfalso
    have hn : (orig ci).Nodup := List.Pairwise.of_map (· / 2) (fun a b hab e => hab (by rw [e])) (hnd ci hci)
    have hc : (orig ci).count x ≤ 1 := List.nodup_iff_count.1 hn x
    have hle : (orig ci).countP (fun x => lval a x == 0) ≤ (orig ci).countP (· == x) := by
      apply List.countP_mono_left
      intro z hz hz0
      have hz0' : lval a z = 0 := by simpa using hz0
      by_cases e : z = x
      · simp [e]
      · have := ho z hz e; omega
    unfold List.count at hc
    omega

theorem lval_zero {a : Nat → Nat} (ha : ∀ v, a v ≤ 2) {x : Nat} (h : lval a x = 0) : a (x / 2) = 0 := by
  have := ha (x / 2)
  unfold lval at h
  split at h <;> omega

theorem lval_upd {a : Nat → Nat} {v t : Nat} (hv : a v = 0) {x : Nat} (h : lval a x = 2) : lval (upd a v t) x = 2 := by
  have hne : x / 2 ≠ v := fun e => by
    unfold lval at h
    rw [e, hv] at h
    simp at h
  unfold lval at h ⊢
  rw [upd_ne _ _ hne]
  exact h

def cnt0 (n : Nat) (a : Nat → Nat) : Nat := (List.range n).countP fun v => a v == 0

theorem cnt0_upd : ∀ {n : Nat} {a : Nat → Nat} {v t : Nat}, v < n → a v = 0 → t ≠ 0 → cnt0 n (upd a v t) + 1 = cnt0 n a
  | 0, _, _, _, h, _, _ => absurd h (by omega)
  | n + 1, a, v, t, h, h0, ht => by
    unfold cnt0
    rw [List.range_succ, List.countP_append, List.countP_append]
    by_cases e : v = n
    · subst e
      have : (List.range v).countP (fun u => upd a v t u == 0) = (List.range v).countP (fun u => a u == 0) := by
        apply List.countP_congr
        intro u hu
        rw [upd_ne _ _ (by have := List.mem_range.1 hu; omega)]
      rw [this]
      simp [upd_same, h0, ht]
    · have ih := cnt0_upd (n := n) (a := a) (v := v) (t := t) (by omega) h0 ht
      unfold cnt0 at ih
      have : upd a v t n = a n := upd_ne _ _ (fun e' => e e'.symm)
      simp only [List.countP_cons, List.countP_nil, this]
      omega

/-- A clause's walk: none of the first k true; u unset, z the last of them. -/
structure Sc (a : Nat → Nat) (c : List Nat) (k u z : Nat) : Prop where
  no1 : ∀ x ∈ c.take k, lval a x ≠ 1
  eq : u = (c.take k).countP (fun x => lval a x == 0)
  zz : 0 < u → z ∈ c ∧ lval a z = 0

theorem Sc.start (a : Nat → Nat) (c : List Nat) : Sc a c 0 0 0 := ⟨by simp, by simp, by simp⟩

theorem Sc.step {a : Nat → Nat} {c : List Nat} {k u z x : Nat} (h : Sc a c k u z) (hx : c[k]? = some x) (h1 : lval a x ≠ 1) : Sc a c (k + 1) (if lval a x = 0 then u + 1 else u) (if lval a x = 0 then x else z) := by
  have ht : c.take (k + 1) = c.take k ++ [x] := by rw [List.take_add_one, hx]; rfl
  refine ⟨fun y hy => ?_, ?_, ?_⟩
  · rw [ht] at hy
    rcases List.mem_append.1 hy with hy | hy
    · exact h.no1 y hy
    · rw [List.mem_singleton.1 hy]; exact h1
  · rw [ht, List.countP_append, ← h.eq]
    by_cases e : lval a x = 0
    · simp [e]
    · simp [e]
  · by_cases e : lval a x = 0
    · simp only [if_pos e]; intro _; exact ⟨List.mem_of_getElem? hx, e⟩
    · simp only [if_neg e]; exact h.zz

theorem Sc.two {a : Nat → Nat} {c : List Nat} {k u z : Nat} (h : Sc a c k u z) (hk : c.length ≤ k) (hu : 2 ≤ u) : Ok1 a c := by
  refine .inr ?_
  have := h.eq
  rw [List.take_of_length_le hk] at this
  omega

/-- A pass: what has been shown of the clauses before ci. -/
structure NP (n m : Nat) (orig : Nat → List Nat) (X : List Nat) (a0 a : Nat → Nat) (ci : Nat) (ch : Bool) : Prop where
  le : ∀ v, a v ≤ 2
  X : ∀ x ∈ X, lval a x = 2
  ok : ch = false → a = a0 ∧ ∀ cj, cj < ci → Ok1 a (orig cj)
  dn : ch = true → cnt0 n a < cnt0 n a0
  dn' : cnt0 n a ≤ cnt0 n a0

theorem NP.start {n m : Nat} {orig : Nat → List Nat} {X : List Nat} {a : Nat → Nat} (h1 : ∀ v, a v ≤ 2) (h2 : ∀ x ∈ X, lval a x = 2) : NP n m orig X a a 0 false :=
  ⟨h1, h2, fun _ => ⟨rfl, fun cj h => by omega⟩, (fun h => by cases h), Nat.le_refl _⟩

theorem NP.ok1 {n m : Nat} {orig : Nat → List Nat} {X : List Nat} {a0 a : Nat → Nat} {ci : Nat} {ch : Bool} (h : NP n m orig X a0 a ci ch) (ho : Ok1 a (orig ci)) : NP n m orig X a0 a (ci + 1) ch :=
  ⟨h.le, h.X, fun hc => ⟨(h.ok hc).1, fun cj hj => by
    by_cases e : cj = ci
    · rw [e]; exact ho
    · exact (h.ok hc).2 cj (by omega)⟩, h.dn, h.dn'⟩

theorem NP.unit {n m : Nat} {orig : Nat → List Nat} {X : List Nat} {a0 a : Nat → Nat} {ci : Nat} {ch : Bool} (h : NP n m orig X a0 a ci ch) {z : Nat} (hz : z < 2 * n) (h0 : lval a z = 0) : NP n m orig X a0 (upd a (z / 2) (1 + z % 2)) (ci + 1) true := by
  have hv := lval_zero h.le h0
  have hc := cnt0_upd (n := n) (a := a) (v := z / 2) (t := 1 + z % 2) (by omega) hv (by omega)
  have := h.dn'
  refine ⟨fun v => ?_, fun x hx => lval_upd hv (h.X x hx), (fun hc => by cases hc), (fun _ => by omega), by omega⟩
  unfold upd; split
  · omega
  · exact h.le v

theorem NP.closed {n m : Nat} {orig : Nat → List Nat} {X : List Nat} {a0 a : Nat → Nat} (h : NP n m orig X a0 a m false) (hnd : ∀ ci, ci < m → ((orig ci).map (· / 2)).Nodup) : Closed m orig a := closed_of hnd (h.ok rfl).2

end Go.Proofs.Qxb6600345a
