/-
  DERIVED. Seat b6600345a: what the trail, the clauses and the watch lists satisfy (no Go in it).
-/
import Derived.Test.Qxb6600345aWalkA
namespace Go.Proofs.Qxb6600345a
set_option linter.unusedVariables false
set_option linter.unusedSimpArgs false

/-! ### Literals -/
theorem neg_var (l : Nat) : neg l / 2 = l / 2 := by unfold neg; split <;> omega
theorem neg_neg (l : Nat) : neg (neg l) = l := by unfold neg; split <;> split <;> omega
theorem neg_ne (l : Nat) : neg l ≠ l := by unfold neg; split <;> omega
theorem neg_lt {l n : Nat} (h : l < 2 * n) : neg l < 2 * n := by unfold neg; split <;> omega
theorem eq_or_neg {l x : Nat} (h : l / 2 = x / 2) : x = l ∨ x = neg l := by unfold neg; split <;> omega
theorem neg_inj {l x : Nat} (h : neg l = neg x) : l = x := by rw [← neg_neg l, h, neg_neg]

/-! ### Counting -/
theorem length_le_of_nodup : ∀ (n : Nat) (l : List Nat), l.Nodup → (∀ x ∈ l, x < n) → l.length ≤ n
  | 0, l, _, h => by
    cases l with
    | nil => simp
    | cons x xs => exact absurd (h x (by simp)) (by omega)
  | n + 1, l, hd, h => by
    have ih := length_le_of_nodup n (l.filter (· ≠ n)) (hd.filter _) (fun x hx => by
      rw [List.mem_filter] at hx
      have := h x hx.1
      have h2 : x ≠ n := by simpa using hx.2
      omega)
    have : l.length ≤ (l.filter (· ≠ n)).length + 1 := by
      have hc : l.count n ≤ 1 := List.nodup_iff_count.1 hd n
      have e := List.length_eq_countP_add_countP (l := l) (fun x => decide (x ≠ n))
      rw [List.countP_eq_length_filter] at e
      have e2 : l.countP (fun a => decide ¬ (decide (a ≠ n) = true)) = l.count n := by
        unfold List.count
        apply List.countP_congr
        intro x _
        simp
      omega
    omega

/-! ### The trail -/
structure En where
  l : Nat
  lev : Nat
  rs : Int

def asgOf (T : List Nat) (v : Nat) : Nat := if 2 * v ∈ T then 1 else if 2 * v + 1 ∈ T then 2 else 0

theorem asgOf_le (T : List Nat) (v : Nat) : asgOf T v ≤ 2 := by unfold asgOf; split; omega; split <;> omega

/-- A literal and its negation do not both stand on the trail. -/
def Cons (T : List Nat) : Prop := (T.map (· / 2)).Nodup

theorem Cons.not_both {T : List Nat} (h : Cons T) {l : Nat} (h1 : l ∈ T) (h2 : neg l ∈ T) : False := by
  obtain ⟨i, hi, e1⟩ := List.getElem_of_mem h1
  obtain ⟨j, hj, e2⟩ := List.getElem_of_mem h2
  have hij : i ≠ j := fun e => by subst e; exact neg_ne l (e2.symm.trans e1)
  have := (List.nodup_iff_pairwise_ne.1 h)
  have hne := List.pairwise_iff_getElem.1 this
  rcases Nat.lt_or_gt_of_ne hij with hlt | hlt
  · exact hne i j (by simpa using hi) (by simpa using hj) hlt (by simp [e1, e2, neg_var])
  · exact hne j i (by simpa using hj) (by simpa using hi) hlt (by simp [e1, e2, neg_var])

theorem lval_true {T : List Nat} (h : Cons T) (l : Nat) : lval (asgOf T) l = 1 ↔ l ∈ T := by
  unfold lval asgOf
  rcases Nat.mod_two_eq_zero_or_one l with hp | hp
  · have e : l = 2 * (l / 2) := by omega
    have en : neg l = 2 * (l / 2) + 1 := by unfold neg; rw [if_pos hp]; omega
    rw [← en, ← e]
    by_cases h1 : l ∈ T
    · simp [h1, hp]
    · by_cases h2 : neg l ∈ T <;> simp [h1, h2, hp]
  · have e : l = 2 * (l / 2) + 1 := by omega
    have en : neg l = 2 * (l / 2) := by unfold neg; rw [if_neg (by omega)]; omega
    rw [← e, ← en]
    by_cases h1 : l ∈ T
    · have h2 : neg l ∉ T := fun h2 => h.not_both h1 h2
      simp [h1, h2, hp]
    · by_cases h2 : neg l ∈ T <;> simp [h1, h2, hp]

theorem lval_false {T : List Nat} (h : Cons T) (l : Nat) : lval (asgOf T) l = 2 ↔ neg l ∈ T := by
  unfold lval asgOf
  rcases Nat.mod_two_eq_zero_or_one l with hp | hp
  · have e : l = 2 * (l / 2) := by omega
    have en : neg l = 2 * (l / 2) + 1 := by unfold neg; rw [if_pos hp]; omega
    rw [← en, ← e]
    by_cases h1 : l ∈ T
    · have h2 : neg l ∉ T := fun h2 => h.not_both h1 h2
      simp [h1, h2, hp]
    · by_cases h2 : neg l ∈ T <;> simp [h1, h2, hp]
  · have e : l = 2 * (l / 2) + 1 := by omega
    have en : neg l = 2 * (l / 2) := by unfold neg; rw [if_neg (by omega)]; omega
    rw [← e, ← en]
    by_cases h1 : l ∈ T
    · have h2 : neg l ∉ T := fun h2 => h.not_both h1 h2
      simp [h1, h2, hp]
    · by_cases h2 : neg l ∈ T <;> simp [h1, h2, hp]

theorem lval_unset {T : List Nat} (h : Cons T) {l : Nat} (h0 : lval (asgOf T) l ≠ 1) (h1 : lval (asgOf T) l ≠ 2) : l / 2 ∉ T.map (· / 2) := by
  intro hm
  obtain ⟨x, hx, e⟩ := List.mem_map.1 hm
  rcases eq_or_neg e with hl | hl
  · subst hl; exact h0 ((lval_true h _).2 hx)
  · exact h1 ((lval_false h l).2 (by rw [hl, neg_neg]; exact hx))

theorem lval_zero_unset {T : List Nat} (h : Cons T) {l : Nat} (h0 : lval (asgOf T) l = 0) : l / 2 ∉ T.map (· / 2) := lval_unset h (by omega) (by omega)

theorem asgOf_push {T : List Nat} {l : Nat} (h : l / 2 ∉ T.map (· / 2)) (v : Nat) : upd (asgOf T) (l / 2) (1 + l % 2) v = asgOf (T ++ [l]) v := by
  have hn : ∀ x ∈ T, x / 2 ≠ l / 2 := fun x hx e => h (List.mem_map.2 ⟨x, hx, e⟩)
  unfold upd asgOf
  by_cases hv : v = l / 2
  · subst hv
    have n1 : 2 * (l / 2) ∉ T := fun hx => hn _ hx (by omega)
    have n2 : 2 * (l / 2) + 1 ∉ T := fun hx => hn _ hx (by omega)
    rcases Nat.mod_two_eq_zero_or_one l with hp | hp
    · have e : 2 * (l / 2) = l := by omega
      simp [n1, n2, hp, e]
    · have e : 2 * (l / 2) + 1 = l := by omega
      have e' : 2 * (l / 2) ≠ l := by omega
      simp [n1, n2, hp, e, e']
  · have e1 : 2 * v ≠ l := by omega
    have e2 : 2 * v + 1 ≠ l := by omega
    simp [hv, e1, e2]

structure TOK (y : Sv) (g : Gh) (E : List En) (d : Nat) : Prop where
  T : g.T = E.map (·.l)
  lt : ∀ e ∈ E, e.l < 2 * y.n
  nd : Cons g.T
  asg : g.asg = asgOf g.T
  lvl : ∀ e ∈ E, g.lvl (e.l / 2) = e.lev
  rsn : ∀ e ∈ E, g.rsn (e.l / 2) = e.rs
  lev : ∀ e ∈ E, 1 ≤ e.lev ∧ e.lev ≤ d
  mono : E.Pairwise fun a b => a.lev ≤ b.lev
  why : ∀ A e B, E = A ++ e :: B → (e.rs = -1 ∧ ∀ x ∈ A, x.lev < e.lev) ∨ ∃ ci : Nat, ci < y.m ∧ e.rs = (ci : Int) ∧ ∃ rest, g.cls ci = e.l :: rest ∧ ∀ x ∈ rest, neg x ∈ A.map (·.l)
  dl : g.L.length = d

theorem TOK.len {y : Sv} {g : Gh} {E : List En} {d : Nat} (h : TOK y g E d) : g.T.length ≤ y.n := by
  have := length_le_of_nodup y.n (g.T.map (· / 2)) h.nd (fun x hx => by
    obtain ⟨l, hl, rfl⟩ := List.mem_map.1 hx
    rw [h.T] at hl
    obtain ⟨e, he, rfl⟩ := List.mem_map.1 hl
    have := h.lt e he
    omega)
  simpa using this

structure COK (y : Sv) (cls orig : Nat → List Nat) : Prop where
  perm : ∀ ci, ci < y.m → (cls ci).Perm (orig ci)
  two : ∀ ci, ci < y.m → 2 ≤ (orig ci).length
  lt : ∀ ci, ci < y.m → ∀ x ∈ orig ci, x < 2 * y.n
  nd : ∀ ci, ci < y.m → ((orig ci).map (· / 2)).Nodup
  big : ∀ ci, ci < y.m → (orig ci).length ≤ 1000000

structure WOK (y : Sv) (cls : Nat → List Nat) (W : Nat → List Nat) : Prop where
  nd : ∀ l, l < 2 * y.n → (W l).Nodup
  lt : ∀ l, l < 2 * y.n → ∀ ci ∈ W l, ci < y.m
  watch : ∀ l, l < 2 * y.n → ∀ ci ∈ W l, (cls ci).getD 0 0 = neg l ∨ (cls ci).getD 1 0 = neg l

theorem WOK.len {y : Sv} {cls W : Nat → List Nat} (h : WOK y cls W) {l : Nat} (hl : l < 2 * y.n) : (W l).length ≤ y.m := length_le_of_nodup y.m _ (h.nd l hl) (h.lt l hl)

/-- A literal is assigned: 'rs' its reason. -/
theorem TOK.push {y : Sv} {g : Gh} {E : List En} {d : Nat} (h : TOK y g E d) {l : Nat} (hl : l < 2 * y.n) (hu : l / 2 ∉ g.T.map (· / 2)) (rs : Int) (hd : 1 ≤ d)
    (hw : (rs = -1 ∧ ∀ x ∈ E, x.lev < d) ∨ ∃ ci : Nat, ci < y.m ∧ rs = (ci : Int) ∧ ∃ rest, g.cls ci = l :: rest ∧ ∀ x ∈ rest, neg x ∈ g.T) (v' : Value) (ow' : Nat → Nat) :
    TOK y { g with asg := upd g.asg (l / 2) (1 + l % 2), lvl := upd g.lvl (l / 2) g.L.length, rsn := upd g.rsn (l / 2) rs, T := g.T ++ [l], vT := v', ow := ow' } (E ++ [⟨l, d, rs⟩]) d := by
  have hne : ∀ e ∈ E, e.l / 2 ≠ l / 2 := fun e he e' => hu (by rw [h.T]; exact List.mem_map.2 ⟨e.l, List.mem_map.2 ⟨e, he, rfl⟩, e'⟩)
  refine ⟨?_, ?_, ?_, ?_, ?_, ?_, ?_, ?_, ?_, h.dl⟩
  · show g.T ++ [l] = _
    rw [List.map_append, ← h.T]; rfl
  · intro e he
    rcases List.mem_append.1 he with he | he
    · exact h.lt e he
    · rw [List.mem_singleton.1 he]; exact hl
  · show ((g.T ++ [l]).map (· / 2)).Nodup
    rw [List.map_append]
    refine List.nodup_append.2 ⟨h.nd, by simp, fun a ha b hb => ?_⟩
    simp at hb
    subst hb
    exact fun e => hu (e ▸ ha)
  · show upd g.asg (l / 2) (1 + l % 2) = asgOf (g.T ++ [l])
    funext v
    rw [h.asg]
    exact asgOf_push hu v
  · intro e he
    show upd g.lvl (l / 2) g.L.length (e.l / 2) = e.lev
    rcases List.mem_append.1 he with he | he
    · rw [upd_ne _ _ (hne e he)]; exact h.lvl e he
    · rw [List.mem_singleton.1 he, upd_same]; exact h.dl
  · intro e he
    show upd g.rsn (l / 2) rs (e.l / 2) = e.rs
    rcases List.mem_append.1 he with he | he
    · rw [upd_ne _ _ (hne e he)]; exact h.rsn e he
    · rw [List.mem_singleton.1 he, upd_same]
  · intro e he
    rcases List.mem_append.1 he with he | he
    · exact h.lev e he
    · rw [List.mem_singleton.1 he]; exact ⟨hd, Nat.le_refl _⟩
  · refine List.pairwise_append.2 ⟨h.mono, by simp, fun a ha b hb => ?_⟩
    rw [List.mem_singleton.1 hb]
    exact (h.lev a ha).2
  · intro A e B hAB
    rcases List.append_eq_append_iff.1 hAB with ⟨A', h1, h2⟩ | ⟨A', h1, h2⟩
    · -- A = E ++ A': then A' ++ e :: B = [new]
      cases A' with
      | nil =>
        simp at h2 h1
        obtain ⟨rfl, rfl⟩ := h2
        rw [h1]
        rcases hw with ⟨h3, h4⟩ | ⟨ci, h3, h4, rest, h5, h6⟩
        · exact .inl ⟨h3, h4⟩
        · exact .inr ⟨ci, h3, h4, rest, h5, fun x hx => by rw [← h.T]; exact h6 x hx⟩
      | cons a ts =>
        simp at h2
    · -- E = A ++ A', A' ++ [new] = e :: B
      cases A' with
      | nil =>
        simp at h2 h1
        obtain ⟨rfl, rfl⟩ := h2
        rw [← h1]
        rcases hw with ⟨h3, h4⟩ | ⟨ci, h3, h4, rest, h5, h6⟩
        · exact .inl ⟨h3, h4⟩
        · exact .inr ⟨ci, h3, h4, rest, h5, fun x hx => by rw [← h.T]; exact h6 x hx⟩
      | cons a ts =>
        simp at h2
        obtain ⟨rfl, rfl⟩ := h2
        exact h.why A _ ts h1

/-- A clause that is no reason is turned about. -/
theorem TOK.setCls {y : Sv} {g : Gh} {E : List En} {d : Nat} (h : TOK y g E d) (ci : Nat) (c' : List Nat) (hh : (g.cls ci).getD 0 0 ∉ g.T) (ow' : Nat → Nat) : TOK y { g with cls := upd g.cls ci c', ow := ow' } E d := by
  refine ⟨h.T, h.lt, h.nd, h.asg, h.lvl, h.rsn, h.lev, h.mono, ?_, h.dl⟩
  intro A e B hAB
  rcases h.why A e B hAB with h1 | ⟨cj, h1, h2, rest, h3, h4⟩
  · exact .inl h1
  · refine .inr ⟨cj, h1, h2, rest, ?_, h4⟩
    show upd g.cls ci c' cj = _
    rw [upd_ne]
    · exact h3
    · intro e'
      subst e'
      apply hh
      rw [h3, h.T, hAB]
      simp

theorem TOK.anyOw {y : Sv} {g : Gh} {E : List En} {d : Nat} (h : TOK y g E d) (ow' : Nat → Nat) (q : Nat) : TOK y { g with ow := ow', q := q } E d := ⟨h.T, h.lt, h.nd, h.asg, h.lvl, h.rsn, h.lev, h.mono, h.why, h.dl⟩

/-- A level is opened. -/
theorem TOK.level {y : Sv} {g : Gh} {E : List En} {d : Nat} (h : TOK y g E d) (x v' : Value) (ow' : Nat → Nat) : TOK y { g with L := g.L ++ [x], vL := v', ow := ow' } E (d + 1) :=
  ⟨h.T, h.lt, h.nd, h.asg, h.lvl, h.rsn, fun e he => ⟨(h.lev e he).1, Nat.le_succ_of_le (h.lev e he).2⟩, h.mono, h.why, by simp [h.dl]⟩

/-! ### Clauses turned about -/
def swp (c : List Nat) (i j : Nat) : List Nat := (c.set i (c.getD j 0)).set j (c.getD i 0)

theorem swp_getD (c : List Nat) {i j : Nat} (hi : i < c.length) (hj : j < c.length) (k : Nat) : (swp c i j).getD k 0 = if k = j then c.getD i 0 else if k = i then c.getD j 0 else c.getD k 0 := by
  unfold swp
  simp only [List.getD, List.getElem?_set, List.length_set]
  by_cases h1 : j = k
  · subst h1; simp [hj]
  · by_cases h2 : i = k
    · subst h2; simp [hi, h1, Ne.symm h1, fun e => h1 (Eq.symm e)]
    · rw [if_neg h1, if_neg h2, if_neg (fun e => h1 e.symm), if_neg (fun e => h2 e.symm)]

theorem swp_perm (c : List Nat) {i j : Nat} (hi : i < c.length) (hj : j < c.length) : (swp c i j).Perm c := by
  unfold swp
  rw [List.getD, List.getD, List.getElem?_eq_getElem hi, List.getElem?_eq_getElem hj]
  exact List.set_set_perm hi hj

theorem COK.set {y : Sv} {cls orig : Nat → List Nat} (h : COK y cls orig) (ci : Nat) {c' : List Nat} (hp : c'.Perm (cls ci)) : COK y (upd cls ci c') orig :=
  ⟨fun cj hj => by
    by_cases e : cj = ci
    · subst e; rw [upd_same]; exact hp.trans (h.perm cj hj)
    · rw [upd_ne _ _ e]; exact h.perm cj hj, h.two, h.lt, h.nd, h.big⟩

theorem COK.len {y : Sv} {cls orig : Nat → List Nat} (h : COK y cls orig) {ci : Nat} (hc : ci < y.m) : 2 ≤ (cls ci).length ∧ (cls ci).length ≤ 1000000 := by
  rw [(h.perm ci hc).length_eq]; exact ⟨h.two ci hc, h.big ci hc⟩
theorem COK.lits {y : Sv} {cls orig : Nat → List Nat} (h : COK y cls orig) {ci : Nat} (hc : ci < y.m) : ∀ x ∈ cls ci, x < 2 * y.n := fun x hx => h.lt ci hc x ((h.perm ci hc).mem_iff.1 hx)
theorem COK.vars {y : Sv} {cls orig : Nat → List Nat} (h : COK y cls orig) {ci : Nat} (hc : ci < y.m) : ((cls ci).map (· / 2)).Nodup := ((h.perm ci hc).map (· / 2)).nodup_iff.2 (h.nd ci hc)

/-! ### The watch lists while p's list is walked: K kept, R still to come -/
structure WIP (y : Sv) (cls W : Nat → List Nat) (p : Nat) (K R : List Nat) : Prop where
  nd : ∀ l, l < 2 * y.n → l ≠ p → (W l).Nodup
  lt : ∀ l, l < 2 * y.n → l ≠ p → ∀ ci ∈ W l, ci < y.m
  watch : ∀ l, l < 2 * y.n → l ≠ p → ∀ ci ∈ W l, (cls ci).getD 0 0 = neg l ∨ (cls ci).getD 1 0 = neg l
  ndp : (K ++ R).Nodup
  ltp : ∀ ci ∈ K ++ R, ci < y.m
  wp : ∀ ci ∈ K ++ R, (cls ci).getD 0 0 = neg p ∨ (cls ci).getD 1 0 = neg p

theorem WIP.start {y : Sv} {cls W : Nat → List Nat} (h : WOK y cls W) {p : Nat} (hp : p < 2 * y.n) : WIP y cls W p [] (W p) :=
  ⟨fun l hl _ => h.nd l hl, fun l hl _ => h.lt l hl, fun l hl _ => h.watch l hl, h.nd p hp, h.lt p hp, h.watch p hp⟩

theorem WIP.done {y : Sv} {cls W : Nat → List Nat} {p : Nat} {K : List Nat} (h : WIP y cls W p K []) : WOK y cls (upd W p K) := by
  have hnd := h.ndp
  have hlt := h.ltp
  have hwp := h.wp
  rw [List.append_nil] at hnd hlt hwp
  refine ⟨fun l hl => ?_, fun l hl => ?_, fun l hl => ?_⟩
  all_goals
    by_cases e : l = p
    · subst e; rw [upd_same]; first | exact hnd | exact hlt | exact hwp
    · rw [upd_ne _ _ e]; first | exact h.nd l hl e | exact h.lt l hl e | exact h.watch l hl e

/-- What is physically in p's list while it is walked does not matter. -/
theorem WIP.anyW {y : Sv} {cls W : Nat → List Nat} {p : Nat} {K R : List Nat} (h : WIP y cls W p K R) (Wp : List Nat) : WIP y cls (upd W p Wp) p K R :=
  ⟨fun l hl e => by rw [upd_ne _ _ e]; exact h.nd l hl e, fun l hl e => by rw [upd_ne _ _ e]; exact h.lt l hl e, fun l hl e => by rw [upd_ne _ _ e]; exact h.watch l hl e, h.ndp, h.ltp, h.wp⟩

theorem WIP.swap01 {y : Sv} {cls W : Nat → List Nat} {p : Nat} {K R : List Nat} (h : WIP y cls W p K R) (ci : Nat) (hl : 2 ≤ (cls ci).length) : WIP y (upd cls ci (swp (cls ci) 0 1)) W p K R := by
  have key : ∀ cj x, ((cls cj).getD 0 0 = x ∨ (cls cj).getD 1 0 = x) → ((upd cls ci (swp (cls ci) 0 1) cj).getD 0 0 = x ∨ (upd cls ci (swp (cls ci) 0 1) cj).getD 1 0 = x) := fun cj x hx => by
    by_cases e : cj = ci
    · subst e
      rw [upd_same, swp_getD _ (by omega) (by omega), swp_getD _ (by omega) (by omega)]
      simpa using hx.symm
    · rw [upd_ne _ _ e]; exact hx
  exact ⟨h.nd, h.lt, fun l hl e cj hc => key _ _ (h.watch l hl e cj hc), h.ndp, h.ltp, fun cj hc => key _ _ (h.wp cj hc)⟩

theorem WIP.keep {y : Sv} {cls W : Nat → List Nat} {p ci : Nat} {K R : List Nat} (h : WIP y cls W p K (ci :: R)) : WIP y cls W p (K ++ [ci]) R := by
  have e : K ++ [ci] ++ R = K ++ ci :: R := by simp
  exact ⟨h.nd, h.lt, h.watch, by rw [e]; exact h.ndp, by rw [e]; exact h.ltp, by rw [e]; exact h.wp⟩

theorem getD_mem {c : List Nat} {i : Nat} (h : i < c.length) : c.getD i 0 ∈ c := by
  rw [List.getD, List.getElem?_eq_getElem h]; exact List.getElem_mem h

theorem vars_ne {c : List Nat} (h : (c.map (· / 2)).Nodup) {i j : Nat} (hi : i < c.length) (hj : j < c.length) (hij : i ≠ j) : c.getD i 0 / 2 ≠ c.getD j 0 / 2 := by
  have hp := List.pairwise_iff_getElem.1 (List.nodup_iff_pairwise_ne.1 h)
  rw [List.getD, List.getD, List.getElem?_eq_getElem hi, List.getElem?_eq_getElem hj]
  rcases Nat.lt_or_gt_of_ne hij with hlt | hlt
  · have := hp i j (by simpa using hi) (by simpa using hj) hlt
    rw [List.getElem_map, List.getElem_map] at this
    exact this
  · have := hp j i (by simpa using hj) (by simpa using hi) hlt
    rw [List.getElem_map, List.getElem_map] at this
    exact fun e => this e.symm

/-- rewatch has found a literal at k. -/
theorem WIP.rewatch {y : Sv} {cls W : Nat → List Nat} {p ci : Nat} {K R : List Nat} (h : WIP y cls W p K (ci :: R)) (hv : ((cls ci).map (· / 2)).Nodup) {k : Nat} (hk2 : 2 ≤ k) (hk : k < (cls ci).length) (h1 : (cls ci).getD 1 0 = neg p) :
    WIP y (upd cls ci (swp (cls ci) 1 k)) (upd W (neg ((cls ci).getD k 0)) (W (neg ((cls ci).getD k 0)) ++ [ci])) p K R := by
  obtain ⟨x, hx⟩ : ∃ x, x = (cls ci).getD k 0 := ⟨_, rfl⟩
  rw [← hx]
  have hx1 : x / 2 ≠ neg p / 2 := by rw [hx, ← h1]; exact vars_ne hv hk (by omega) (by omega)
  have hx0 : (cls ci).getD 0 0 ≠ x := fun e => vars_ne hv (show 0 < (cls ci).length by omega) hk (by omega) (by rw [e, hx])
  have hxp : neg x ≠ p := fun e => hx1 (by rw [← e, neg_neg])
  have hci : ci ∈ K ++ ci :: R := by simp
  have s0 : (swp (cls ci) 1 k).getD 0 0 = (cls ci).getD 0 0 := by rw [swp_getD _ (by omega) hk, if_neg (by omega), if_neg (by omega)]
  have s1 : (swp (cls ci) 1 k).getD 1 0 = x := by rw [swp_getD _ (by omega) hk, if_neg (by omega), if_pos rfl, hx]
  have hnew : ∀ (hl : neg x < 2 * y.n), ci ∉ W (neg x) := fun hl hm => by
    rcases h.watch _ hl hxp ci hm with e | e
    · rw [neg_neg] at e; exact hx0 e
    · rw [neg_neg, h1] at e; exact hx1 (by rw [e])
  have hnodup := h.ndp
  rw [List.nodup_append] at hnodup
  obtain ⟨nK, nR, nKR⟩ := hnodup
  have hmemne : ∀ cj ∈ K ++ R, cj ≠ ci := fun cj hc e => by
    subst e
    rcases List.mem_append.1 hc with hc | hc
    · exact nKR cj hc cj (by simp) rfl
    · exact (List.nodup_cons.1 nR).1 hc
  have sub : ∀ cj ∈ K ++ R, cj ∈ K ++ ci :: R := fun cj hc => by
    rcases List.mem_append.1 hc with hc | hc
    · exact List.mem_append.2 (.inl hc)
    · exact List.mem_append.2 (.inr (List.mem_cons_of_mem _ hc))
  refine ⟨fun l hl e => ?_, fun l hl e cj hc => ?_, fun l hl e cj hc => ?_, ?_, fun cj hc => h.ltp cj (sub cj hc), fun cj hc => ?_⟩
  · by_cases hlx : l = neg x
    · subst hlx
      rw [upd_same]
      exact List.nodup_append.2 ⟨h.nd _ hl e, by simp, fun a ha b hb => by simp at hb; subst hb; exact fun e' => hnew hl (e' ▸ ha)⟩
    · rw [upd_ne _ _ hlx]; exact h.nd l hl e
  · by_cases hlx : l = neg x
    · subst hlx
      rw [upd_same] at hc
      rcases List.mem_append.1 hc with hc | hc
      · exact h.lt _ hl e cj hc
      · rw [List.mem_singleton.1 hc]; exact h.ltp ci hci
    · rw [upd_ne _ _ hlx] at hc; exact h.lt l hl e cj hc
  · by_cases hcj : cj = ci
    · subst hcj
      rw [upd_same, s0, s1]
      by_cases hlx : l = neg x
      · subst hlx; rw [neg_neg]; exact .inr rfl
      · rw [upd_ne _ _ hlx] at hc
        rcases h.watch l hl e cj hc with e' | e'
        · exact .inl e'
        · rw [h1] at e'
          exact absurd (neg_inj e').symm e
    · rw [upd_ne _ _ hcj]
      by_cases hlx : l = neg x
      · subst hlx
        rw [upd_same] at hc
        rcases List.mem_append.1 hc with hc | hc
        · exact h.watch _ hl e cj hc
        · exact absurd (List.mem_singleton.1 hc) hcj
      · rw [upd_ne _ _ hlx] at hc; exact h.watch l hl e cj hc
  · refine List.nodup_append.2 ⟨nK, (List.nodup_cons.1 nR).2, fun a ha b hb => nKR a ha b (List.mem_cons_of_mem _ hb)⟩
  · rw [upd_ne _ _ (hmemne cj hc)]
    exact h.wp cj (sub cj hc)

end Go.Proofs.Qxb6600345a
