/-
  DERIVED. Seat b6600345a: analyze.
-/
import Derived.Test.Qxb6600345aWalkG
namespace Go.Proofs.Qxb6600345a
open Go.RowKit
set_option linter.unusedVariables false
set_option linter.unusedSimpArgs false
attribute [local go_sem ↓] Go.wp_at_zero Go.wp_at_succ

/-- The solver's core, and a row of analyze's own (tag 11). -/
structure An (y : Sv) (w0 : World) (g : Gh) (wr : World) (s a : Nat → Bool) (ow : Nat → Nat) (v : Value) (M : List Nat) : Prop where
  mem : MemC wr.heap y { g with seen := s, act := a, ow := ow }
  below : Below y.base w0 wr
  row : Ow wr.heap y.base 33 v (M.map i32)
  tag : ∀ b, v.ownBlock = some b → ow b = 11

theorem An.drew {y : Sv} {w0 : World} {g : Gh} {wr : World} {s a : Nat → Bool} {ow : Nat → Nat} {v : Value} {M : List Nat} (h : An y w0 g wr s a ow v M) (q : Nat) : An y w0 g (wr.drewN q) s a ow v M := ⟨h.mem, below_drewN h.below q, h.row, h.tag⟩

theorem An.frame {y : Sv} {w0 : World} {g : Gh} {wr wc : World} {s a s' a' : Nat → Bool} {ow : Nat → Nat} {v : Value} {M : List Nat} (h : An y w0 g wr s a ow v M) (hf : Fr wr.heap wc.heap ow ow) (hb : Below y.base w0 wc) (hm : MemC wc.heap y { g with seen := s', act := a', ow := ow }) : An y w0 g wc s' a' ow v M :=
  ⟨hm, hb, h.row.kept fun b hb hlt => (hf.keep b hlt (.inr (by rw [h.tag b hb]; omega))).1, h.tag⟩

theorem An.mark {y : Sv} {w0 : World} {g : Gh} {wr : World} {s a : Nat → Bool} {ow : Nat → Nat} {v : Value} {M : List Nat} (h : An y w0 g wr s a ow v M) (u : Nat) (x : Bool) : An y w0 g (wr.setCell ⟨y.bn, u, none⟩ (.bool x)) (upd s u x) a ow v M :=
  h.frame (Fr.set _ _ (by have := h.mem.t7.1; simp at this; rw [this]; omega) _ _) (h.below.setCell h.mem.t7.2 _) (h.mem.setSeen u x)

theorem An.pos {y : Sv} {w0 : World} {g : Gh} {wr : World} {s a : Nat → Bool} {ow : Nat → Nat} {aM : Option Addr} {lm cM : Nat} {M : List Nat} (h : An y w0 g wr s a ow (.slice aM lm cM) M) (hl : 0 < M.length) : ∃ gm, aM = some ⟨gm, 0, none⟩ ∧ lm = M.length ∧ y.base ≤ gm ∧ ow gm = 11 ∧ lm ≤ cM ∧ (∃ cur, Bk wr.heap gm 33 cur ∧ lm ≤ cur.size) ∧ ∀ j x, M[j]? = some x → wr.cell? ⟨gm, j, none⟩ = some (i32 x) ∧ wr.frozen? ⟨gm, j, none⟩ = false := by
  rcases h.row with ⟨h1, h2⟩ | ⟨b, cap, cur, h1, h2, h3, h4, h5, h6, h7⟩
  · rw [List.map_eq_nil_iff] at h2; rw [h2] at hl; simp at hl
  · injection h1 with e1 e2 e3
    refine ⟨b, e1, by simpa using e2, h2, h.tag b (by rw [e1]; rfl), by omega, ⟨cur, h3, by omega⟩, fun j x hj => ⟨?_, frozen_of_row wr b j cur 33 h3⟩⟩
    have hj1 := (List.getElem?_eq_some_iff.1 hj).1
    rw [cell_of_row wr b j cur 33 (0, 0) h3]
    have e : (cur.toList.take (M.map i32).length)[j]? = (M.map i32)[j]? := by rw [h7]
    rw [List.getElem?_take_of_lt (by simpa using hj1), Array.getElem?_toList] at e
    rw [e, List.getElem?_map, hj]
    rfl

theorem An.poke {y : Sv} {w0 : World} {g : Gh} {wr : World} {s a : Nat → Bool} {ow : Nat → Nat} {gm lm cM : Nat} {M : List Nat} (h : An y w0 g wr s a ow (.slice (some ⟨gm, 0, none⟩) lm cM) M) (j x : Nat) : An y w0 g (wr.setCell ⟨gm, j, none⟩ (i32 x)) s a ow (.slice (some ⟨gm, 0, none⟩) lm cM) (M.set j x) := by
  have ht : ow gm = 11 := h.tag gm rfl
  rcases h.row with ⟨h1, h2⟩ | ⟨b, cap, cur, h1, h2, h3, h4, h5, h6, h7⟩
  · cases h1
  · injection h1 with e1 e2 e3
    injection e1 with e1
    injection e1 with e1
    subst e1
    refine ⟨h.mem.setFar (.inr (by show 11 ≤ ow gm ∧ ow gm % 2 = 1; omega)) _ _, h.below.setCell h2 _, ?_, h.tag⟩
    refine .inr ⟨gm, cap, cur.setIfInBounds j (i32 x), by rw [e3]; simpa using e2, h2, heap_setCell_same wr gm j cur 33 (i32 x) h3, by simpa using h4, h5, by simpa using h6, ?_⟩
    rw [Array.toList_setIfInBounds, List.map_set, List.length_set, List.take_set, h7]

theorem opn_le {E : List En} {k d : Nat} {seen : Nat → Bool} : opn E k d seen ≤ E.length := Nat.le_trans List.countP_le_length (by rw [List.length_take]; omega)

theorem AI.lenL {y : Sv} {g : Gh} {E : List En} {d : Nat} {orig : Nat → List Nat} {k : Nat} {L : List Nat} {seen act : Nat → Bool} {C : List Nat} (hT : TOK y g E d) (h : AI y g E d orig k L seen act C) : L.length ≤ y.n := by
  have := length_le_of_nodup y.n (L.map (· / 2)) h.nd fun v hv => by
    obtain ⟨x, hx, rfl⟩ := List.mem_map.1 hv
    obtain ⟨e, he, hl⟩ := List.mem_map.1 (h.low x hx).1
    have := hT.lt e he
    have h2 := neg_var x
    omega
  simpa using this

theorem An.push {y : Sv} {w0 : World} {g : Gh} {w w5 : World} {s a : Nat → Bool} {ow : Nat → Nat} {v v' : Value} {M : List Nat} {x n' : Nat} (h : An y w0 g w s a ow v M) (hg : w.grownBy w5 v.ownBlock) (hown : w5.ownsRow y.base 33 1 v' n' (M.map i32 ++ [i32 x])) (hl : v'.ownBlock = v.ownBlock ∨ ∃ b, v'.ownBlock = some b ∧ w.heap.size ≤ b) :
    An y w0 g w5 s a (owAt ow v' 11) v' (M ++ [x]) := by
  refine ⟨h.mem.grow hg 11 (by omega) h.tag (owAt ow v' 11) (fun c hc ht => owAt_old h.tag hl hc ht), h.below.grown hg h.mem.base (fun j hj => (h.row.owns.lt j hj).1), ?_, fun b hb => owAt_self _ _ hb⟩
  have e := Ow.of_owns hown
  simpa using e

theorem AI.start {y : Sv} {g : Gh} {E : List En} {d : Nat} {orig : Nat → List Nat} {ci : Nat} (hT : TOK y g E d) (hC : COK y g.cls orig) (hc : Confl y g E d ci) (hs : ∀ v, g.seen v = false) (ha : ∀ v, g.act v = false) : AI y g E d orig E.length [] g.seen g.act (g.cls ci) := by
  refine ⟨Nat.le_refl _, fun v hv => ?_, by simp, by simp, fun v hv => ?_, fun j e _ _ => by rw [hs, ha], fun x hx => ?_, fun a hcl _ hx => ?_⟩
  · rw [hs] at hv; cases hv
  · rw [hs] at hv; cases hv
  · rw [List.take_length, ← hT.T]; exact hc.2.1 x hx
  · have hl := hC.len hc.1
    have hmem : (g.cls ci).getD 0 0 ∈ g.cls ci := getD_mem (by omega)
    have h1 := hcl ci hc.1 _ ((hC.perm ci hc.1).mem_iff.1 hmem) fun z hz _ => hx z ((hC.perm ci hc.1).mem_iff.2 hz)
    have h2 := hx _ hmem
    omega

theorem FL.tail {g : Gh} {p : Nat} {L M : List Nat} {j : Nat} {s : Nat → Bool} {back : Nat} (h : FL g (p :: L) M j s back) (hnd : ((p :: L).map (· / 2)).Nodup) {i : Nat} (h1 : 1 ≤ i) (h2 : i < M.length) : M.getD i 0 ∈ L := by
  have hm := h.perm.mem_iff.1 (getD_mem h2)
  rcases List.mem_cons.1 hm with e | e
  · exfalso
    have hv : (M.map (· / 2)).Nodup := (h.perm.map (· / 2)).nodup_iff.2 hnd
    have := vars_ne hv (i := i) (j := 0) h2 (by omega) (by omega)
    rw [h.hd, e] at this
    exact this rfl
  · exact e

theorem LOK.lows {y : Sv} {g : Gh} {E : List En} {d : Nat} {orig : Nat → List Nat} {p : Nat} {L : List Nat} (hT : TOK y g E d) (h : LOK y g E d orig p L) : ∀ x ∈ L, x < 2 * y.n ∧ neg x ∈ g.T ∧ 1 ≤ g.lvl (x / 2) ∧ g.lvl (x / 2) < d := by
  intro x hx
  obtain ⟨h1, h2⟩ := h.low x hx
  obtain ⟨e, he, hl⟩ := List.mem_map.1 h1
  have hlt := hT.lt e he
  have hlv := hT.lvl e he
  have hle := hT.lev e he
  rw [hl, neg_var] at hlv
  rw [hlv] at h2 ⊢
  refine ⟨?_, by rw [hT.T]; exact h1, hle.1, by omega⟩
  have := neg_lt (l := neg x) (n := y.n) (by rw [← hl]; exact hlt)
  rw [neg_neg] at this
  exact this

theorem LOK.p_lt {y : Sv} {g : Gh} {E : List En} {d : Nat} {orig : Nat → List Nat} {p : Nat} {L : List Nat} (hT : TOK y g E d) (h : LOK y g E d orig p L) : p < 2 * y.n := by
  obtain ⟨e, he, rfl, _⟩ := h.pE
  exact hT.lt e he

/-- What analyze leaves. -/
structure AnPost (y : Sv) (orig : Nat → List Nat) (w0 : World) (g : Gh) (E : List En) (d : Nat) (w' : World) (v : Value) (M : List Nat) (back : Nat) (s a : Nat → Bool) (ow : Nat → Nat) (p : Nat) (L : List Nat) : Prop where
  an : An y w0 g w' s a ow v M
  ok : LOK y g E d orig p L
  fl : FL g (neg p :: L) M M.length s back

set_option maxRecDepth 100000 in
set_option maxHeartbeats 8000000 in
theorem analyze {y : Sv} {orig : Nat → List Nat} {g : Gh} {E : List En} {d : Nat} {w w0 : World} {ci : Nat} (h : PI y orig w0 w g E d) (hc : Confl y g E d ci) (hs0 : ∀ v, g.seen v = false) (ha0 : ∀ v, g.act v = false) (hn : y.n ≤ 4096) (hm : y.m ≤ 65536) (hd : 1 ≤ d) (hd2 : d < 1000000) :
    Calls Try.prog 49 #[.pointer (some ⟨y.bs, 0, none⟩), i32 ci] w fun e w' => ∃ v back, e = .returned (.tuple #[v, .int .i64 (back : Nat)]) ∧ Hid (∃ M s a ow p L, AnPost y orig w0 g E d w' v M back s a ow p L) := by
  have hT : Hid (TOK y g E d) := h.tok
  have hC : Hid (COK y g.cls orig) := h.cok
  obtain ⟨aT, cT, hvT⟩ := h.mem.trail.shape
  obtain ⟨t, ht⟩ : ∃ t, t = g.T.length := ⟨_, rfl⟩
  rw [List.length_map, ← ht] at hvT
  have htE : t = E.length := by rw [ht, h.tok.T, List.length_map]
  have htn : t ≤ y.n := by rw [ht]; exact h.tok.len
  have c5 : (w.alloc (Obj.cells #[Value.int .i32 0] 33)).cell? ⟨y.bs, 5, none⟩ = some (.slice aT t cT) := by
    rw [World.cell?_of_block (Below.heap_alloc w _ _ h.mem.sv.lt), h.mem.sv.cell, ← hvT]; rfl
  have HT : Hid (g.vT = .slice aT t cT ∧ t = g.T.length ∧ t = E.length) := ⟨hvT, ht, htE⟩
  have H0 : Hid (PI y orig w0 w g E d) := h
  have HC : Hid (Confl y g E d ci) := hc
  have HS : Hid ((∀ v, g.seen v = false) ∧ ∀ v, g.act v = false) := ⟨hs0, ha0⟩
  clear h hc hs0 ha0 hvT ht htE
  go_enter Try.func49, Try.ntmps49
  go_wp2
  go_loopg [1, 6, 7, 8, 9] t (fun gk s1 s6 s7 s8 s9 wr => ∃ (s a : Nat → Bool) (ow : Nat → Nat) (L C : List Nat) (aM : Option Addr) (lm cM o k cj : Nat) (pz : Int), s1 = i32 cj ∧ s6 = .slice aM lm cM ∧ s7 = .int .i64 (o : Int) ∧ s8 = .int .i32 pz ∧ s9 = .int .i64 (k : Int) ∧ k < gk ∧ k < t ∧
    Hid (An y w0 g wr s a ow (.slice aM lm cM) (0 :: L) ∧ AI y g E d orig (k + 1) L s a C ∧ o = opn E (k + 1) d s ∧ cj < y.m ∧ ((pz = -1 ∧ g.cls cj = C) ∨ (0 ≤ pz ∧ ∃ p, g.cls cj = p :: C)) ∧ (0 < o ∨ ∃ x ∈ C, ∃ j e, j < k + 1 ∧ E[j]? = some e ∧ e.l = neg x ∧ e.lev = d)))
  case atStart =>
    have htp : 0 < t := by
      obtain ⟨x, hx, e, he, h1, h2⟩ := HC.out.2.2
      rw [HT.out.2.2]; exact List.length_pos_of_mem he
    have htt : t - 1 + 1 = t := by omega
    refine ⟨g.seen, g.act, upd g.ow w.heap.size 11, [], g.cls ci, some ⟨w.heap.size, 0, none⟩, 1, 1, 0, t - 1, ci, -1, rfl, rfl, rfl, rfl, by rw [show ((t - 1 : Nat) : Int) = (t : Int) - 1 by omega], by omega, by omega, ⟨?_, H0.out.below.alloc H0.out.mem.base _, ?_, ?_⟩, ?_, ?_, HC.out.1, .inl ⟨rfl, rfl⟩, .inr ?_⟩
    · exact H0.out.mem.grow (row := none) (World.grownBy_alloc w _ none) 11 (by omega) (fun b hb => by cases hb) _ (fun c hc _ => upd_ne _ _ (by omega))
    · exact .inr ⟨w.heap.size, 1, #[i32 0], rfl, H0.out.mem.base, heap_alloc_new w _, by simp, by unfold maxLen; omega, rfl, rfl⟩
    · intro b hb; cases hb; exact upd_same _ _ _
    · rw [htt, HT.out.2.2]; exact AI.start hT.out hC.out HC.out HS.out.1 HS.out.2
    · symm
      unfold opn
      rw [List.countP_eq_zero]
      intro e _
      simp [HS.out.1]
    · obtain ⟨x, hx, e, he, h1, h2⟩ := HC.out.2.2
      obtain ⟨j, hj, hje⟩ := List.getElem_of_mem he
      exact ⟨x, hx, j, e, by rw [htt, HT.out.2.2]; exact hj, by rw [List.getElem?_eq_getElem hj, hje], h1, h2⟩
  case round =>
    obtain ⟨s, a, ow, L, C, aM, lm, cM, o, k, cj, pz, rfl, rfl, rfl, rfl, rfl, hkg, hkt, HI⟩ := hrel
    clear H0 HC HS c5
    have hcj := HI.out.2.2.2.1
    obtain ⟨n2, hn2⟩ : ∃ n2, n2 = (g.cls cj).length := ⟨_, rfl⟩
    have hlen := hC.out.len hcj
    rw [← hn2] at hlen
    have c0 : wr.cell? ⟨y.bs, 0, none⟩ = some (.slice (some ⟨y.bcl, 0, none⟩) y.m y.m) := by rw [HI.out.1.mem.sv.cell]; rfl
    have ch : wr.cell? ⟨y.bcl, cj, none⟩ = some (.slice (some ⟨y.cb cj, 0, none⟩) n2 n2) := by rw [HI.out.1.mem.clh.cell, tab_at hcj, hn2]; rfl
    have HN2 : Hid (n2 = (g.cls cj).length) := hn2
    clear hn2
    obtain ⟨b, hb⟩ : ∃ b, decide (0 ≤ pz) = b := ⟨_, rfl⟩
    go_upto_if 32 with fail
    have HBP : Hid (decide (0 ≤ pz) = b) := hb
    clear hb
    go_cut [10] from 33 to 131 (fun s10 wc => ∃ off nC : Nat, s10 = .slice (some ⟨y.cb cj, off, none⟩) nC nC ∧ off ≤ 1 ∧ nC ≤ 1000000 ∧ Hid (wc = wr ∧ nC = C.length ∧ ∀ i x, C[i]? = some x → (g.cls cj)[off + i]? = some x))
    case first =>
      cases b with
      | true =>
        have hp : 0 ≤ pz := of_decide_eq_true HBP.out
        have hne : ¬ n2 = 1 := by omega
        go_wp2
        go_meet
        case rel =>
          rcases HI.out.2.2.2.2.1 with ⟨h1, _⟩ | ⟨_, p, h2⟩
          · omega
          · refine ⟨1, n2 - 1, rfl, Nat.le_refl _, by omega, rfl, by rw [HN2.out, h2]; simp, fun i x hx => ?_⟩
            rw [h2, Nat.add_comm, List.getElem?_cons_succ]; exact hx
      | false =>
        have hp : ¬ 0 ≤ pz := of_decide_eq_false HBP.out
        go_wp2
        go_meet
        case rel =>
          rcases HI.out.2.2.2.2.1 with ⟨_, h1⟩ | ⟨h2, _⟩
          · exact ⟨0, n2, rfl, by omega, hlen.2, rfl, by rw [HN2.out, h1], fun i x hx => by rw [h1, Nat.zero_add]; exact hx⟩
          · omega
    case rest =>
      obtain ⟨off, nC, rfl, hoff, hnC, HCut⟩ := hcut
      clear c0 ch
      go_wp2
      go_loopg [6, 7, 37] nC (fun gk2 s6 s7 s37 wr2 => ∃ (s a : Nat → Bool) (ow : Nat → Nat) (L : List Nat) (aM : Option Addr) (lm cM o i : Nat), s6 = .slice aM lm cM ∧ s7 = .int .i64 (o : Int) ∧ s37 = .int .i64 (i : Int) ∧ i ≤ nC ∧ nC - i ≤ gk2 ∧ Hid (An y w0 g wr2 s a ow (.slice aM lm cM) (0 :: L) ∧ AI y g E d orig (k + 1) L s a (C.drop i) ∧ o = opn E (k + 1) d s ∧ (0 < o ∨ ∃ x ∈ C.drop i, ∃ j e, j < k + 1 ∧ E[j]? = some e ∧ e.l = neg x ∧ e.lev = d)))
      case atStart =>
        rw [HCut.out.1]
        exact ⟨s, a, ow, L, aM, lm, cM, o, 0, rfl, rfl, rfl, Nat.zero_le _, Nat.le_refl _, HI.out.1, by rw [List.drop_zero]; exact HI.out.2.1, HI.out.2.2.1, by rw [List.drop_zero]; exact HI.out.2.2.2.2.2⟩
      case round =>
        revert hrel; intro hrel
        obtain ⟨s2, a2, ow2, L2, aM2, lm2, cM2, o2, i, rfl, rfl, rfl, hi, hik, HJ⟩ := hrel
        clear HI
        obtain ⟨gm, rfl, hlm0, hgm1, hgm2, hlm1, hcur, hMc⟩ := HJ.out.1.pos (by simp)
        have hlm : lm2 ≤ 4097 := by have := HJ.out.2.1.lenL hT.out; rw [hlm0]; simp; omega
        have ho2 : o2 ≤ 4096 := by
          have := opn_le (E := E) (k := k + 1) (d := d) (seen := s2)
          rw [← HJ.out.2.2.1, ← HT.out.2.2] at this; omega
        have HLM : Hid (lm2 = (0 :: L2).length) := hlm0
        clear hlm0 hgm1 hgm2 hcur hMc
        by_cases hiC : i < nC
        · obtain ⟨q, hq⟩ : ∃ q, C[i]? = some q := ⟨_, List.getElem?_eq_getElem (by rw [← HCut.out.2.1]; exact hiC)⟩
          have hdrop : C.drop i = q :: C.drop (i + 1) := by
            obtain ⟨hlt, he⟩ := List.getElem?_eq_some_iff.1 hq
            rw [← he]; exact List.drop_eq_getElem_cons hlt
          have hqc : (g.cls cj)[off + i]? = some q := HCut.out.2.2 i q hq
          have hq2 : q < 2 * y.n := hC.out.lits hcj q (List.mem_of_getElem? hqc)
          have cq : wr.cell? ⟨y.cb cj, off + i, none⟩ = some (i32 q) := by
            have e := (HJ.out.1.mem.cl cj hcj).cell (off + i)
            rw [e]
            show ((g.cls cj).map i32).toArray[off + i]? = _
            simp [hqc]
          have hlV := fun w => litVar q (by omega) w
          have hv2 : q / 2 < y.n := by omega
          have c14 : wr.cell? ⟨y.bs, 14, none⟩ = some (.slice (some ⟨y.bn, 0, none⟩) y.n y.n) := by rw [HJ.out.1.mem.sv.cell]; rfl
          obtain ⟨sv, hsv⟩ : ∃ sv, s2 (q / 2) = sv := ⟨_, rfl⟩
          have cs : wr.cell? ⟨y.bn, q / 2, none⟩ = some (.bool sv) := by rw [HJ.out.1.mem.seen.cell, tab_at hv2, ← hsv]
          have HQ : Hid (C.drop i = q :: C.drop (i + 1) ∧ s2 (q / 2) = sv) := ⟨hdrop, hsv⟩
          clear hdrop hsv hq hqc
          cases sv with
          | true =>
            go_wp2_with (go_at_call 25; refine (hlV _).mono ?_; rintro e w' ⟨rfl, rfl⟩)
            go_roundg (nC - (i + 1))
            case measure => omega
            case rel =>
              have hai := HJ.out.2.1
              have hor := HJ.out.2.2.2
              rw [HQ.out.1] at hai hor
              refine ⟨s2, a2, ow2, L2, some ⟨gm, 0, none⟩, lm2, cM2, o2, i + 1, rfl, rfl, by go_num, by omega, Nat.le_refl _, HJ.out.1, hai.old hT.out HQ.out.2, HJ.out.2.2.1, ?_⟩
              rcases hor with hor | ⟨x, hx, j, e, hj, he, hl, hlev⟩
              · exact .inl hor
              · rcases List.mem_cons.1 hx with rfl | hx
                · refine .inl ?_
                  rw [HJ.out.2.2.1]
                  exact opn_of hj he hlev (by rw [hl, neg_var]; exact HQ.out.2)
                · exact .inr ⟨x, hx, j, e, hj, he, hl, hlev⟩
          | false =>
            have hai := HJ.out.2.1
            rw [HQ.out.1] at hai
            have hnew := hai.new hT.out HQ.out.2
            obtain ⟨ha2, ⟨e0, he0, hel0⟩, hnew1, hopn⟩ := hnew
            obtain ⟨lv, hlv⟩ : ∃ lv, lv = g.lvl (q / 2) := ⟨_, rfl⟩
            have hlv2 : 1 ≤ lv ∧ lv ≤ d := by
              have h1 := hT.out.lvl e0 he0
              rw [hel0, neg_var] at h1
              rw [hlv, h1]; exact hT.out.lev e0 he0
            rw [← hlv] at hnew1 hopn
            have HNW : Hid (lv = g.lvl (q / 2) ∧ AI y g E d orig (k + 1) (if lv = d then L2 else L2 ++ [q]) (upd s2 (q / 2) true) (upd a2 (q / 2) true) (C.drop (i + 1)) ∧ opn E (k + 1) d (upd s2 (q / 2) true) = opn E (k + 1) d s2 + (if lv = d then 1 else 0)) := ⟨hlv, hnew1, hopn⟩
            have hgl : ∀ w' s' a', An y w0 g w' s' a' ow2 (.slice (some ⟨gm, 0, none⟩) lm2 cM2) (0 :: L2) → w'.cell? ⟨y.bs, 3, none⟩ = some (.slice (some ⟨y.bl, 0, none⟩) y.n y.n) ∧ w'.cell? ⟨y.bl, q / 2, none⟩ = some (i32 lv) := fun w' s' a' hh => ⟨by rw [hh.mem.sv.cell]; rfl, by rw [hh.mem.lvl.cell, tab_at hv2, hlv]⟩
            obtain ⟨c3, cl⟩ := hgl wr s2 a2 HJ.out.1
            have dlv : ((lv : Int) == 0) = false := by simp; omega
            have hdd : g.L.length = d := hT.out.dl
            have hbm : ∀ w1, An y w0 g w1 (upd s2 (q / 2) true) a2 ow2 (.slice (some ⟨gm, 0, none⟩) lm2 cM2) (0 :: L2) → Calls Try.prog 53 #[.pointer (some ⟨y.bs, 0, none⟩), i32 (q / 2)] w1 fun e w2 => e = .returned (.tuple #[]) ∧ Hid (An y w0 g w2 (upd s2 (q / 2) true) (upd a2 (q / 2) true) ow2 (.slice (some ⟨gm, 0, none⟩) lm2 cM2) (0 :: L2)) := fun w1 hh => by
              refine (bump hh.mem hh.below hn (q / 2) hv2 ha2).mono fun e w2 hp => ?_
              exact ⟨hp.1, hh.frame hp.2.out.2.1 hp.2.out.1 hp.2.out.2.2⟩
            have hdl : ∀ w' s' a', An y w0 g w' s' a' ow2 (.slice (some ⟨gm, 0, none⟩) lm2 cM2) (0 :: L2) → Calls Try.prog 47 #[.pointer (some ⟨y.bs, 0, none⟩)] w' fun e w'' => e = .returned (.int .i64 (d : Int)) ∧ w'' = w' := fun w' s' a' hh => by
              have e := decisionLevel hh.mem
              have hdd' : ({ g with seen := s', act := a', ow := ow2 } : Gh).L.length = d := hdd
              rw [hdd'] at e
              exact e
            clear hlv hnew1 hopn hai ha2 hel0 he0 hdd
            go_wp2_with (first
              | (go_at_call 25; refine (hlV _).mono ?_; rintro e w' ⟨rfl, rfl⟩)
              | (refine wpList_store_bk rfl 4 _ _ rfl y.bn (q / 2) rfl (.bool true) rfl rfl (by kernel_rfl) _ _ HJ.out.1.mem.seen (by simp; omega) ?_
                 intro w1 hw1
                 have HA1 : Hid (An y w0 g w1 (upd s2 (q / 2) true) a2 ow2 (.slice (some ⟨gm, 0, none⟩) lm2 cM2) (0 :: L2)) := by rw [hw1.out]; exact HJ.out.1.mark (q / 2) true
                 clear hw1)
              | (go_at_call 53; refine (hbm w1 HA1.out).mono ?_; rintro e w2 ⟨rfl, HA2⟩
                 obtain ⟨c32, cl2⟩ := hgl w2 _ _ HA2.out
                 have hdl2 : ∀ w', w'.heap = w2.heap → Calls Try.prog 47 #[.pointer (some ⟨y.bs, 0, none⟩)] w' fun e w'' => e = .returned (.int .i64 (d : Int)) ∧ w'' = w' := fun w' hh => by
                   have e := decisionLevel (w := w') (y := y) (g := { g with seen := upd s2 (q / 2) true, act := upd a2 (q / 2) true, ow := ow2 }) (by rw [hh]; exact HA2.out.mem)
                   have hdd' : ({ g with seen := upd s2 (q / 2) true, act := upd a2 (q / 2) true, ow := ow2 } : Gh).L.length = d := hT.out.dl
                   rw [hdd'] at e
                   exact e)
              | go_in)
            go_quiet (first | (go_at_call 47; refine Calls.quiet_of_same (hdl2 _ (by rfl))))
            by_cases hld : lv = d
            · have dld : ((lv : Int) == (d : Int)) = true := by simp; omega
              go_wp2
              go_roundg (nC - (i + 1))
              case measure => omega
              case rel =>
                have h1 := HNW.out.2.1
                have h2 := HNW.out.2.2
                rw [if_pos hld] at h1 h2
                exact ⟨upd s2 (q / 2) true, upd a2 (q / 2) true, ow2, L2, some ⟨gm, 0, none⟩, lm2, cM2, o2 + 1, i + 1, rfl, by go_num, by go_num, by omega, Nat.le_refl _, HA2.out.drew nq, h1, by rw [h2, ← HJ.out.2.2.1], .inl (by omega)⟩
            · have dld : ((lv : Int) == (d : Int)) = false := by simp; omega
              obtain ⟨i0, hi0, hz0, hz1, hz2⟩ := info_parts info33
              have ho3 : (w2.drewN nq).ownsRow y.base 33 1 (.slice (some ⟨gm, 0, none⟩) lm2 cM2) lm2 ((0 :: L2).map i32) := by
                have := (HA2.out.drew nq).row.owns
                rw [List.length_map, ← HLM.out] at this
                exact this
              have hbs3 : y.base ≤ (w2.drewN nq).heap.size := HA2.out.mem.base
              go_wp2_with (first
                | (at_builtin
                   refine wpList_append_own_at _ rfl _ _ 53 rfl y.base 33 i0 (.int .i32 0) 1 4 Try.underlying53 hi0 hz0 hz1 hz2 rfl (by decide) _ _ _ rfl (ho3.alloc _) ⟨(w2.drewN nq).heap.size, 0, none⟩ 1 1 [i32 q] rfl rfl (cell_one_new _ _ _) (ints_oneCell .i32 [(q : Int)]) (by unfold maxLen; omega) (by omega) (by simp at hbs3 ⊢; omega) ?_
                   intro v' w5 hown5 hg5 hnil5 hat5
                   have HP5 : Hid (An y w0 g w5 (upd s2 (q / 2) true) (upd a2 (q / 2) true) (owAt ow2 v' 11) v' ((0 :: L2) ++ [q])) :=
                     An.push (HA2.out.drew nq) ((World.grownBy_alloc _ _ _).trans hg5) hown5 (hat5.elim .inl (fun h => .inr ⟨_, h, by simp⟩))
                   clear hown5 hg5 hnil5 hat5)
                | go_in)
              go_roundg (nC - (i + 1))
              case measure => omega
              case rel =>
                have h1 := HNW.out.2.1
                have h2 := HNW.out.2.2
                rw [if_neg hld] at h1 h2
                obtain ⟨a', c', hv'⟩ := HP5.out.row.shape
                have hp5 := HP5.out
                rw [hv'] at hp5
                refine ⟨upd s2 (q / 2) true, upd a2 (q / 2) true, owAt ow2 (.slice a' (((0 :: L2) ++ [q]).map i32).length c') 11, L2 ++ [q], a', (((0 :: L2) ++ [q]).map i32).length, c', o2, i + 1, hv', rfl, by go_num, by omega, Nat.le_refl _, hp5, h1, by rw [h2, ← HJ.out.2.2.1]; rfl, ?_⟩
                have hor := HJ.out.2.2.2
                rw [HQ.out.1] at hor
                rcases hor with hor | ⟨x, hx, j, e, hj, he, hl, hlev⟩
                · exact .inl hor
                · rcases List.mem_cons.1 hx with rfl | hx
                  · exfalso
                    apply hld
                    rw [HNW.out.1, ← neg_var, ← hl, hT.out.lvl e (List.mem_of_getElem? he)]
                    exact hlev
                  · exact .inr ⟨x, hx, j, e, hj, he, hl, hlev⟩
        · have dl : decide ((i : Int) < (nC : Int)) = false := decide_eq_false (by omega)
          have HK0 : Hid (An y w0 g wr s2 a2 ow2 (.slice (some ⟨gm, 0, none⟩) lm2 cM2) (0 :: L2) ∧ AI y g E d orig (k + 1) L2 s2 a2 [] ∧ o2 = opn E (k + 1) d s2) := by
            have h1 := HJ.out.2.1
            rw [List.drop_eq_nil_of_le (by rw [← HCut.out.2.1]; omega)] at h1
            exact ⟨HJ.out.1, h1, HJ.out.2.2.1⟩
          have hop : 0 < o2 := by
            rcases HJ.out.2.2.2 with h1 | ⟨x, hx, _⟩
            · exact h1
            · rw [List.drop_eq_nil_of_le (by rw [← HCut.out.2.1]; omega)] at hx; simp at hx
          clear HJ
          go_wp2
          go_loopg [9] (k + 1) (fun gk3 s9 wr3 => ∃ k3 : Nat, s9 = .int .i64 (k3 : Int) ∧ k3 < gk3 ∧ k3 ≤ k ∧ Hid (An y w0 g wr3 s2 a2 ow2 (.slice (some ⟨gm, 0, none⟩) lm2 cM2) (0 :: L2) ∧ AI y g E d orig (k3 + 1) L2 s2 a2 [] ∧ o2 = opn E (k3 + 1) d s2))
          case atStart => exact ⟨k, rfl, Nat.lt_succ_self _, Nat.le_refl _, HK0⟩
          case round =>
            obtain ⟨k3, rfl, hk3, hk3k, HL⟩ := hrel
            clear HK0
            obtain ⟨e, he⟩ : ∃ e, E[k3]? = some e := ⟨_, List.getElem?_eq_getElem (by rw [← HT.out.2.2]; omega)⟩
            have heT : g.T[k3]? = some e.l := by rw [hT.out.T, List.getElem?_map, he]; rfl
            obtain ⟨gT, hgT, ctr⟩ := trail_at HL.out.1.mem (aT := aT) (t := t) (cT := cT) HT.out.1 heT
            have hee : e ∈ E := List.mem_of_getElem? he
            obtain ⟨p, hp⟩ : ∃ p, p = e.l := ⟨_, rfl⟩
            rw [← hp] at ctr
            have hp2 : p < 2 * y.n := by rw [hp]; exact hT.out.lt e hee
            have hpv : p / 2 < y.n := by omega
            have hlV := fun w => litVar p (by omega) w
            have c5 : wr.cell? ⟨y.bs, 5, none⟩ = some (.slice (some ⟨gT, 0, none⟩) t cT) := by
              rw [HL.out.1.mem.sv.cell, ← hgT, ← HT.out.1]; rfl
            have c14 : wr.cell? ⟨y.bs, 14, none⟩ = some (.slice (some ⟨y.bn, 0, none⟩) y.n y.n) := by rw [HL.out.1.mem.sv.cell]; rfl
            obtain ⟨sv, hsv⟩ : ∃ sv, s2 (p / 2) = sv := ⟨_, rfl⟩
            have cs : wr.cell? ⟨y.bn, p / 2, none⟩ = some (.bool sv) := by rw [HL.out.1.mem.seen.cell, tab_at hpv, ← hsv]
            have fs : wr.frozen? ⟨y.bn, p / 2, none⟩ = false := HL.out.1.mem.seen.frozen _
            have HE : Hid (E[k3]? = some e ∧ e ∈ E ∧ p = e.l ∧ s2 (p / 2) = sv) := ⟨he, hee, hp, hsv⟩
            clear he heT hgT hp hsv hee
            cases sv with
            | false =>
              go_wp2
              go_quiet (first | (go_at_call 25; refine Calls.quiet_of_same (hlV _)))
              go_wp2
              have hse : s2 (e.l / 2) = false := by rw [← HE.out.2.2.1]; exact HE.out.2.2.2
              have hsk := HL.out.2.1.skip hT.out HE.out.1 hse
              have hpos : 0 < opn E k3 d s2 := by rw [hsk.2, ← HL.out.2.2]; exact hop
              obtain ⟨k4, hk4⟩ : ∃ k4, k3 = k4 + 1 := by
                obtain ⟨j, _, hj, _⟩ := opn_pos hpos
                exact ⟨k3 - 1, by omega⟩
              go_roundg k3
              case measure => omega
              case rel =>
                subst hk4
                exact ⟨k4, by go_num, Nat.lt_succ_self _, by omega, HL.out.1.drew nq, hsk.1, by rw [hsk.2]; exact HL.out.2.2⟩
            | true =>
              have hse : s2 (e.l / 2) = true := by rw [← HE.out.2.2.1]; exact HE.out.2.2.2
              have hpop := HL.out.2.1.pop hT.out hC.out HE.out.1 hse (by rw [← HL.out.2.2]; exact hop)
              rw [← HE.out.2.2.1, ← HL.out.2.2] at hpop
              have HPO : Hid (o2 = opn E k3 d (upd s2 (p / 2) false) + 1 ∧
                (opn E k3 d (upd s2 (p / 2) false) = 0 → LOK y g E d orig p L2 ∧ ∀ v, upd s2 (p / 2) false v = true → v ∈ L2.map (· / 2)) ∧
                (0 < opn E k3 d (upd s2 (p / 2) false) → ∃ ci rest, ci < y.m ∧ e.rs = (ci : Int) ∧ g.cls ci = p :: rest ∧ AI y g E d orig k3 L2 (upd s2 (p / 2) false) a2 rest)) := hpop
              clear hpop hse
              go_wp2
              go_quiet (first | (go_at_call 25; refine Calls.quiet_of_same (hlV _)))
              go_wp2
              go_cut [] from 120 to 131 (fun wc => Hid (An y w0 g wc (upd s2 (p / 2) false) a2 ow2 (.slice (some ⟨gm, 0, none⟩) lm2 cM2) (0 :: L2)))
              case first =>
                go_region_with (go_at_call 25; refine (hlV _).mono ?_; rintro e w' ⟨rfl, rfl⟩)
                all_goals go_wp2
                all_goals go_meet
                all_goals exact (((HL.out.1.drew nq).mark (p / 2) false).drew 1)
              case rest =>
                clear c5 c14 cs fs ctr
                by_cases ho1 : o2 = 1
                · have do1 : ((o2 : Int) - 1 == 0) = true := by simp; omega
                  have HLK : Hid (LOK y g E d orig p L2 ∧ ∀ v, upd s2 (p / 2) false v = true → v ∈ L2.map (· / 2)) := HPO.out.2.1 (by have := HPO.out.1; omega)
                  obtain ⟨np, hnp⟩ : ∃ np, np = neg p := ⟨_, rfl⟩
                  have hno : ∀ w, Calls Try.prog 41 #[i32 p] w fun e w' => e = .returned (i32 np) ∧ w' = w := fun w => by rw [hnp]; exact litNot p (by omega) w
                  have HNP : Hid (np = neg p) := hnp
                  clear hnp
                  obtain ⟨gm', hgm', -, -, -, -, ⟨cur, hbk, hcur⟩, -⟩ := hcut.out.pos (by simp)
                  injection hgm' with hgm'
                  injection hgm' with hgm'
                  subst hgm'
                  have hlp : 1 ≤ lm2 := by rw [HLM.out]; simp
                  go_wp2_with (first
                    | (go_at_call 41; refine (hno _).mono ?_; rintro e w' ⟨rfl, rfl⟩)
                    | (refine wpList_store_bk rfl 33 _ _ rfl gm 0 rfl (i32 np) rfl rfl (by kernel_rfl) _ _ hbk (by omega) ?_
                       intro w6 hw6
                       have HA6 : Hid (An y w0 g w6 (upd s2 (p / 2) false) a2 ow2 (.slice (some ⟨gm, 0, none⟩) lm2 cM2) (np :: L2)) := by rw [hw6.out]; exact hcut.out.poke 0 np
                       clear hw6)
                    | go_in)
                  clear hno hbk hcur
                  go_loopg [14, 15] lm2 (fun gk4 s14 s15 wr4 => ∃ (s4 : Nat → Bool) (M : List Nat) (back j : Nat), s14 = .int .i64 (back : Int) ∧ s15 = .int .i64 (j : Int) ∧ 1 ≤ j ∧ j ≤ lm2 ∧ lm2 - j ≤ gk4 ∧ back ≤ d ∧ Hid (M.length = lm2 ∧ An y w0 g wr4 s4 a2 ow2 (.slice (some ⟨gm, 0, none⟩) lm2 cM2) M ∧ FL g (np :: L2) M j s4 back))
                  case atStart =>
                    exact ⟨upd s2 (p / 2) false, np :: L2, 0, 1, rfl, rfl, Nat.le_refl _, hlp, by omega, Nat.zero_le _, by rw [HLM.out]; rfl, HA6.out, FL.start HLK.out.2⟩
                  case round =>
                    obtain ⟨s4, M, back, j, rfl, rfl, hj1, hjl, hjk, hbd, HM⟩ := hrel
                    clear HA6
                    by_cases hjm : j < lm2
                    · obtain ⟨x, hx⟩ : ∃ x, x = M.getD j 0 := ⟨_, rfl⟩
                      obtain ⟨x1, hx1⟩ : ∃ x1, x1 = M.getD 1 0 := ⟨_, rfl⟩
                      have hnd4 : ((np :: L2).map (· / 2)).Nodup := by rw [HNP.out]; exact HLK.out.1.nd
                      have hMl := HM.out.1
                      have hlows : ∀ i, 1 ≤ i → i < M.length → M.getD i 0 < 2 * y.n ∧ neg (M.getD i 0) ∈ g.T ∧ 1 ≤ g.lvl (M.getD i 0 / 2) ∧ g.lvl (M.getD i 0 / 2) < d := fun i h1 h2 => HLK.out.1.lows hT.out _ (HM.out.2.2.tail hnd4 h1 h2)
                      have hxl := hlows j hj1 (by omega)
                      rw [← hx] at hxl
                      have hst := HM.out.2.2.step hj1 (by omega) (fun i h1 h2 => (hlows i h1 h2).2.2.1)
                      rw [← hx] at hst
                      obtain ⟨lv, hlv⟩ : ∃ lv, lv = g.lvl (x / 2) := ⟨_, rfl⟩
                      rw [← hlv] at hst hxl
                      obtain ⟨hx2, -, hlv1, hlvd⟩ := hxl
                      have hxv : x / 2 < y.n := by omega
                      have hlX := fun w => litVar x (by omega) w
                      have hMj : M[j]? = some x := by rw [hx, List.getD, List.getElem?_eq_getElem (by omega)]; rfl
                      have hM1 : M[1]? = some x1 := by rw [hx1, List.getD, List.getElem?_eq_getElem (by omega)]; rfl
                      obtain ⟨gm4, hgm4, -, -, -, -, -, hcell4⟩ := HM.out.2.1.pos (by omega)
                      injection hgm4 with hgm4
                      injection hgm4 with hgm4
                      subst hgm4
                      have cj4 := (hcell4 j x hMj).1
                      have c14 : wr.cell? ⟨y.bs, 14, none⟩ = some (.slice (some ⟨y.bn, 0, none⟩) y.n y.n) := by rw [HM.out.2.1.mem.sv.cell]; rfl
                      obtain ⟨vs, cs⟩ : ∃ vs, wr.cell? ⟨y.bn, x / 2, none⟩ = some vs := ⟨_, by rw [HM.out.2.1.mem.seen.cell, tab_at hxv]⟩
                      have fs : wr.frozen? ⟨y.bn, x / 2, none⟩ = false := HM.out.2.1.mem.seen.frozen _
                      have HX4 : Hid (x = M.getD j 0 ∧ x1 = M.getD 1 0 ∧ M[j]? = some x ∧ M[1]? = some x1 ∧ lv = g.lvl (x / 2)) := ⟨hx, hx1, hMj, hM1, hlv⟩
                      have HST : Hid ((back < lv → FL g (np :: L2) (swp M 1 j) (j + 1) (upd s4 (x / 2) false) lv) ∧ (¬ back < lv → FL g (np :: L2) M (j + 1) (upd s4 (x / 2) false) back)) := hst
                      clear hx hx1 hMj hM1 hst hlows hcell4 hMl hlv
                      go_wp2
                      go_cut [] from 152 to 179 (fun wc => Hid (An y w0 g wc (upd s4 (x / 2) false) a2 ow2 (.slice (some ⟨gm, 0, none⟩) lm2 cM2) M))
                      case first =>
                        go_region_with (go_at_call 25; refine (hlX _).mono ?_; rintro e w' ⟨rfl, rfl⟩)
                        all_goals go_wp2
                        all_goals go_meet
                        all_goals exact ((HM.out.2.1.mark (x / 2) false).drew 1)
                      case rest =>
                        clear c14 cs fs cj4
                        obtain ⟨gm5, hgm5, -, -, -, -, -, hcell5⟩ := hcut.out.pos (by have := HM.out.1; omega)
                        injection hgm5 with hgm5
                        injection hgm5 with hgm5
                        subst hgm5
                        obtain ⟨cj5, fj5⟩ := hcell5 j x HX4.out.2.2.1
                        obtain ⟨c15, f15⟩ := hcell5 1 x1 HX4.out.2.2.2.1
                        have c3 : wc.cell? ⟨y.bs, 3, none⟩ = some (.slice (some ⟨y.bl, 0, none⟩) y.n y.n) := by rw [hcut.out.mem.sv.cell]; rfl
                        have cl : wc.cell? ⟨y.bl, x / 2, none⟩ = some (i32 lv) := by rw [hcut.out.mem.lvl.cell, tab_at hxv, HX4.out.2.2.2.2]
                        clear hcell5
                        go_wp2
                        go_quiet (first | (go_at_call 25; refine Calls.quiet_of_same (hlX _)))
                        by_cases hbl : back < lv
                        · have dbl : decide ((back : Int) < (lv : Int)) = true := decide_eq_true (by omega)
                          by_cases hj : j = 1
                          · subst hj
                            go_wp2
                            go_region
                            all_goals go_wp2
                            all_goals go_roundg (lm2 - (1 + 1))
                            case measure => omega
                            case rel =>
                              have hsw : (M.set 1 x1).set 1 x1 = swp M 1 1 := by unfold swp; rw [← HX4.out.2.1]
                              refine ⟨upd s4 (x / 2) false, swp M 1 1, lv, 1 + 1, rfl, by go_num, by omega, by omega, Nat.le_refl _, by omega, by unfold swp; rw [List.length_set, List.length_set]; exact HM.out.1, ?_, HST.out.1 hbl⟩
                              rw [← hsw]
                              exact ((hcut.out.drew (nq + 1)).poke 1 x1).poke 1 x1
                          · have hjne : ¬ 1 = j := fun e => hj e.symm
                            go_wp2
                            go_region
                            all_goals go_wp2
                            all_goals go_roundg (lm2 - (j + 1))
                            case measure => omega
                            case rel =>
                              have hsw : (M.set 1 x).set j x1 = swp M 1 j := by unfold swp; rw [← HX4.out.1, ← HX4.out.2.1]
                              refine ⟨upd s4 (x / 2) false, swp M 1 j, lv, j + 1, rfl, by go_num, by omega, by omega, Nat.le_refl _, by omega, by unfold swp; rw [List.length_set, List.length_set]; exact HM.out.1, ?_, HST.out.1 hbl⟩
                              rw [← hsw]
                              exact ((hcut.out.drew (nq + 1)).poke 1 x).poke j x1
                        · have dbl : decide ((back : Int) < (lv : Int)) = false := decide_eq_false (by omega)
                          go_wp2
                          go_roundg (lm2 - (j + 1))
                          case measure => omega
                          case rel =>
                            exact ⟨upd s4 (x / 2) false, M, back, j + 1, rfl, by go_num, by omega, by omega, Nat.le_refl _, hbd, HM.out.1, hcut.out.drew nq, HST.out.2 hbl⟩
                    · have dl : decide ((j : Int) < (lm2 : Int)) = false := decide_eq_false (by omega)
                      go_wp2
                      go_ret2
                      refine ⟨.slice (some ⟨gm, 0, none⟩) lm2 cM2, back, rfl, M, s4, a2, ow2, p, L2, HM.out.2.1, HLK.out.1, ?_⟩
                      rw [← HNP.out, HM.out.1, ← show j = lm2 by omega]
                      exact HM.out.2.2
                · have do1 : ((o2 : Int) - 1 == 0) = false := by simp; omega
                  have c4 : wc.cell? ⟨y.bs, 4, none⟩ = some (.slice (some ⟨y.br, 0, none⟩) y.n y.n) := by rw [hcut.out.mem.sv.cell]; rfl
                  obtain ⟨cj', rest, hcj', hrs, hcl', hai'⟩ := HPO.out.2.2 (by have := HPO.out.1; omega)
                  have cr : wc.cell? ⟨y.br, p / 2, none⟩ = some (i32 cj') := by
                    rw [hcut.out.mem.rsn.cell, tab_at hpv]
                    show some (Value.int .i32 (g.rsn (p / 2))) = _
                    rw [HE.out.2.2.1, hT.out.rsn e HE.out.2.1, hrs]
                  have HX : Hid (g.cls cj' = p :: rest ∧ AI y g E d orig k3 L2 (upd s2 (p / 2) false) a2 rest) := ⟨hcl', hai'⟩
                  clear hrs hcl' hai'
                  have hkp : 0 < k3 := by
                    have hpos : 0 < opn E k3 d (upd s2 (p / 2) false) := by have := HPO.out.1; omega
                    obtain ⟨j, _, hj, _⟩ := opn_pos hpos
                    omega
                  go_wp2
                  go_quiet (first | (go_at_call 25; refine Calls.quiet_of_same (hlV _)))
                  go_wp2
                  go_roundg k3
                  case measure => omega
                  case rel =>
                    refine ⟨upd s2 (p / 2) false, a2, ow2, L2, rest, some ⟨gm, 0, none⟩, lm2, cM2, o2 - 1, k3 - 1, cj', (p : Int), rfl, rfl, by rw [show ((o2 - 1 : Nat) : Int) = (o2 : Int) - 1 by omega], rfl, by rw [show ((k3 - 1 : Nat) : Int) = (k3 : Int) - 1 by omega], by omega, by omega, (hcut.out.drew nq), ?_, ?_, hcj', .inr ⟨by omega, p, HX.out.1⟩, .inl (by omega)⟩
                    · rw [show k3 - 1 + 1 = k3 by omega]; exact HX.out.2
                    · rw [show k3 - 1 + 1 = k3 by omega]; have := HPO.out.1; omega

end Go.Proofs.Qxb6600345a
