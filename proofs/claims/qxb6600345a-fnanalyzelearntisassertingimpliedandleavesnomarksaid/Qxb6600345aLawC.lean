/-
  DERIVED. Seat b6600345a: the law, walked.
-/
import Derived.Test.Qxb6600345aLawB
namespace Go.Proofs.Qxb6600345a
open Go.RowKit
set_option linter.unusedVariables false
set_option linter.unusedSimpArgs false
attribute [local go_sem ↓] Go.wp_at_zero Go.wp_at_succ

/-- build, then run, over copies. -/
theorem runs {w3 w4 : World} {n m : Nat} {aK aD : Option Addr} {orig : Nat → List Nat} {D : List Nat} {nD bs : Nat} (hK : ClM w3 w3.heap.size aK m orig) (hn : n ≤ 4096) (hm : m ≤ 65536) (htwo : ∀ ci, ci < m → 2 ≤ (orig ci).length) (hbig : ∀ ci, ci < m → (orig ci).length ≤ 1000000) (hlt : ∀ ci, ci < m → ∀ x ∈ orig ci, x < 2 * n) (hnd : ∀ ci, ci < m → ((orig ci).map (· / 2)).Nodup)
    (hnD : nD = D.length) (hlD : nD ≤ 262144) (hDl : ∀ x ∈ D, x < 2 * n) (hD : D = [] ∨ ∃ b, aD = some ⟨b, 0, none⟩ ∧ Bk w3.heap b 21 (D.map i32).toArray)
    (hb : ∃ bcl bw w1 cb ow1 W vW ow b3 b5 b7 b9 b11 b13, Bd w3 n m bcl bw orig m w1 cb ow1 W vW ∧ WB n orig m W ∧ NS n (.slice (some ⟨bcl, 0, none⟩) m m) (.slice (some ⟨bw, 0, none⟩) (2 * n) (2 * n)) w1 ow1 w4 ow bs b3 b5 b7 b9 b11 b13) :
    Calls Try.prog 22 #[.pointer (some ⟨bs, 0, none⟩), .slice aD nD nD] w4 fun e w' => ∃ x : Int, e = .returned (.int .i32 x) ∧ -1 ≤ x ∧ Hid (Below w3.heap.size w3 w' ∧ (x = -1 ∨ ∃ ci y g E d, x = ((ci : Nat) : Int) ∧ Run w3 w' y orig n m bs aK g E d ci)) := by
  obtain ⟨bcl, bw, w1, cb, ow1, W, vW, ow, b3, b5, b7, b9, b11, b13, hB, hWB, hN⟩ := hb
  obtain ⟨hPI, hPW⟩ := built hB hWB hN htwo hbig hlt hnd
  refine (run hPI hPW rfl hn hm D aD nD hnD hlD hDl ?_).mono fun e w' hp => ?_
  · intro i x hx
    rcases hD with h0 | ⟨b, h1, h2⟩
    · rw [h0] at hx; simp at hx
    · exact ⟨b, h1, h2.lt, by rw [h2.cell]; simp [hx]⟩
  · obtain ⟨g, E, d, h1, h2, h3, h4, h5⟩ := hp
    have hbel : Below w3.heap.size w3 w' := h1.below
    rcases h5 with rfl | ⟨ci, rfl, h6, h7⟩
    · exact ⟨-1, rfl, by omega, hbel, .inl rfl⟩
    · exact ⟨(ci : Int), rfl, by omega, hbel, .inr ⟨ci, _, g, E, d, rfl, h1, h6, rfl, rfl, rfl, rfl, fun v => by rw [h3]; rfl, fun v => by rw [h4]; rfl, h7, h2, hK⟩⟩

/-- What the law looks at in its last loop. -/
structure LS (y : Sv) (w3 : World) (g : Gh) (s a : Nat → Bool) (ow : Nat → Nat) (gm lm cM bt bu d back : Nat) (M : List Nat) (wr : World) (low j : Nat) (tk : Nat → Bool) (f : Nat → Nat) : Prop where
  an : An y w3 g wr s a ow (.slice (some ⟨gm, 0, none⟩) lm cM) M
  tkb : Bk wr.heap bt 4 (tab y.n fun v => .bool (tk v))
  un : Bk wr.heap bu 31 (tab y.n fun v => .int .i8 (f v : Int))
  li : LI y.n g d back M j low tk f

/-- The constant part. -/
structure LC (y : Sv) (g : Gh) (ow : Nat → Nat) (gm lm bt bu d back : Nat) (M : List Nat) : Prop where
  lf : LF y.n g d back M
  hl : lm = M.length
  tt : ow bt = 13 ∧ y.base ≤ bt
  tu : ow bu = 15 ∧ y.base ≤ bu

theorem analyzed {y : Sv} {orig : Nat → List Nat} {g : Gh} {E : List En} {d : Nat} {w w0 : World} {ci : Nat} (h : PI y orig w0 w g E d) (hc : Confl y g E d ci) (hs0 : ∀ v, g.seen v = false) (ha0 : ∀ v, g.act v = false) (hn : y.n ≤ 4096) (hm : y.m ≤ 65536) (hd : 1 ≤ d) (hd2 : d < 1000000) :
    Calls Try.prog 34 #[.pointer (some ⟨y.bs, 0, none⟩), i32 ci] w fun e w' => ∃ gm lm cM back, e = .returned (.tuple #[.slice (some ⟨gm, 0, none⟩) lm cM, .int .i64 (back : Nat)]) ∧ 1 ≤ lm ∧ lm ≤ y.n ∧ back < d ∧
      Hid (∃ M s a ow, An y w0 g w' s a ow (.slice (some ⟨gm, 0, none⟩) lm cM) M ∧ lm = M.length ∧ LF y.n g d back M ∧ (∀ u, s u = false) ∧ ∀ a', Closed y.m orig a' → (∀ x ∈ M, lval a' x = 2) → False) := by
  refine (zzAnalyze h hc hs0 ha0 hn hm hd hd2).mono fun e w' hp => ?_
  obtain ⟨v, back, rfl, hh⟩ := hp
  obtain ⟨M, s, a, ow, p, L, hA⟩ := hh.out
  obtain ⟨hF, hs, hi⟩ := hA.facts h.tok hd
  obtain ⟨aM, cM, rfl⟩ := hA.an.row.shape
  obtain ⟨gm, rfl, hl, -, -, -, -, -⟩ := hA.an.pos hF.pos
  have hl' : ((M.map i32).length) = M.length := List.length_map _
  refine ⟨gm, _, cM, back, rfl, ?_, ?_, hF.bd, M, s, a, ow, hA.an, hl', hF, hs, hi⟩
  · rw [hl']; exact hF.pos
  · rw [hl']; exact hF.len

set_option maxRecDepth 100000 in
set_option maxHeartbeats 8000000 in
theorem law {w : World} {n : Int} {aC : Option Addr} {m cC : Nat} {A : Nat → Option Addr} {L C : Nat → Nat} {Z : Nat → List Int} (h : Cl2 w aC m A L C Z) (hnilC : aC = none → m = 0) {aD : Option Addr} {nD cD : Nat} {zD : List Int} (hD : RowI w aD nD zD) (hnilD : aD = none → nD = 0) (hmD : nD ≤ maxLen) (hlD : nD ≤ zD.length) (hwD : ∀ z ∈ zD, -2147483648 ≤ z ∧ z < 2147483648) :
    Calls Try.prog 6 #[.int .i64 n, .slice aC m cC, .slice aD nD cD] w fun e w' => e = .returned (.bool true) ∧ Below w.heap.size w w' := by
  have HC : Hid (Cl2 w aC m A L C Z ∧ (aC = none → m = 0)) := ⟨h, hnilC⟩
  have HD : Hid (RowI w aD nD zD ∧ (aD = none → nD = 0) ∧ nD ≤ zD.length ∧ ∀ z ∈ zD, -2147483648 ≤ z ∧ z < 2147483648) := ⟨hD, hnilD, hlD, hwD⟩
  have h36 := zzBytes (n := n) (cC := cC) h aD nD cD hmD
  have h10 := bytesWithin (cC := cC) h aD nD cD hmD
  have hmx := h.mx
  unfold maxLen at hmx hmD
  clear h hD hnilC hnilD hlD hwD
  go_enter Try.func6, Try.ntmps6
  go_upto_if 23 with (go_at_call 36; refine h36.mono ?_; rintro e w' ⟨b, rfl, rfl⟩)
  cases b with
  | false =>
    go_wp2
    go_ret
    exact ⟨rfl, below_refl _ _⟩
  | true =>
    go_upto_if 27 with (go_at_call 10; refine h10.mono ?_; rintro e w1 ⟨b, rfl, rfl, hL⟩)
    cases b with
    | false =>
      go_wp2
      go_ret
      exact ⟨rfl, below_refl _ _⟩
    | true =>
      have HLL : Hid (∀ r, r < m → L r ≤ 262144) := hL.out rfl
      clear h36 h10 hL
      by_cases hm : m ≤ 65536
      · by_cases hnD : nD ≤ 262144
        · by_cases hn1 : 1 ≤ n
          · by_cases hn2 : n ≤ 4096
            · obtain ⟨nn, rfl⟩ : ∃ nn : Nat, n = (nn : Int) := ⟨n.toNat, by omega⟩
              have h11 := wellFormed (n := nn) (cC := cC) (cD := cD) HC.out.1 HLL.out hm (by omega) (by omega) HD.out.1 hnD HD.out.2.2.1 HD.out.2.2.2
              go_upto_if 46 with (go_at_call 11; refine h11.mono ?_; rintro e w2 ⟨b, rfl, hb2⟩)
              cases b with
              | false =>
                go_wp2
                go_ret
                exact ⟨rfl, hb2.out.1⟩
              | true =>
                clear h11
                have hok := hb2.out.2 rfl
                have HB2 : Hid (Below w1.heap.size w1 w2) := hb2.out.1
                obtain ⟨orig, horig⟩ : ∃ o : Nat → List Nat, o = fun r => litsOf (L r) (Z r) := ⟨_, rfl⟩
                obtain ⟨D, hDD⟩ : ∃ D : List Nat, D = litsOf nD zD := ⟨_, rfl⟩
                have HO : Hid ((∀ ci, ci < m → 2 ≤ (orig ci).length) ∧ (∀ ci, ci < m → (orig ci).length ≤ 1000000) ∧ (∀ ci, ci < m → ∀ x ∈ orig ci, x < 2 * nn) ∧ (∀ ci, ci < m → ((orig ci).map (· / 2)).Nodup)) := by
                  have hg := fun r (hr : r < m) => (hok.good r hr).lits (HC.out.1.len r hr)
                  refine ⟨fun r hr => ?_, fun r hr => ?_, fun r hr => ?_, fun r hr => ?_⟩
                  · rw [horig]; exact (hg r hr).1
                  · rw [horig]; show (litsOf (L r) (Z r)).length ≤ _; rw [litsOf_len (HC.out.1.len r hr)]; have := HLL.out r hr; omega
                  · rw [horig]; exact (hg r hr).2.1
                  · rw [horig]; exact (hg r hr).2.2
                have HDD : Hid (nD = D.length ∧ (∀ x ∈ D, x < 2 * nn) ∧ (aD = none → D = []) ∧ ∀ w3, Below w1.heap.size w1 w3 → RowN w3 w1.heap.size aD D) := by
                  refine ⟨by rw [hDD, litsOf_len HD.out.2.2.1], fun x hx => ?_, fun e => ?_, fun w3 hb => ?_⟩
                  · rw [hDD] at hx
                    obtain ⟨i, hi, rfl⟩ := litsOf_mem HD.out.2.2.1 hx
                    have := hok.dec i hi
                    show (zD.getD i 0).toNat < 2 * nn
                    omega
                  · exact List.eq_nil_of_length_eq_zero (by rw [hDD, litsOf_len HD.out.2.2.1]; exact HD.out.2.1 e)
                  · rw [hDD]; exact rowN_of HD.out.1 HD.out.2.2.1 hok.dec hb
                have h12 := cloneClauses (w := w2) (cC := cC) (by have e := cl3_of (n := nn) HC.out.1 hok.good hb2.out.1; rw [← horig] at e; exact e) hm HC.out.2 HO.out.1 HO.out.2.1
                have h13 : ∀ w3, Below w2.heap.size w2 w3 → Calls Try.prog 13 #[.slice aD nD cD] w3 fun e w' => ClPost w3 nD D e w' := fun w3 hb =>
                  cloneInt32 (N := w1.heap.size) HDD.out.1 HDD.out.2.2.1 (HDD.out.2.2.2 w3 (below_trans HB2.out hb HB2.out.size)) (Nat.le_trans HB2.out.size hb.size) (by omega)
                have h14 : ∀ w4 aK, ClM w4 w4.heap.size aK m orig → _ := fun w4 aK hk => build (n := nn) hk (by omega) hm HO.out.1 HO.out.2.1 HO.out.2.2.1 HO.out.2.2.2
                have h22 := fun (w4 w5 : World) (aK aE : Option Addr) (bs : Nat) (hk : ClM w4 w4.heap.size aK m orig) (hd : D = [] ∨ ∃ b, aE = some (⟨b, 0, none⟩ : Addr) ∧ Bk w4.heap b 21 (D.map i32).toArray) => runs (w3 := w4) (w4 := w5) (n := nn) (m := m) (aK := aK) (aD := aE) (orig := orig) (D := D) (nD := nD) (bs := bs) hk (by omega) hm HO.out.1 HO.out.2.1 HO.out.2.2.1 HO.out.2.2.2 HDD.out.1 hnD HDD.out.2.1 hd
                clear hok hb2 horig hDD HC HD HLL
                go_upto_if 58 with (first
                  | (go_at_call 12; refine h12.mono ?_; rintro e w3 ⟨aK, rfl, hk3⟩)
                  | (go_at_call 13; refine (h13 w3 hk3.out.1).mono ?_; rintro e w4 ⟨aE, rfl, hk4⟩
                     have HK4 : Hid (Below w1.heap.size w1 w4 ∧ ClM w4 w4.heap.size aK m orig ∧ (D = [] ∨ ∃ b, aE = some ⟨b, 0, none⟩ ∧ Bk w4.heap b 21 (D.map i32).toArray)) := by
                       refine ⟨below_trans (below_trans HB2.out hk3.out.1 HB2.out.size) hk4.out.1 (Nat.le_trans HB2.out.size hk3.out.1.size), (hk3.out.2.mono hk4.out.1).weaken hk4.out.1.size, ?_⟩
                       rcases hk4.out.2 with h0 | ⟨b, h1, h2, h3⟩
                       · exact .inl h0
                       · exact .inr ⟨b, h1, h3⟩)
                  | (go_at_call 14; refine (h14 w4 aK HK4.out.2.1).mono ?_; rintro e w5 ⟨bs, rfl, hk5⟩)
                  | (go_at_call 22; refine (h22 w4 w5 aK aE bs HK4.out.2.1 HK4.out.2.2 hk5.out).mono ?_; rintro e w6 ⟨x, rfl, hx1, hk6⟩)
                  | go_in)
                by_cases hx0 : x = -1
                · have dx : decide (x < 0) = true := decide_eq_true (by omega)
                  go_wp2
                  go_ret
                  exact ⟨rfl, below_trans HK4.out.1 hk6.out.1 HK4.out.1.size⟩
                · have dx : decide (x < 0) = false := decide_eq_false (by omega)
                  obtain ⟨ci, y, g, E, d, rfl, hR⟩ : ∃ ci y g E d, x = ((ci : Nat) : Int) ∧ Run w4 w6 y orig nn m bs aK g E d ci := by
                    rcases hk6.out.2 with h0 | h0
                    · exact absurd h0 hx0
                    · exact h0
                  have hB14 : Hid (Below w1.heap.size w1 w4) := HK4.out.1
                  clear h12 h13 h14 h22 hk3 hk4 hk5 hk6 HK4 HB2 HO HDD hx0 hx1
                  obtain ⟨hPI, hcf, rfl, rfl, rfl, hbase, hseen, hact, hd1, hd2, hclm⟩ := hR
                  have hcm : ci < y.m := hcf.1
                  have hn6 : y.n ≤ 4096 := by omega
                  have h28 : Calls Try.prog 28 #[.pointer (some ⟨y.bs, 0, none⟩)] w6 fun e w' => e = .returned (.int .i64 (d : Int)) ∧ w' = w6 := by
                    have e := zzDecisionLevel hPI.mem
                    rw [hPI.tok.dl] at e
                    exact e
                  have h34 := analyzed hPI hcf hseen hact hn6 hm hd1 (by omega)
                  have HT : Hid (TOK y g E d ∧ COK y g.cls orig ∧ y.base = w4.heap.size ∧ ClM w4 w4.heap.size aK y.m orig) := ⟨hPI.tok, hPI.cok, hbase, hclm⟩
                  have dcm : decide ((y.m : Int) ≤ (ci : Int)) = false := decide_eq_false (by omega)
                  clear hPI hcf hseen hact hbase hclm
                  go_wp2_with (first
                    | (go_at_call 28; refine h28.mono ?_; rintro e w7 ⟨rfl, rfl⟩)
                    | (go_at_call 34; refine h34.mono ?_; rintro e w8 ⟨gm, lm, cM, back, rfl, hlm1, hlm2, hbd, hk8⟩
                       have dl0 : ((lm : Int) == 0) = false := by simp; omega
                       have dln : decide ((y.n : Int) < (lm : Int)) = false := decide_eq_false (by omega))
                    | (refine wpList_mk rfl 50 _ rfl y.n rfl 4 Try.underlying50 (.bool false) 1 info4 rfl (by omega) (by omega) ?_
                       intro w9 bt hw9)
                    | (refine wpList_mk rfl 30 _ rfl y.n rfl 31 Try.underlying30 (.int .i8 0) 1 info31 rfl (by omega) (by omega) ?_
                       intro w10 bu hw10)
                    | go_in)
                  obtain ⟨M, sn, ac, ow0, hAn, hlM, hLF, hsn, himp⟩ := hk8.out
                  obtain ⟨ow, how⟩ : ∃ ow, ow = upd (upd ow0 bt 13) bu 15 := ⟨_, rfl⟩
                  have HS : Hid (LS y w4 g sn ac ow gm lm cM bt bu d back M w10 0 0 (fun _ => false) (fun _ => 0) ∧ LC y g ow gm lm bt bu d back M) := by
                    obtain ⟨e1, e2⟩ := hw9.out
                    obtain ⟨e3, e4⟩ := hw10.out
                    have a9 : An y w4 g w9 sn ac (upd ow0 bt 13) (.slice (some ⟨gm, 0, none⟩) lm cM) M := by rw [e1, e2]; exact hAn.fresh _ 13 (by omega)
                    have a10 : An y w4 g w10 sn ac ow (.slice (some ⟨gm, 0, none⟩) lm cM) M := by rw [how, e3, e4]; exact a9.fresh _ 15 (by omega)
                    have b9 : Bk w9.heap bt 4 (tab y.n fun _ => .bool false) := by rw [e1, e2]; exact heap_alloc_new w8 _
                    have b10 : Bk w10.heap bu 31 (tab y.n fun _ => .int .i8 0) := by rw [e3, e4]; exact heap_alloc_new w9 _
                    have hne : bt ≠ bu := by have := b9.lt; omega
                    refine ⟨⟨a10, ?_, b10, LI.start⟩, ⟨hLF, hlM, ⟨by rw [how, upd_ne _ _ hne]; exact upd_same _ _ _, ?_⟩, ⟨by rw [how]; exact upd_same _ _ _, ?_⟩⟩⟩
                    · rw [e3]; exact (Below.heap_alloc w9 _ _ b9.lt).trans b9
                    · rw [e2]; exact hAn.mem.base
                    · rw [e4]; exact a9.mem.base
                  have HX : Hid ((∀ u, sn u = false) ∧ ∀ a', Closed y.m orig a' → (∀ x ∈ M, lval a' x = 2) → False) := ⟨hsn, himp⟩
                  clear hk8 hAn hlM hLF hsn himp how hw9 hw10 h28 h34 dcm
                  go_loopg [14, 15] lm (fun k s14 s15 wr => ∃ (low j : Nat) (tk : Nat → Bool) (f : Nat → Nat), s14 = i32 low ∧ s15 = .int .i64 (j : Int) ∧ j ≤ lm ∧ lm - j ≤ k ∧ low ≤ back ∧ Hid (LS y w4 g sn ac ow gm lm cM bt bu d back M wr low j tk f ∧ LC y g ow gm lm bt bu d back M))
                  case atStart => exact ⟨0, 0, _, _, rfl, rfl, Nat.zero_le _, Nat.le_refl _, Nat.zero_le _, HS⟩
                  case round =>
                    obtain ⟨low, j, tk, f, rfl, rfl, hj, hjk, hlow, HJ⟩ := hrel
                    clear HS
                    by_cases hjl : j < lm
                    · have hjM : j < M.length := by rw [← HJ.out.2.hl]; exact hjl
                      obtain ⟨x, hx⟩ : ∃ x, x = M.getD j 0 := ⟨_, rfl⟩
                      have hMj : M[j]? = some x := by rw [hx, List.getD, List.getElem?_eq_getElem hjM]; rfl
                      have hx2 : x < 2 * y.n := by rw [hx]; exact HJ.out.2.lf.lt j hjM
                      have hval : lval g.asg x = 2 := by rw [hx]; exact HJ.out.2.lf.val j hjM
                      obtain ⟨lv, hlv⟩ : ∃ lv, lv = g.lvl (x / 2) := ⟨_, rfl⟩
                      have hlvd : (j = 0 → lv = d) ∧ (1 ≤ j → 1 ≤ lv ∧ lv < d ∧ lv ≤ back) := by
                        refine ⟨fun e => ?_, fun e => ?_⟩
                        · subst e; rw [hlv, hx]; exact HJ.out.2.lf.hd
                        · rw [hlv, hx]; exact HJ.out.2.lf.tl j e hjM
                      have hxv : x / 2 < y.n := by omega
                      have hlX := fun w => litVar x (by omega) w
                      have htv := fun w => trueValue x (by omega) w
                      obtain ⟨tz, htz⟩ : ∃ tz, tz = 1 + x % 2 := ⟨_, rfl⟩
                      rw [← htz] at htv
                      have htz1 : 1 ≤ tz ∧ tz ≤ 2 := by omega
                      obtain ⟨gm1, hgm1, -, -, -, -, -, hcell1⟩ := HJ.out.1.an.pos (by omega)
                      injection hgm1 with hgm1
                      injection hgm1 with hgm1
                      subst hgm1
                      have cx := (hcell1 j x hMj).1
                      have htk : tk (x / 2) = false := (HJ.out.1.li.step HJ.out.2.lf hjM (low' := if j = 0 then low else if low < g.lvl (x / 2) then g.lvl (x / 2) else low) hx (by
                        by_cases e : j = 0
                        · rw [if_pos e]; exact .inl ⟨e, rfl⟩
                        · rw [if_neg e]
                          refine .inr ⟨by omega, ?_⟩
                          by_cases e2 : low < g.lvl (x / 2)
                          · rw [if_pos e2]; exact .inl ⟨e2, rfl⟩
                          · rw [if_neg e2]; exact .inr ⟨by omega, rfl⟩)).1
                      have ct : wr.cell? ⟨bt, x / 2, none⟩ = some (.bool false) := by rw [HJ.out.1.tkb.cell, tab_at hxv, htk]
                      have hasg : ∀ v, g.asg v ≤ 2 := fun v => by rw [HT.out.1.asg]; exact asgOf_le _ _
                      have h15 : ∀ w', An y w4 g w' sn ac ow (.slice (some ⟨gm, 0, none⟩) lm cM) M → Calls Try.prog 15 #[.pointer (some ⟨y.bs, 0, none⟩), i32 x] w' fun e w'' => e = .returned (.int .i8 2) ∧ Hid (∃ q, w'' = w'.drewN q) := fun w' hh => by
                        have e := zzLitValue hh.mem hn6 x hx2 (hasg _)
                        have hv : lval ({ g with seen := sn, act := ac, ow := ow } : Gh).asg x = 2 := hval
                        rw [hv] at e
                        exact e
                      have h27 : ∀ w', An y w4 g w' sn ac ow (.slice (some ⟨gm, 0, none⟩) lm cM) M → Calls Try.prog 27 #[.pointer (some ⟨y.bs, 0, none⟩), i32 (x / 2)] w' fun e w'' => e = .returned (i32 lv) ∧ w'' = w' := fun w' hh => by
                        have e := zzLevel hh.mem hn6 (x / 2) hxv
                        have hv : ({ g with seen := sn, act := ac, ow := ow } : Gh).lvl (x / 2) = lv := hlv.symm
                        rw [hv] at e
                        exact e
                      have HF : Hid (x = M.getD j 0 ∧ lv = g.lvl (x / 2) ∧ tz = 1 + x % 2 ∧ j < M.length) := ⟨hx, hlv, htz, hjM⟩
                      have fin : ∀ w12 w13 : World, ∀ low', w13 = w12.setCell ⟨bu, x / 2, none⟩ (.int .i8 (3 - (tz : Int))) → (∃ q, w12 = (wr.setCell ⟨bt, x / 2, none⟩ (.bool true)).drewN q) → ((j = 0 ∧ low' = low) ∨ (1 ≤ j ∧ (low < g.lvl (x / 2) ∧ low' = g.lvl (x / 2) ∨ g.lvl (x / 2) ≤ low ∧ low' = low))) →
                          LS y w4 g sn ac ow gm lm cM bt bu d back M w13 low' (j + 1) (upd tk (x / 2) true) (upd f (x / 2) (2 - x % 2)) := fun w12 w13 low' h13 h12 hl' => by
                        obtain ⟨q, h12⟩ := h12
                        have hne : bt ≠ bu := fun e => by have h1 := HJ.out.2.tt.1; have h2 := HJ.out.2.tu.1; rw [e] at h1; omega
                        have a1 := HJ.out.1.an.far (b := bt) (by rw [HJ.out.2.tt.1]; omega) HJ.out.2.tt.2 (x / 2) (.bool true)
                        have a2 := (a1.drew q).far (b := bu) (by rw [HJ.out.2.tu.1]; omega) HJ.out.2.tu.2 (x / 2) (.int .i8 (3 - (tz : Int)))
                        refine ⟨by rw [h13, h12]; exact a2, ?_, ?_, (HJ.out.1.li.step HJ.out.2.lf hjM hx hl').2⟩
                        · have e := HJ.out.1.tkb.set (x / 2) (.bool true)
                          rw [tab_set] at e
                          have e2 : Bk ((wr.setCell ⟨bt, x / 2, none⟩ (.bool true)).drewN q).heap bt 4 (tab y.n (upd (fun v => Value.bool (tk v)) (x / 2) (.bool true))) := e
                          rw [h13, h12]
                          refine Eq.mp (congrArg (Bk _ _ _) (tab_congr fun i _ => ?_)) (e2.other hne (x / 2) (.int .i8 (3 - (tz : Int))))
                          unfold upd; split <;> rfl
                        · have e0 := HJ.out.1.un.other (b' := bt) (Ne.symm hne) (x / 2) (.bool true)
                          have e2 : Bk ((wr.setCell ⟨bt, x / 2, none⟩ (.bool true)).drewN q).heap bu 31 (tab y.n fun v => .int .i8 (f v : Int)) := e0
                          have e := e2.set (x / 2) (.int .i8 (3 - (tz : Int)))
                          rw [tab_set] at e
                          rw [h13, h12]
                          refine Eq.mp (congrArg (Bk _ _ _) (tab_congr fun i _ => ?_)) e
                          unfold upd
                          split
                          · rw [show (3 : Int) - (tz : Int) = ((2 - x % 2 : Nat) : Int) by omega]
                          · rfl
                      have hbk : ∀ w12 : World, (∃ q, w12 = (wr.setCell ⟨bt, x / 2, none⟩ (.bool true)).drewN q) → Bk w12.heap bu 31 (tab y.n fun v => .int .i8 (f v : Int)) := fun w12 h12 => by
                        obtain ⟨q, h12⟩ := h12
                        have hne : bt ≠ bu := fun e => by have h1 := HJ.out.2.tt.1; have h2 := HJ.out.2.tu.1; rw [e] at h1; omega
                        rw [h12]
                        exact HJ.out.1.un.other (b' := bt) (Ne.symm hne) (x / 2) (.bool true)
                      replace fin : Hid _ := fin
                      have dx0 : decide ((x : Int) < 0) = false := decide_eq_false (by omega)
                      have dx2 : decide (2 * (y.n : Int) ≤ (x : Int)) = false := decide_eq_false (by omega)
                      clear hx hMj hval hlv htz hcell1 htk hasg hjM
                      go_upto_if 122 with (first
                        | (go_at_call 25; refine (hlX _).mono ?_; rintro e w' ⟨rfl, rfl⟩)
                        | (refine wpList_store_bk rfl 4 _ _ rfl bt (x / 2) rfl (.bool true) rfl rfl (by kernel_rfl) _ _ HJ.out.1.tkb (by simp; omega) ?_
                           intro w11 hw11
                           have HA11 : Hid (An y w4 g w11 sn ac ow (.slice (some ⟨gm, 0, none⟩) lm cM) M) := by
                             rw [hw11.out]; exact HJ.out.1.an.far (b := bt) (by rw [HJ.out.2.tt.1]; omega) HJ.out.2.tt.2 (x / 2) (.bool true))
                        | (go_at_call 15; refine (h15 w11 HA11.out).mono ?_; rintro e w12 ⟨rfl, hb12⟩
                           have HA12 : Hid (An y w4 g w12 sn ac ow (.slice (some ⟨gm, 0, none⟩) lm cM) M) := by
                             obtain ⟨q, hq⟩ := hb12.out; rw [hq]; exact HA11.out.drew q)
                        | (go_at_call 27; refine (h27 w12 HA12.out).mono ?_; rintro e w14 ⟨rfl, rfl⟩)
                        | go_in)
                      by_cases hj0 : j = 0
                      · have hlvd0 := hlvd.1 hj0
                        have dj0 : ((j : Int) == 0) = true := by simp; omega
                        have dlv : ((lv : Int) != (d : Int)) = false := by simp; omega
                        go_wp2_with (first
                          | (go_at_call 16; refine (htv _).mono ?_; rintro e w15 ⟨rfl, rfl⟩)
                          | (refine wpList_store_bk rfl 31 _ _ rfl bu (x / 2) rfl (.int .i8 (3 - (tz : Int))) rfl rfl (by kernel_rfl) _ _ (hbk _ (by obtain ⟨q, hq⟩ := hb12.out; exact ⟨q, by rw [hq, hw11.out]⟩)) (by simp; omega) ?_
                             intro w13 hw13)
                          | go_in)
                        go_roundg (lm - (j + 1))
                        case measure => omega
                        case rel =>
                          obtain ⟨q, hq⟩ := hb12.out
                          exact ⟨low, j + 1, upd tk (x / 2) true, upd f (x / 2) (2 - x % 2), rfl, by go_num, by omega, Nat.le_refl _, hlow, fin.out _ _ low hw13.out ⟨q, by rw [hq, hw11.out]⟩ (.inl ⟨hj0, rfl⟩), HJ.out.2⟩
                      · have hlvd1 := hlvd.2 (by omega)
                        have dj0 : ((j : Int) == 0) = false := by simp; omega
                        have dlv1 : decide ((lv : Int) < 1) = false := decide_eq_false (by omega)
                        have dlv2 : decide ((d : Int) ≤ (lv : Int)) = false := decide_eq_false (by omega)
                        by_cases hll : low < lv
                        · have dll : decide ((low : Int) < (lv : Int)) = true := decide_eq_true (by omega)
                          go_wp2_with (first
                            | (go_at_call 16; refine (htv _).mono ?_; rintro e w15 ⟨rfl, rfl⟩)
                            | (refine wpList_store_bk rfl 31 _ _ rfl bu (x / 2) rfl (.int .i8 (3 - (tz : Int))) rfl rfl (by kernel_rfl) _ _ (hbk _ (by obtain ⟨q, hq⟩ := hb12.out; exact ⟨q, by rw [hq, hw11.out]⟩)) (by simp; omega) ?_
                               intro w13 hw13)
                            | go_in)
                          go_roundg (lm - (j + 1))
                          case measure => omega
                          case rel =>
                            obtain ⟨q, hq⟩ := hb12.out
                            exact ⟨lv, j + 1, upd tk (x / 2) true, upd f (x / 2) (2 - x % 2), rfl, by go_num, by omega, Nat.le_refl _, by omega, fin.out _ _ lv hw13.out ⟨q, by rw [hq, hw11.out]⟩ (.inr ⟨by omega, .inl ⟨by rw [← HF.out.2.1]; exact hll, HF.out.2.1⟩⟩), HJ.out.2⟩
                        · have dll : decide ((low : Int) < (lv : Int)) = false := decide_eq_false (by omega)
                          go_wp2_with (first
                            | (go_at_call 16; refine (htv _).mono ?_; rintro e w15 ⟨rfl, rfl⟩)
                            | (refine wpList_store_bk rfl 31 _ _ rfl bu (x / 2) rfl (.int .i8 (3 - (tz : Int))) rfl rfl (by kernel_rfl) _ _ (hbk _ (by obtain ⟨q, hq⟩ := hb12.out; exact ⟨q, by rw [hq, hw11.out]⟩)) (by simp; omega) ?_
                               intro w13 hw13)
                            | go_in)
                          go_roundg (lm - (j + 1))
                          case measure => omega
                          case rel =>
                            obtain ⟨q, hq⟩ := hb12.out
                            exact ⟨low, j + 1, upd tk (x / 2) true, upd f (x / 2) (2 - x % 2), rfl, by go_num, by omega, Nat.le_refl _, hlow, fin.out _ _ low hw13.out ⟨q, by rw [hq, hw11.out]⟩ (.inr ⟨by omega, .inr ⟨by rw [← HF.out.2.1]; omega, rfl⟩⟩), HJ.out.2⟩
                    · have djl : decide ((j : Int) < (lm : Int)) = false := decide_eq_false (by omega)
                      have hjM : j = M.length := by rw [← HJ.out.2.hl]; omega
                      have hli : LI y.n g d back M M.length low tk f := by rw [← hjM]; exact HJ.out.1.li
                      have hlb : low = back := hli.back HJ.out.2.lf
                      have d4 : ((back : Int) != (low : Int)) = false := by simp; omega
                      have h37 := allSeenClear HJ.out.1.an.mem hn6 HX.out.1
                      have h17 := naiveClose (w := wr) (w0 := w4) (N := w4.heap.size) (n := y.n) (m := y.m) (bu := bu) (f := f) (orig := orig) (aK := aK) (X := M) HT.out.2.2.2 (by rw [← HT.out.2.2.1]; exact HJ.out.1.an.below) HJ.out.1.un (by rw [← HT.out.2.2.1]; exact HJ.out.2.tu.2) hn6 hm HT.out.2.1.big HT.out.2.1.lt HT.out.2.1.nd hli.le (fun x hx => by
                        obtain ⟨i, hi, rfl⟩ := List.getElem_of_mem hx
                        have e := hli.val i hi
                        rw [List.getD, List.getElem?_eq_getElem hi] at e
                        exact e) HX.out.2
                      by_cases hl2 : 2 ≤ lm
                      · obtain ⟨x1, hx1⟩ : ∃ x1, x1 = M.getD 1 0 := ⟨_, rfl⟩
                        have hM1 : M[1]? = some x1 := by rw [hx1, List.getD, List.getElem?_eq_getElem (by omega)]; rfl
                        have hx12 : x1 < 2 * y.n := by rw [hx1]; exact HJ.out.2.lf.lt 1 (by omega)
                        obtain ⟨gm1, hgm1, -, -, -, -, -, hcell1⟩ := HJ.out.1.an.pos (by omega)
                        injection hgm1 with hgm1
                        injection hgm1 with hgm1
                        subst hgm1
                        have cx := (hcell1 1 x1 hM1).1
                        have hlX := fun w => litVar x1 (by omega) w
                        have h27 : Calls Try.prog 27 #[.pointer (some ⟨y.bs, 0, none⟩), i32 (x1 / 2)] wr fun e w'' => e = .returned (i32 low) ∧ w'' = wr := by
                          have e := zzLevel HJ.out.1.an.mem hn6 (x1 / 2) (by omega)
                          have hv : ({ g with seen := sn, act := ac, ow := ow } : Gh).lvl (x1 / 2) = low := by
                            show g.lvl (x1 / 2) = low
                            rw [hlb, hx1]
                            exact HJ.out.2.lf.two (by omega)
                          rw [hv] at e
                          exact e
                        have dl2 : decide (2 ≤ (lm : Int)) = true := decide_eq_true (by omega)
                        clear hx1 hM1 hcell1 hli hjM hlb
                        go_wp2_with (first
                          | (go_at_call 25; refine (hlX _).mono ?_; rintro e w' ⟨rfl, rfl⟩)
                          | (go_at_call 27; refine h27.mono ?_; rintro e w' ⟨rfl, rfl⟩)
                          | (go_at_call 37; refine h37.mono ?_; rintro e w' ⟨rfl, rfl⟩)
                          | (go_at_call 17; refine h17.mono ?_; rintro e w' ⟨rfl, hb17⟩; replace hb17 : Hid _ := hb17)
                          | go_in)
                        go_ret
                        exact ⟨rfl, below_trans hB14.out hb17.out hB14.out.size⟩
                      · have dl2 : decide (2 ≤ (lm : Int)) = false := decide_eq_false (by omega)
                        clear hli hjM hlb
                        go_wp2_with (first
                          | (go_at_call 37; refine h37.mono ?_; rintro e w' ⟨rfl, rfl⟩)
                          | (go_at_call 17; refine h17.mono ?_; rintro e w' ⟨rfl, hb17⟩; replace hb17 : Hid _ := hb17)
                          | go_in)
                        go_ret
                        exact ⟨rfl, below_trans hB14.out hb17.out hB14.out.size⟩
            · go_wp2
              go_ret
              exact ⟨rfl, below_refl _ _⟩
          · go_wp2
            go_ret
            exact ⟨rfl, below_refl _ _⟩
        · go_wp2
          go_ret
          exact ⟨rfl, below_refl _ _⟩
      · go_wp2
        go_ret
        exact ⟨rfl, below_refl _ _⟩

end Go.Proofs.Qxb6600345a
