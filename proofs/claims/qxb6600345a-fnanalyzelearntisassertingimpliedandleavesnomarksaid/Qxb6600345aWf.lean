/-
  DERIVED. Seat b6600345a: wellFormed.
-/
import Derived.Test.Qxb6600345aArgs
namespace Go.Proofs.Qxb6600345a
open Go.RowKit
set_option linter.unusedVariables false
set_option linter.unusedSimpArgs false
attribute [local go_sem ↓] Go.wp_at_zero Go.wp_at_succ

abbrev nat (zs : List Int) (i : Nat) : Nat := (zs.getD i 0).toNat

/-- A clause as it must be. -/
structure GoodC (n : Nat) (l : Nat) (zs : List Int) : Prop where
  two : 2 ≤ l
  rng : ∀ i, i < l → 0 ≤ zs.getD i 0 ∧ zs.getD i 0 < 2 * (n : Int)
  vars : ∀ i j, i < j → j < l → nat zs i / 2 ≠ nat zs j / 2

structure WfOK (n m : Nat) (L : Nat → Nat) (Z : Nat → List Int) (nD : Nat) (zD : List Int) : Prop where
  good : ∀ r, r < m → GoodC n (L r) (Z r)
  dec : ∀ i, i < nD → 0 ≤ zD.getD i 0 ∧ zD.getD i 0 < 2 * (n : Int)

/-- The stamps while clause ci is looked at: k literals seen. -/
structure St (n ci : Nat) (zs : List Int) (k : Nat) (f : Nat → Nat) : Prop where
  le : ∀ v, f v ≤ ci + 1
  iff : ∀ v, f v = ci + 1 ↔ ∃ i, i < k ∧ nat zs i / 2 = v
  rng : ∀ i, i < k → 0 ≤ zs.getD i 0 ∧ zs.getD i 0 < 2 * (n : Int)
  vars : ∀ i j, i < j → j < k → nat zs i / 2 ≠ nat zs j / 2

theorem St.start {n ci : Nat} {zs : List Int} {f : Nat → Nat} (h : ∀ v, f v ≤ ci) : St n ci zs 0 f :=
  ⟨fun v => Nat.le_succ_of_le (h v), fun v => ⟨fun e => by have := h v; omega, fun ⟨i, hi, _⟩ => by omega⟩, fun i hi => by omega, fun i j _ hj => by omega⟩

theorem St.step {n ci : Nat} {zs : List Int} {k : Nat} {f : Nat → Nat} (h : St n ci zs k f) {x : Nat} (hx : zs.getD k 0 = (x : Int)) (hx2 : x < 2 * n) (hf : f (x / 2) ≠ ci + 1) : St n ci zs (k + 1) (upd f (x / 2) (ci + 1)) := by
  have hk : nat zs k = x := by unfold nat; rw [hx]; rfl
  refine ⟨fun v => ?_, fun v => ?_, fun i hi => ?_, fun i j hij hj => ?_⟩
  · unfold upd; split
    · exact Nat.le_refl _
    · exact h.le v
  · unfold upd
    split
    · rename_i e
      exact ⟨fun _ => ⟨k, by omega, by rw [hk, e]⟩, fun _ => rfl⟩
    · rename_i e
      rw [h.iff]
      refine ⟨fun ⟨i, hi, he⟩ => ⟨i, by omega, he⟩, fun ⟨i, hi, he⟩ => ⟨i, ?_, he⟩⟩
      have : i ≠ k := fun e' => by subst e'; rw [hk] at he; exact e he.symm
      omega
  · by_cases e : i = k
    · subst e; rw [hx]; omega
    · exact h.rng i (by omega)
  · by_cases e : j = k
    · subst e
      rw [hk]
      intro e'
      exact hf ((h.iff _).2 ⟨i, hij, e'⟩)
    · exact h.vars i j hij (by omega)

def WfPost (n m : Nat) (L : Nat → Nat) (Z : Nat → List Int) (nD : Nat) (zD : List Int) (w : World) (e : Ending) (w' : World) : Prop := ∃ b, e = .returned (.bool b) ∧ Hid (Below w.heap.size w w' ∧ (b = true → WfOK n m L Z nD zD))

set_option maxRecDepth 100000 in
set_option maxHeartbeats 4000000 in
theorem wellFormed {w : World} {n : Nat} {aC : Option Addr} {m cC : Nat} {A : Nat → Option Addr} {L C : Nat → Nat} {Z : Nat → List Int} (h : Cl2 w aC m A L C Z) (hL : ∀ r, r < m → L r ≤ 262144) (hm : m ≤ 65536) (hn1 : 1 ≤ n) (hn : n ≤ 4096) {aD : Option Addr} {nD cD : Nat} {zD : List Int} (hD : RowI w aD nD zD) (hnD : nD ≤ 262144) (hlD : nD ≤ zD.length) (hwD : ∀ z ∈ zD, -2147483648 ≤ z ∧ z < 2147483648) :
    Calls Try.prog 11 #[.int .i64 (n : Int), .slice aC m cC, .slice aD nD cD] w fun e w' => WfPost n m L Z nD zD w e w' := by
  have HC : Hid (Cl2 w aC m A L C Z) := h
  have HD : Hid (RowI w aD nD zD ∧ nD ≤ zD.length ∧ ∀ z ∈ zD, -2147483648 ≤ z ∧ z < 2147483648) := ⟨hD, hlD, hwD⟩
  clear h hD hlD hwD
  go_enter Try.func11, Try.ntmps11
  go_wp2_with (first
    | (refine wpList_mk rfl 42 _ rfl n rfl 3 Try.underlying42 (.int .i64 0) 8 info3 rfl (by omega) (by omega) ?_
       intro wa bt hwa)
    | go_in)
  have HS : Hid (Below w.heap.size w wa ∧ Bk wa.heap bt 3 (tab n fun _ => .int .i64 0) ∧ w.heap.size ≤ bt) := by
    obtain ⟨e1, e2⟩ := hwa.out
    refine ⟨?_, ?_, by rw [e2]; exact Nat.le_refl _⟩
    · rw [e1]; exact Below.alloc ⟨rfl, rfl, rfl, Nat.le_refl _, fun _ _ => rfl⟩ (Nat.le_refl _) _
    · rw [e1, e2]; exact heap_alloc_new w _
  clear hwa
  go_loopg [8] m (fun k s8 wr => ∃ (ci : Nat) (f : Nat → Nat), s8 = .int .i64 (ci : Int) ∧ ci ≤ m ∧ m - ci ≤ k ∧ Hid (Below w.heap.size w wr ∧ Bk wr.heap bt 3 (tab n fun v => .int .i64 (f v : Int)) ∧ (∀ v, f v ≤ ci) ∧ ∀ r, r < ci → GoodC n (L r) (Z r)))
  case atStart => exact ⟨0, fun _ => 0, rfl, Nat.zero_le _, Nat.le_refl _, HS.out.1, HS.out.2.1, fun _ => Nat.le_refl _, fun r hr => by omega⟩
  case round =>
    obtain ⟨ci, f, rfl, hci, hcik, H1⟩ := hrel
    have HB : Hid (w.heap.size ≤ bt) := HS.out.2.2
    clear HS
    by_cases hcm : ci < m
    · obtain ⟨b, o, haC, hb, cr0⟩ := HC.out.at hcm
      obtain ⟨l, hl⟩ : ∃ l, l = L ci := ⟨_, rfl⟩
      obtain ⟨aR, hR⟩ : ∃ aR, aR = A ci := ⟨_, rfl⟩
      obtain ⟨cR, hcR⟩ : ∃ cR, cR = C ci := ⟨_, rfl⟩
      have hlm : l ≤ 262144 := by rw [hl]; exact hL ci hcm
      rw [← hl, ← hR, ← hcR] at cr0
      have cr : wr.cell? ⟨b, o + ci, none⟩ = some (.slice aR l cR) := by rw [World.cell?_of_block (H1.out.1.block b hb)]; exact cr0
      have HR : Hid (l = L ci ∧ aR = A ci ∧ RowI w aR l (Z ci) ∧ l ≤ (Z ci).length) := ⟨hl, hR, by rw [hl, hR]; exact HC.out.row ci hcm, by rw [hl]; exact HC.out.len ci hcm⟩
      clear hl hR hcR cr0
      subst haC
      by_cases hl2 : l < 2
      · have dl2 : decide ((l : Int) < 2) = true := decide_eq_true (by omega)
        go_wp2
        go_ret
        exact ⟨false, rfl, H1.out.1, fun h => by cases h⟩
      · have dl2 : decide ((l : Int) < 2) = false := decide_eq_false (by omega)
        go_wp2
        go_loopg [10] l (fun k s10 wr => ∃ (j : Nat) (f : Nat → Nat), s10 = .int .i64 (j : Int) ∧ j ≤ l ∧ l - j ≤ k ∧ Hid (Below w.heap.size w wr ∧ Bk wr.heap bt 3 (tab n fun v => .int .i64 (f v : Int)) ∧ St n ci (Z ci) j f))
        case atStart => exact ⟨0, f, rfl, Nat.zero_le _, Nat.le_refl _, H1.out.1, H1.out.2.1, St.start H1.out.2.2.1⟩
        case round =>
          obtain ⟨j, f2, rfl, hj, hjk, H2⟩ := hrel
          replace H1 : Hid (∀ r, r < ci → GoodC n (L r) (Z r)) := H1.out.2.2.2
          clear cr
          by_cases hjl : j < l
          · obtain ⟨b2, o2, haR, hb2, cx0⟩ : ∃ b o, aR = some ⟨b, o, none⟩ ∧ b < w.heap.size ∧ w.cell? ⟨b, o + j, none⟩ = some (.int .i32 ((Z ci).getD j 0)) := by
              rcases HR.out.2.2.1 with h0 | ⟨b, o, h1, h2, h3⟩
              · omega
              · exact ⟨b, o, h1, h2, h3 j hjl⟩
            obtain ⟨x, hx⟩ : ∃ x, x = (Z ci).getD j 0 := ⟨_, rfl⟩
            have hxr : -2147483648 ≤ x ∧ x < 2147483648 := by
              have hjz : j < (Z ci).length := by have := HR.out.2.2.2; omega
              rw [hx, List.getD, List.getElem?_eq_getElem hjz]
              exact HC.out.wf ci hcm _ (List.getElem_mem hjz)
            rw [← hx] at cx0
            have cx : wr.cell? ⟨b2, o2 + j, none⟩ = some (.int .i32 x) := by rw [World.cell?_of_block (H2.out.1.block b2 hb2)]; exact cx0
            have HX : Hid (x = (Z ci).getD j 0) := hx
            clear hx cx0
            subst haR
            by_cases hx0 : x < 0
            · have d1 : decide (x < 0) = true := decide_eq_true hx0
              go_wp2
              go_ret
              exact ⟨false, rfl, H2.out.1, fun h => by cases h⟩
            · have d1 : decide (x < 0) = false := decide_eq_false hx0
              obtain ⟨xn, rfl⟩ : ∃ xn : Nat, x = (xn : Int) := ⟨x.toNat, by omega⟩
              by_cases hx2 : 2 * n ≤ xn
              · have d2 : decide (2 * (n : Int) ≤ (xn : Int)) = true := decide_eq_true (by omega)
                go_wp2
                go_ret
                exact ⟨false, rfl, H2.out.1, fun h => by cases h⟩
              · have d2 : decide (2 * (n : Int) ≤ (xn : Int)) = false := decide_eq_false (by omega)
                have hv : xn / 2 < n := by omega
                obtain ⟨fv, hfv⟩ : ∃ fv, fv = f2 (xn / 2) := ⟨_, rfl⟩
                have cf : wr.cell? ⟨bt, xn / 2, none⟩ = some (.int .i64 (fv : Int)) := by rw [H2.out.2.1.cell, tab_at hv, hfv]
                have hfle : fv ≤ ci + 1 := by rw [hfv]; exact H2.out.2.2.le _
                have HF : Hid (fv = f2 (xn / 2)) := hfv
                clear hfv
                by_cases hf : fv = ci + 1
                · have d3 : ((fv : Int) == (ci : Int) + 1) = true := by simp; omega
                  go_wp2
                  go_ret
                  exact ⟨false, rfl, H2.out.1, fun h => by cases h⟩
                · have d3 : ((fv : Int) == (ci : Int) + 1) = false := by simp; omega
                  go_wp2_with (first
                    | (refine wpList_store_bk rfl 3 _ _ rfl bt (xn / 2) rfl (.int .i64 ((ci : Int) + 1)) rfl rfl (by kernel_rfl) _ _ H2.out.2.1 (by simp; omega) ?_
                       intro w4 hw4)
                    | go_in)
                  go_roundg (l - (j + 1))
                  case measure => omega
                  case rel =>
                    refine ⟨j + 1, upd f2 (xn / 2) (ci + 1), by go_num, by omega, Nat.le_refl _, ?_, ?_, H2.out.2.2.step HX.out.symm (by omega) (by rw [← HF.out]; exact hf)⟩
                    · rw [hw4.out]; exact H2.out.1.setCell HB.out _
                    · rw [hw4.out]
                      have e := H2.out.2.1.set (xn / 2) (.int .i64 ((ci : Int) + 1))
                      rw [tab_set] at e
                      refine Eq.mp (congrArg (Bk _ _ _) (tab_congr fun i _ => ?_)) e
                      simp only [upd]
                      split <;> rfl
          · have dj : decide ((j : Int) < (l : Int)) = false := decide_eq_false (by omega)
            go_wp2
            go_roundg (m - (ci + 1))
            case measure => omega
            case rel =>
              refine ⟨ci + 1, f2, by go_num, by omega, Nat.le_refl _, H2.out.1, H2.out.2.1, H2.out.2.2.le, fun r hr => ?_⟩
              by_cases e : r = ci
              · subst e
                rw [← HR.out.1]
                exact ⟨by omega, fun i hi => H2.out.2.2.rng i (by omega), fun i k hik hk => H2.out.2.2.vars i k hik (by omega)⟩
              · exact H1.out r (by omega)
    · have dc : decide ((ci : Int) < (m : Int)) = false := decide_eq_false (by omega)
      go_wp2
      go_loopg [13] nD (fun k s13 wr => ∃ i : Nat, s13 = .int .i64 (i : Int) ∧ i ≤ nD ∧ nD - i ≤ k ∧ Hid (Below w.heap.size w wr ∧ ∀ j, j < i → 0 ≤ zD.getD j 0 ∧ zD.getD j 0 < 2 * (n : Int)))
      case atStart => exact ⟨0, rfl, Nat.zero_le _, Nat.le_refl _, H1.out.1, fun j hj => by omega⟩
      case round =>
        obtain ⟨i, rfl, hi, hik, H2⟩ := hrel
        by_cases hin : i < nD
        · obtain ⟨b2, o2, haR, hb2, cx0⟩ : ∃ b o, aD = some ⟨b, o, none⟩ ∧ b < w.heap.size ∧ w.cell? ⟨b, o + i, none⟩ = some (.int .i32 (zD.getD i 0)) := by
            rcases HD.out.1 with h0 | ⟨b, o, h1, h2, h3⟩
            · omega
            · exact ⟨b, o, h1, h2, h3 i hin⟩
          obtain ⟨x, hx⟩ : ∃ x, x = zD.getD i 0 := ⟨_, rfl⟩
          have hxr : -2147483648 ≤ x ∧ x < 2147483648 := by
            have hjz : i < zD.length := by have := HD.out.2.1; omega
            rw [hx, List.getD, List.getElem?_eq_getElem hjz]
            exact HD.out.2.2 _ (List.getElem_mem hjz)
          rw [← hx] at cx0
          have cx : wr.cell? ⟨b2, o2 + i, none⟩ = some (.int .i32 x) := by rw [World.cell?_of_block (H2.out.1.block b2 hb2)]; exact cx0
          have HX : Hid (x = zD.getD i 0) := hx
          clear hx cx0
          subst haR
          by_cases hx0 : x < 0
          · have d1 : decide (x < 0) = true := decide_eq_true hx0
            go_wp2
            go_ret
            exact ⟨false, rfl, H2.out.1, fun h => by cases h⟩
          · have d1 : decide (x < 0) = false := decide_eq_false hx0
            by_cases hx2 : 2 * (n : Int) ≤ x
            · have d2 : decide (2 * (n : Int) ≤ x) = true := decide_eq_true hx2
              go_wp2
              go_ret
              exact ⟨false, rfl, H2.out.1, fun h => by cases h⟩
            · have d2 : decide (2 * (n : Int) ≤ x) = false := decide_eq_false hx2
              go_wp2
              go_roundg (nD - (i + 1))
              case measure => omega
              case rel =>
                refine ⟨i + 1, by go_num, by omega, Nat.le_refl _, H2.out.1, fun j hj => ?_⟩
                by_cases e : j = i
                · subst e; rw [← HX.out]; omega
                · exact H2.out.2 j (by omega)
        · have dj : decide ((i : Int) < (nD : Int)) = false := decide_eq_false (by omega)
          go_wp2
          go_ret
          exact ⟨true, rfl, H2.out.1, fun _ => ⟨fun r hr => H1.out.2.2.2 r (by omega), fun j hj => H2.out.2 j (by omega)⟩⟩

end Go.Proofs.Qxb6600345a
