/-
  DERIVED. Seat b6600345a: naiveClose.
-/
import Derived.Test.Qxb6600345aWalkI
namespace Go.Proofs.Qxb6600345a
open Go.RowKit
set_option linter.unusedVariables false
set_option linter.unusedSimpArgs false
attribute [local go_sem ↓] Go.wp_at_zero Go.wp_at_succ

/-- The clauses as they lie in the law's own copy. -/
structure ClM (w : World) (N : Nat) (aK : Option Addr) (m : Nat) (orig : Nat → List Nat) : Prop where
  row : ∀ ci, ci < m → ∃ bK rb, aK = some ⟨bK, 0, none⟩ ∧ bK < N ∧ rb < N ∧ w.cell? ⟨bK, ci, none⟩ = some (.slice (some ⟨rb, 0, none⟩) (orig ci).length (orig ci).length) ∧ ∀ i x, (orig ci)[i]? = some x → w.cell? ⟨rb, i, none⟩ = some (i32 x)

theorem ClM.mono {w w' : World} {N : Nat} {aK : Option Addr} {m : Nat} {orig : Nat → List Nat} (h : ClM w N aK m orig) (hb : Below N w w') : ClM w' N aK m orig :=
  ⟨fun ci hc => by
    obtain ⟨bK, rb, h1, h2, h3, h4, h5⟩ := h.row ci hc
    exact ⟨bK, rb, h1, h2, h3, by rw [World.cell?_of_block (hb.block bK h2)]; exact h4, fun i x hx => by rw [World.cell?_of_block (hb.block rb h3)]; exact h5 i x hx⟩⟩

set_option maxRecDepth 100000 in
set_option maxHeartbeats 4000000 in
theorem naiveClose {w w0 : World} {N n m bu : Nat} {f : Nat → Nat} {orig : Nat → List Nat} {aK : Option Addr} {X : List Nat} (hK : ClM w0 N aK m orig) (hB : Below N w0 w) (hu : Bk w.heap bu 31 (tab n fun v => .int .i8 (f v : Int))) (hbu : N ≤ bu) (hn : n ≤ 4096) (hm : m ≤ 65536)
    (hbig : ∀ ci, ci < m → (orig ci).length ≤ 1000000) (hlt : ∀ ci, ci < m → ∀ x ∈ orig ci, x < 2 * n) (hnd : ∀ ci, ci < m → ((orig ci).map (· / 2)).Nodup) (hf : ∀ v, f v ≤ 2) (hX : ∀ x ∈ X, lval f x = 2) (himp : ∀ a, Closed m orig a → (∀ x ∈ X, lval a x = 2) → False) :
    Calls Try.prog 17 #[.slice (some ⟨bu, 0, none⟩) n n, .slice aK m m] w fun e w' => e = .returned (.bool true) ∧ Below N w0 w' := by
  have HK : Hid (ClM w0 N aK m orig) := hK
  have HI : Hid (∀ a, Closed m orig a → (∀ x ∈ X, lval a x = 2) → False) := himp
  have HND : Hid (∀ ci, ci < m → ((orig ci).map (· / 2)).Nodup) := hnd
  have H0 : Hid (Below N w0 w ∧ Bk w.heap bu 31 (tab n fun v => .int .i8 (f v : Int)) ∧ (∀ v, f v ≤ 2) ∧ ∀ x ∈ X, lval f x = 2) := ⟨hB, hu, hf, hX⟩
  clear hK himp hnd hB hu hf hX
  go_enter Try.func17, Try.ntmps17
  go_wp2
  go_loopg [] (cnt0 n f) (fun k wr => ∃ f1 : Nat → Nat, cnt0 n f1 ≤ k ∧ Hid (Below N w0 wr ∧ Bk wr.heap bu 31 (tab n fun v => .int .i8 (f1 v : Int)) ∧ (∀ v, f1 v ≤ 2) ∧ ∀ x ∈ X, lval f1 x = 2))
  case atStart => exact ⟨f, Nat.le_refl _, H0⟩
  case round =>
    obtain ⟨f1, hk1, H1⟩ := hrel
    clear H0
    go_wp2
    go_loopg [5, 6] m (fun k s5 s6 wr => ∃ (f2 : Nat → Nat) (ci : Nat) (cb : Bool), s5 = .bool cb ∧ s6 = .int .i64 (ci : Int) ∧ ci ≤ m ∧ m - ci ≤ k ∧ Hid (Below N w0 wr ∧ Bk wr.heap bu 31 (tab n fun v => .int .i8 (f2 v : Int)) ∧ NP n m orig X f1 f2 ci cb))
    case atStart => exact ⟨f1, 0, false, rfl, rfl, Nat.zero_le _, Nat.le_refl _, H1.out.1, H1.out.2.1, NP.start H1.out.2.2.1 H1.out.2.2.2⟩
    case round =>
      obtain ⟨f2, ci, cb, rfl, rfl, hci, hcik, H2⟩ := hrel
      clear H1
      by_cases hcm : ci < m
      · obtain ⟨bK, rb, haK, hbK, hrb, ck0, cr0⟩ := HK.out.row ci hcm
        obtain ⟨nC, hnC⟩ : ∃ nC, nC = (orig ci).length := ⟨_, rfl⟩
        rw [← hnC] at ck0
        have hnCb : nC ≤ 1000000 := by rw [hnC]; exact hbig ci hcm
        have ck : wr.cell? ⟨bK, ci, none⟩ = some (.slice (some ⟨rb, 0, none⟩) nC nC) := by rw [World.cell?_of_block (H2.out.1.block bK hbK)]; exact ck0
        have HR : Hid (nC = (orig ci).length ∧ ∀ i x, (orig ci)[i]? = some x → w0.cell? ⟨rb, i, none⟩ = some (i32 x)) := ⟨hnC, cr0⟩
        clear ck0 cr0 hnC
        subst haK
        go_wp2
        go_loopg [8, 9, 10, 11] nC (fun k s8 s9 s10 s11 wr => ∃ u z j : Nat, s8 = .bool false ∧ s9 = .int .i64 (u : Int) ∧ s10 = i32 z ∧ s11 = .int .i64 (j : Int) ∧ j ≤ nC ∧ u ≤ j ∧ nC - j ≤ k ∧ Hid (Below N w0 wr ∧ Bk wr.heap bu 31 (tab n fun v => .int .i8 (f2 v : Int)) ∧ NP n m orig X f1 f2 ci cb ∧ Sc f2 (orig ci) j u z))
        case atStart => exact ⟨0, 0, 0, rfl, rfl, rfl, rfl, Nat.zero_le _, Nat.le_refl _, Nat.le_refl _, H2.out.1, H2.out.2.1, H2.out.2.2, Sc.start _ _⟩
        case round =>
          obtain ⟨u, z, j, rfl, rfl, rfl, rfl, hj, huj, hjk, H3⟩ := hrel
          clear H2 ck
          by_cases hjn : j < nC
          · obtain ⟨x, hx⟩ : ∃ x, (orig ci)[j]? = some x := ⟨_, List.getElem?_eq_getElem (by rw [← HR.out.1]; exact hjn)⟩
            have hx2 : x < 2 * n := hlt ci hcm x (List.mem_of_getElem? hx)
            have cx : wr.cell? ⟨rb, j, none⟩ = some (i32 x) := by rw [World.cell?_of_block (H3.out.1.block rb hrb)]; exact HR.out.2 j x hx
            have hlv := litVal H3.out.2.1 hn x hx2 (H3.out.2.2.1.le _)
            obtain ⟨v, hv⟩ : ∃ v, v = lval f2 x := ⟨_, rfl⟩
            rw [← hv] at hlv
            have HX : Hid ((orig ci)[j]? = some x ∧ v = lval f2 x) := ⟨hx, hv⟩
            clear hx hv
            by_cases hv1 : v = 1
            · have dv : ((v : Int) == 1) = true := by simp; omega
              go_wp2_with (go_at_call 44; refine hlv.mono ?_; rintro e w' ⟨rfl, rfl⟩)
              go_roundg (m - (ci + 1))
              case measure => omega
              case rel => exact ⟨f2, ci + 1, cb, rfl, by go_num, by omega, Nat.le_refl _, H3.out.1, H3.out.2.1, H3.out.2.2.1.ok1 (.inl ⟨x, List.mem_of_getElem? HX.out.1, by rw [← HX.out.2]; exact hv1⟩)⟩
            · have dv : ((v : Int) == 1) = false := by simp; omega
              have hst := H3.out.2.2.2.step HX.out.1 (by rw [← HX.out.2]; exact hv1)
              rw [← HX.out.2] at hst
              replace hst : Hid _ := hst
              by_cases hv0 : v = 0
              · have dv0 : ((v : Int) == 0) = true := by simp; omega
                go_wp2_with (go_at_call 44; refine hlv.mono ?_; rintro e w' ⟨rfl, rfl⟩)
                go_roundg (nC - (j + 1))
                case measure => omega
                case rel =>
                  have h := hst.out
                  rw [if_pos hv0, if_pos hv0] at h
                  exact ⟨u + 1, x, j + 1, rfl, by go_num, rfl, by go_num, by omega, by omega, Nat.le_refl _, H3.out.1, H3.out.2.1, H3.out.2.2.1, h⟩
              · have dv0 : ((v : Int) == 0) = false := by simp; omega
                go_wp2_with (go_at_call 44; refine hlv.mono ?_; rintro e w' ⟨rfl, rfl⟩)
                go_roundg (nC - (j + 1))
                case measure => omega
                case rel =>
                  have h := hst.out
                  rw [if_neg hv0, if_neg hv0] at h
                  exact ⟨u, z, j + 1, rfl, rfl, rfl, by go_num, by omega, by omega, Nat.le_refl _, H3.out.1, H3.out.2.1, H3.out.2.2.1, h⟩
          · have dj : decide ((j : Int) < (nC : Int)) = false := decide_eq_false (by omega)
            by_cases hu0 : u = 0
            · have du : ((u : Int) == 0) = true := by simp; omega
              go_wp2
              go_ret
              exact ⟨rfl, H3.out.1⟩
            · have du : ((u : Int) == 0) = false := by simp; omega
              by_cases hu1 : u = 1
              · have du1 : ((u : Int) == 1) = true := by simp; omega
                have hz := H3.out.2.2.2.zz (by omega)
                have hz2 : z < 2 * n := hlt ci hcm z hz.1
                have HZ : Hid (lval f2 z = 0) := hz.2
                clear hz
                have htv := fun w => trueValue z (by omega) w
                obtain ⟨tz, htz⟩ : ∃ tz, tz = 1 + z % 2 := ⟨_, rfl⟩
                rw [← htz] at htv
                replace htz : Hid (tz = 1 + z % 2) := htz
                go_wp2_with (first
                  | (go_at_call 16; refine (htv _).mono ?_; rintro e w' ⟨rfl, rfl⟩)
                  | (refine wpList_store_bk rfl 31 _ _ rfl bu (z / 2) rfl (.int .i8 (tz : Int)) rfl rfl (by kernel_rfl) _ _ H3.out.2.1 (by simp; omega) ?_
                     intro w4 hw4)
                  | go_in)
                go_roundg (m - (ci + 1))
                case measure => omega
                case rel =>
                  refine ⟨upd f2 (z / 2) (1 + z % 2), ci + 1, true, rfl, by go_num, by omega, Nat.le_refl _, ?_, ?_, H3.out.2.2.1.unit hz2 HZ.out⟩
                  · rw [hw4.out]; exact H3.out.1.setCell hbu _
                  · rw [hw4.out]
                    have e := H3.out.2.1.set (z / 2) (.int .i8 (tz : Int))
                    rw [tab_set] at e
                    refine Eq.mp (congrArg (Bk _ _ _) (tab_congr fun i _ => ?_)) e
                    simp only [upd]
                    split
                    · rw [htz.out]
                    · rfl
              · have du1 : ((u : Int) == 1) = false := by simp; omega
                go_wp2
                go_roundg (m - (ci + 1))
                case measure => omega
                case rel => exact ⟨f2, ci + 1, cb, rfl, by go_num, by omega, Nat.le_refl _, H3.out.1, H3.out.2.1, H3.out.2.2.1.ok1 (H3.out.2.2.2.two (by rw [← HR.out.1]; omega) (by omega))⟩
      · have dc : decide ((ci : Int) < (m : Int)) = false := decide_eq_false (by omega)
        obtain rfl : ci = m := by omega
        cases cb with
        | false =>
          exact (HI.out f2 (H2.out.2.2.closed HND.out) H2.out.2.2.X).elim
        | true =>
          have hlt2 := H2.out.2.2.dn rfl
          go_wp2
          go_roundg (cnt0 n f2)
          case measure => omega
          case rel => exact ⟨f2, Nat.le_refl _, H2.out.1, H2.out.2.1, H2.out.2.2.le, H2.out.2.2.X⟩

end Go.Proofs.Qxb6600345a
