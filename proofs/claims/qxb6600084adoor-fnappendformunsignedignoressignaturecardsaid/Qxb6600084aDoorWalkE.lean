/-
  DERIVED. Seat b6600084aD: canon.appendString onto a row with no spare room (a constant's bytes): the first append grows.
-/
import Derived.Test.Qxb6600084aDoorWalkB
import Derived.ArgAppend
namespace Go.Proofs.Qxb6600084aDoor
open Go.RowKit

theorem ownsRow_lower {w : World} {b B : Nat} {e : TypeId} {size : Nat} {v : Value} {n : Nat} {xs : List Value} (h : w.ownsRow b e size v n xs) (hB : B ≤ b) : w.ownsRow B e size v n xs := by
  refine ⟨h.1, ?_⟩
  rcases h.2 with h0 | ⟨g, cap, cur, hv, hb, r⟩
  · exact .inl h0
  · exact .inr ⟨g, cap, cur, hv, Nat.le_trans hB hb, r⟩

set_option maxHeartbeats 1000000 in
theorem appendString_full (B g : Nat) (xs : List UInt8) (s : ByteArray) (w : World) (hold : ∀ j u, (Lib.byteCells xs)[j]? = some u → w.cell? ((⟨g, 0, none⟩ : Addr).add j) = some u) (hgw : g < w.heap.size) (hB : B ≤ w.heap.size) (hs : s.size ≤ 1048576) (hx : xs.length ≤ 100000000) :
    Calls Tryd.prog 25 #[.slice (some ⟨g, 0, none⟩) xs.length xs.length, .string s] w fun e w' => ∃ v', e = .returned v' ∧ w'.ownsRow B 5 1 v' (xs ++ quo s.data.toList).length (Lib.byteCells (xs ++ quo s.data.toList)) ∧ Below B w w' := by
  obtain ⟨i0, hi, hz0, hz1, hz2⟩ := info_parts infoByte
  go_enter Tryd.func25, Tryd.ntmps25
  have hold2 : ∀ o : Obj, ∀ b : Addr, some (⟨g, 0, none⟩ : Addr) = some b → ∀ j u, (Lib.byteCells xs)[j]? = some u → (w.alloc o).cell? (b.add j) = some u := by
    intro o b hb j u hu
    obtain rfl := Option.some.inj hb
    have hc := hold j u hu
    have hadd : (⟨g, 0, none⟩ : Addr).add j = ⟨g, j, none⟩ := by unfold Addr.add; split <;> simp_all
    rw [hadd] at hc ⊢
    rw [World.cell?_alloc_past _ _ _ hgw]
    exact hc
  have HO := Lib.hid hold2
  clear hold hold2
  go_wp2_with (at_builtin; refine wpList_append_grows _ rfl _ _ 22 rfl 5 i0 (.int .u8 0) 1 1 Tryd.underlying22 hi hz0 hz1 hz2 rfl (by decide) (some ⟨g, 0, none⟩) xs.length xs.length (Lib.byteCells xs) rfl (by simp) (by simp [Lib.byteCells]) (HO.out _) ⟨w.heap.size, 0, none⟩ 1 1 (Lib.byteCells [34]) rfl rfl (cells_new _ _ _) (ones _) (by omega) (by unfold maxLen; omega) (by omega) ?_)
  intro v1 w1 hown1 hgrow1
  have hnx1 : Below B w w1 := ((Below.refl B w).alloc hB _).grown hgrow1 (by simp; omega) (fun k hk => by cases hk)
  have hL1 : w1.ownsRow B 5 1 v1 (xs ++ [34] ++ escs (s.data.toList.take 0)).length (Lib.byteCells (xs ++ [34] ++ escs (s.data.toList.take 0))) := by
    have := ownsRow_lower hown1 (Nat.le_trans hB (by omega))
    simpa [Lib.byteCells, escs] using this
  clear hown1 hgrow1
  go_wp2_with fail
  go_loopw [0, 5] (fun v i wr => ∃ k : Nat, k ≤ s.size ∧ i = .int .i64 k ∧ wr.ownsRow B 5 1 v (xs ++ [34] ++ escs (s.data.toList.take k)).length (Lib.byteCells (xs ++ [34] ++ escs (s.data.toList.take k))) ∧ Below B w wr) (fun _ i _ => s.size - (intOf i).toNat)
  case atStart => exact ⟨0, Nat.zero_le _, rfl, hL1, hnx1⟩
  case round =>
    obtain ⟨k, hk, rfl, hown, hnx⟩ := hrel
    have hlb := len_bound xs s k hs hx
    have hBr : B ≤ wr.heap.size := by have := hnx.size; omega
    generalize hLk : (xs ++ [34] ++ escs (s.data.toList.take k)) = Lk at *
    have HLk := Lib.hid hLk
    clear hLk
    by_cases hlt : k < s.size
    · have hcN : s[k].toNat < 256 := UInt8.toNat_lt _
      by_cases h34 : s[k].toNat = 34
      · have hb : ((s[k].toNat : Int) == 34) = true := by rw [beq_iff_eq]; omega
        have H34 := Lib.hid h34
        clear h34
        go_wp2_with (at_builtin; refine wpList_append_own _ rfl (.tmp 35) (.tmp 37) 22 rfl B 5 i0 (.int .u8 0) 1 1 Tryd.underlying22 hi hz0 hz1 hz2 rfl (by decide) _ _ _ rfl (hown.alloc _) ⟨wr.heap.size, 0, none⟩ 2 2 (Lib.byteCells [92, s[k]]) rfl rfl (cells_new _ _ _) (ones _) (by unfold maxLen; omega) (by omega) (by simp; omega) ?_)
        intro v2 w2 hown2 hgrow2 hnil2
        clear hnil2
        have hown3 := step_own xs s k hlt [92, s[k]] (by simp [esc, H34.out]) (by rw [HLk.out]; exact hown2)
        have hnx2 : Below B w w2 := (hnx.alloc (by omega) _).grown hgrow2 (by simp; omega) (fun k hk => (hown.lt k hk).1)
        clear hown2 hgrow2 hown hnx
        go_wp2
        go_roundw
        case rel => exact ⟨k + 1, by omega, by go_num, hown3, hnx2⟩
        case measure => simp [intOf]; omega
      have hb : ((s[k].toNat : Int) == 34) = false := by rw [beq_eq_false_iff_ne]; omega
      by_cases h92 : s[k].toNat = 92
      · have hb2 : ((s[k].toNat : Int) == 92) = true := by rw [beq_iff_eq]; omega
        have H92 := Lib.hid h92
        clear h92
        go_wp2_with (at_builtin; refine wpList_append_own _ rfl (.tmp 35) (.tmp 37) 22 rfl B 5 i0 (.int .u8 0) 1 1 Tryd.underlying22 hi hz0 hz1 hz2 rfl (by decide) _ _ _ rfl (hown.alloc _) ⟨wr.heap.size, 0, none⟩ 2 2 (Lib.byteCells [92, s[k]]) rfl rfl (cells_new _ _ _) (ones _) (by unfold maxLen; omega) (by omega) (by simp; omega) ?_)
        intro v2 w2 hown2 hgrow2 hnil2
        clear hnil2
        have hown3 := step_own xs s k hlt [92, s[k]] (by simp [esc, H92.out]) (by rw [HLk.out]; exact hown2)
        have hnx2 : Below B w w2 := (hnx.alloc (by omega) _).grown hgrow2 (by simp; omega) (fun k hk => (hown.lt k hk).1)
        clear hown2 hgrow2 hown hnx
        go_wp2
        go_roundw
        case rel => exact ⟨k + 1, by omega, by go_num, hown3, hnx2⟩
        case measure => simp [intOf]; omega
      have hb2 : ((s[k].toNat : Int) == 92) = false := by rw [beq_eq_false_iff_ne]; omega
      by_cases h32 : 32 ≤ s[k].toNat
      · have hb3 : (32 : Int) ≤ (s[k].toNat : Int) := by omega
        go_wp2_with (at_builtin; refine wpList_append_own _ rfl (.tmp 42) (.tmp 44) 22 rfl B 5 i0 (.int .u8 0) 1 1 Tryd.underlying22 hi hz0 hz1 hz2 rfl (by decide) _ _ _ rfl (hown.alloc _) ⟨wr.heap.size, 0, none⟩ 1 1 (Lib.byteCells [s[k]]) rfl rfl (cells_new _ _ _) (ones _) (by unfold maxLen; omega) (by omega) (by simp; omega) ?_)
        intro v2 w2 hown2 hgrow2 hnil2
        clear hnil2
        have hown3 := step_own xs s k hlt [s[k]] (by simp [esc, h34, h92, h32]) (by rw [HLk.out]; exact hown2)
        have hnx2 : Below B w w2 := (hnx.alloc (by omega) _).grown hgrow2 (by simp; omega) (fun k hk => (hown.lt k hk).1)
        clear hown2 hgrow2 hown hnx
        go_wp2
        go_roundw
        case rel => exact ⟨k + 1, by omega, by go_num, hown3, hnx2⟩
        case measure => simp [intOf]; omega
      have hb3 : ¬ (32 : Int) ≤ (s[k].toNat : Int) := by omega
      by_cases h8' : s[k].toNat = 8
      · have hc8 : ((s[k].toNat : Int) == 8) = true := by rw [beq_iff_eq]; omega
        have H8 := Lib.hid h8'
        clear h8' h34 h92
        go_wp2_with (at_builtin; refine Lib.wpList_append_own_string _ rfl (.tmp 49) _ 22 9 rfl B 5 i0 Tryd.underlying22 Tryd.underlying9 hi hz0 hz1 hz2 _ _ _ rfl hown ⟨#[92, 98]⟩ rfl (by have : (⟨#[92, 98]⟩ : ByteArray).size = 2 := rfl; unfold maxLen; omega) (by have : (⟨#[92, 98]⟩ : ByteArray).size = 2 := rfl; omega) hBr ?_)
        intro v2 w2 hown2 hgrow2 hnil2
        clear hnil2
        have hown3 := step_own xs s k hlt [92, 98] (by simp [esc, H8.out]) (by rw [HLk.out]; exact hown2)
        have hnx2 : Below B w w2 := hnx.grown hgrow2 hBr (fun k hk => (hown.lt k hk).1)
        clear hown2 hgrow2 hown hnx
        go_wp2
        go_roundw
        case rel => exact ⟨k + 1, by omega, by go_num, hown3, hnx2⟩
        case measure => simp [intOf]; omega
      have hc8 : ((s[k].toNat : Int) == 8) = false := by rw [beq_eq_false_iff_ne]; omega
      by_cases h12' : s[k].toNat = 12
      · have hc12 : ((s[k].toNat : Int) == 12) = true := by rw [beq_iff_eq]; omega
        have H12 := Lib.hid h12'
        clear h12' h34 h92
        go_wp2_with (at_builtin; refine Lib.wpList_append_own_string _ rfl (.tmp 54) _ 22 9 rfl B 5 i0 Tryd.underlying22 Tryd.underlying9 hi hz0 hz1 hz2 _ _ _ rfl hown ⟨#[92, 102]⟩ rfl (by have : (⟨#[92, 102]⟩ : ByteArray).size = 2 := rfl; unfold maxLen; omega) (by have : (⟨#[92, 102]⟩ : ByteArray).size = 2 := rfl; omega) hBr ?_)
        intro v2 w2 hown2 hgrow2 hnil2
        clear hnil2
        have hown3 := step_own xs s k hlt [92, 102] (by simp [esc, H12.out]) (by rw [HLk.out]; exact hown2)
        have hnx2 : Below B w w2 := hnx.grown hgrow2 hBr (fun k hk => (hown.lt k hk).1)
        clear hown2 hgrow2 hown hnx
        go_wp2
        go_roundw
        case rel => exact ⟨k + 1, by omega, by go_num, hown3, hnx2⟩
        case measure => simp [intOf]; omega
      have hc12 : ((s[k].toNat : Int) == 12) = false := by rw [beq_eq_false_iff_ne]; omega
      by_cases h10' : s[k].toNat = 10
      · have hc10 : ((s[k].toNat : Int) == 10) = true := by rw [beq_iff_eq]; omega
        have H10 := Lib.hid h10'
        clear h10' h34 h92
        go_wp2_with (at_builtin; refine Lib.wpList_append_own_string _ rfl (.tmp 59) _ 22 9 rfl B 5 i0 Tryd.underlying22 Tryd.underlying9 hi hz0 hz1 hz2 _ _ _ rfl hown ⟨#[92, 110]⟩ rfl (by have : (⟨#[92, 110]⟩ : ByteArray).size = 2 := rfl; unfold maxLen; omega) (by have : (⟨#[92, 110]⟩ : ByteArray).size = 2 := rfl; omega) hBr ?_)
        intro v2 w2 hown2 hgrow2 hnil2
        clear hnil2
        have hown3 := step_own xs s k hlt [92, 110] (by simp [esc, H10.out]) (by rw [HLk.out]; exact hown2)
        have hnx2 : Below B w w2 := hnx.grown hgrow2 hBr (fun k hk => (hown.lt k hk).1)
        clear hown2 hgrow2 hown hnx
        go_wp2
        go_roundw
        case rel => exact ⟨k + 1, by omega, by go_num, hown3, hnx2⟩
        case measure => simp [intOf]; omega
      have hc10 : ((s[k].toNat : Int) == 10) = false := by rw [beq_eq_false_iff_ne]; omega
      by_cases h13' : s[k].toNat = 13
      · have hc13 : ((s[k].toNat : Int) == 13) = true := by rw [beq_iff_eq]; omega
        have H13 := Lib.hid h13'
        clear h13' h34 h92
        go_wp2_with (at_builtin; refine Lib.wpList_append_own_string _ rfl (.tmp 64) _ 22 9 rfl B 5 i0 Tryd.underlying22 Tryd.underlying9 hi hz0 hz1 hz2 _ _ _ rfl hown ⟨#[92, 114]⟩ rfl (by have : (⟨#[92, 114]⟩ : ByteArray).size = 2 := rfl; unfold maxLen; omega) (by have : (⟨#[92, 114]⟩ : ByteArray).size = 2 := rfl; omega) hBr ?_)
        intro v2 w2 hown2 hgrow2 hnil2
        clear hnil2
        have hown3 := step_own xs s k hlt [92, 114] (by simp [esc, H13.out]) (by rw [HLk.out]; exact hown2)
        have hnx2 : Below B w w2 := hnx.grown hgrow2 hBr (fun k hk => (hown.lt k hk).1)
        clear hown2 hgrow2 hown hnx
        go_wp2
        go_roundw
        case rel => exact ⟨k + 1, by omega, by go_num, hown3, hnx2⟩
        case measure => simp [intOf]; omega
      have hc13 : ((s[k].toNat : Int) == 13) = false := by rw [beq_eq_false_iff_ne]; omega
      by_cases h9' : s[k].toNat = 9
      · have hc9 : ((s[k].toNat : Int) == 9) = true := by rw [beq_iff_eq]; omega
        have H9 := Lib.hid h9'
        clear h9' h34 h92
        go_wp2_with (at_builtin; refine Lib.wpList_append_own_string _ rfl (.tmp 69) _ 22 9 rfl B 5 i0 Tryd.underlying22 Tryd.underlying9 hi hz0 hz1 hz2 _ _ _ rfl hown ⟨#[92, 116]⟩ rfl (by have : (⟨#[92, 116]⟩ : ByteArray).size = 2 := rfl; unfold maxLen; omega) (by have : (⟨#[92, 116]⟩ : ByteArray).size = 2 := rfl; omega) hBr ?_)
        intro v2 w2 hown2 hgrow2 hnil2
        clear hnil2
        have hown3 := step_own xs s k hlt [92, 116] (by simp [esc, H9.out]) (by rw [HLk.out]; exact hown2)
        have hnx2 : Below B w w2 := hnx.grown hgrow2 hBr (fun k hk => (hown.lt k hk).1)
        clear hown2 hgrow2 hown hnx
        go_wp2
        go_roundw
        case rel => exact ⟨k + 1, by omega, by go_num, hown3, hnx2⟩
        case measure => simp [intOf]; omega
      have hc9 : ((s[k].toNat : Int) == 9) = false := by rw [beq_eq_false_iff_ne]; omega
      obtain ⟨q, hq⟩ : ∃ q : Nat, q = s[k].toNat / 16 := ⟨_, rfl⟩
      obtain ⟨r, hr⟩ : ∃ r : Nat, r = s[k].toNat % 16 := ⟨_, rfl⟩
      have hq1 : (s[k].toNat : Int) / 16 = (q : Int) := by omega
      have hr1 : bits BinOp.and IntKind.u8 (s[k].toNat : Int) 15 = (r : Int) := by rw [bits15 _ (by omega), hr]
      have hq2 : q < 16 := by omega
      have hr2 : r < 16 := by omega
      have hq3 : (0 : Int) ≤ (q : Int) ∧ (q : Int) < 16 := by omega
      have hr3 : (0 : Int) ≤ (r : Int) ∧ (r : Int) < 16 := by omega
      have hq4 : ∀ h, (⟨#[48, 49, 50, 51, 52, 53, 54, 55, 56, 57, 97, 98, 99, 100, 101, 102]⟩ : ByteArray)[q]'h = hexd q := fun h => hexAt q hq2
      have hr4 : ∀ h, (⟨#[48, 49, 50, 51, 52, 53, 54, 55, 56, 57, 97, 98, 99, 100, 101, 102]⟩ : ByteArray)[r]'h = hexd r := fun h => hexAt r hr2
      have he : esc s[k] = [92, 117, 48, 48, hexd q, hexd r] := by simp [esc, h34, h92, h32, h8', h12', h10', h13', h9', hq, hr]
      have HE := Lib.hid he
      clear he hq hr
      have hownD : ∀ o : Obj, (wr.drew.alloc o).ownsRow B 5 1 u0 Lk.length (Lib.byteCells Lk) := fun o => (show wr.drew.ownsRow B 5 1 u0 Lk.length (Lib.byteCells Lk) from hown).alloc o
      go_wp2_with fail
      go_region_law ((refine step_append_lies _ (by rfl) _ _ _ (by rfl) B 5 i0 (.int .u8 0) 1 1 Tryd.underlying22 hi hz0 hz1 hz2 rfl (by decide) u0 Lk.length (Lib.byteCells Lk) (by rfl) (by exact hownD _) ⟨wr.heap.size, 0, none⟩ 6 6 (Lib.byteCells [92, 117, 48, 48, hexd q, hexd r]) (by rfl) rfl (by exact cells_new wr.drew _ _) (ones _) (by decide) (by unfold maxLen; omega) (by omega) (by simp; omega) (wr.heap.size + 1) (by simp) ?_; intro g cap w2 hown2 hgrow2 hat hlt2))
      all_goals
        have hown3 := step_own xs s k hlt [92, 117, 48, 48, hexd q, hexd r] HE.out (by rw [HLk.out]; exact hown2)
        have hnx2 : Below B w w2 := ((show Below B w wr.drew from hnx.drew).alloc hBr _).grown hgrow2 (by simp; omega) (fun k hk => (hown.lt k hk).1)
        clear hown2 hgrow2 hown hnx hownD hat
        go_wp2
        go_roundw
        case rel => exact ⟨k + 1, by omega, by go_num, hown3, hnx2⟩
        case measure => simp [intOf]; omega
    · have hke : k = s.size := by omega
      have HK := Lib.hid hke
      clear hke
      go_wp2_with (at_builtin; refine wpList_append_own _ rfl (.tmp 71) (.tmp 72) 22 rfl B 5 i0 (.int .u8 0) 1 1 Tryd.underlying22 hi hz0 hz1 hz2 rfl (by decide) _ _ _ rfl (hown.alloc _) ⟨wr.heap.size, 0, none⟩ 1 1 (Lib.byteCells [34]) rfl rfl (cells_new _ _ _) (ones _) (by unfold maxLen; omega) (by omega) (by simp; omega) ?_)
      intro v2 w2 hown2 hgrow2 hnil2
      clear hnil2
      have hnx2 : Below B w w2 := (hnx.alloc hBr _).grown hgrow2 (by simp; omega) (fun k hk => (hown.lt k hk).1)
      have hown3 : w2.ownsRow B 5 1 v2 (xs ++ quo s.data.toList).length (Lib.byteCells (xs ++ quo s.data.toList)) := by
        have e1 : xs ++ quo s.data.toList = Lk ++ [34] := by
          rw [← HLk.out, HK.out, List.take_of_length_le (by simp)]
          simp [quo]
        rw [e1, Lib.byteCells_append, List.length_append]
        exact hown2
      clear hown2 hgrow2 hown hnx
      go_wp2
      go_ret
      exact ⟨v2, rfl, hown3, hnx2⟩


/-- canon.AppendString: the same. -/
theorem AppendString_full (B g : Nat) (xs : List UInt8) (s : ByteArray) (w : World) (hold : ∀ j u, (Lib.byteCells xs)[j]? = some u → w.cell? ((⟨g, 0, none⟩ : Addr).add j) = some u) (hgw : g < w.heap.size) (hB : B ≤ w.heap.size) (hs : s.size ≤ 1048576) (hx : xs.length ≤ 100000000) :
    Calls Tryd.prog 17 #[.slice (some ⟨g, 0, none⟩) xs.length xs.length, .string s] w fun e w' => ∃ v', e = .returned v' ∧ w'.ownsRow B 5 1 v' (xs ++ quo s.data.toList).length (Lib.byteCells (xs ++ quo s.data.toList)) ∧ Below B w w' := by
  have H := Lib.hid (appendString_full B g xs s w hold hgw hB hs hx)
  clear hold
  go_enter Tryd.func17, Tryd.ntmps17
  go_wp2_with (go_at_call 25; refine (H.out).mono ?_; rintro e w1 ⟨v1, rfl, hown1, hnx1⟩)
  go_ret
  exact ⟨v1, rfl, hown1, hnx1⟩

end Go.Proofs.Qxb6600084aDoor
