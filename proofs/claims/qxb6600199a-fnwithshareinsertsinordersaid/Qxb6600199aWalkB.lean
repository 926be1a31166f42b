/-
  DERIVED. Seat b6600199a: the walk of zzFind.
-/
import Derived.Test.Qxb6600199aWalkA
namespace Go.Proofs.Qxb6600199a
open Go.RowKit

theorem nm_size (h : ByteArray) (k : Nat) (hk : 12 * k + 4 ≤ h.size) : (nm h k).size = 4 := ext_size h (12 * k) hk

set_option maxHeartbeats 1000000 in
theorem find_none (h s : ByteArray) (w : World) (h0 : h.size = 0) :
    Calls Try.prog 13 #[.string h, .string s] w fun e w' => e = .returned (.tuple #[.int .i64 0, .bool false, .int .u64 0]) ∧ w' = w := by
  have l0 : h.size ≤ 4 := by omega
  clear h0
  go_enter Try.func13, Try.ntmps13
  go_wp2
  go_ret3
  exact ⟨rfl, rfl⟩

set_option maxHeartbeats 1000000 in
theorem find_some (h s : ByteArray) (w : World) (hh : h.size ≤ 2000000) (h1 : 12 ≤ h.size) (hs : s.size = 4) :
    Calls Try.prog 13 #[.string h, .string s] w fun e w' => ∃ (cnt tok : Int) (f : Bool), e = .returned (.tuple #[.int .i64 cnt, .bool f, .int .u64 tok]) ∧ (f = false → ∀ i, 12 * i + 12 ≤ h.size → num (nm h i) ≠ num s) ∧ ∃ q, w' = w.drewN q := by
  have HS := Lib.hid hs
  clear hs
  go_enter Try.func13, Try.ntmps13
  go_wp2
  go_loopw [7, 8, 9, 10] (fun c f t i wr => ∃ (k p cn : Nat) (fb : Bool) (tk : Int), p = 12 * k ∧ p ≤ h.size + 12 ∧ cn ≤ k ∧ c = .int .i64 cn ∧ f = .bool fb ∧ t = .int .u64 tk ∧ i = .int .i64 p ∧ (fb = false → ∀ j, j < k → num (nm h j) ≠ num s) ∧ ∃ q, wr = w.drewN q) (fun _ _ _ i _ => h.size + 1 - (intOf i).toNat)
  case atStart => exact ⟨0, 0, 0, false, 0, rfl, by omega, Nat.le_refl _, rfl, rfl, rfl, rfl, fun _ j hj => absurd hj (Nat.not_lt_zero _), 0, rfl⟩
  case round =>
    obtain ⟨k, p, cn, fb, tk, hp, hpb, hcn, rfl, rfl, rfl, rfl, he, q, hq⟩ := hrel
    have HQ := Lib.hid hq
    have HE := Lib.hid he
    have HP := Lib.hid hp
    have hkb : cn ≤ 1000000 := by omega
    clear he hp hq
    by_cases hlt : p + 12 ≤ h.size
    · have n1 : ((p : Int) + 4).toNat = p + 4 := by omega
      have en1 : h.extract p (p + 4) = nm h k := by rw [HP.out]; rfl
      have sz1 : (nm h k).size = 4 := by rw [← en1]; exact ext_size h p (by omega)
      have SZ1 := Lib.hid sz1
      clear sz1
      obtain ⟨b, hb⟩ : ∃ b, b = lessB (nm h k) s := ⟨_, rfl⟩
      have HL : ∀ wx, Calls Try.prog 15 #[.string (nm h k), .string s] wx fun e w' => e = .returned (.bool b) ∧ ∃ q, w' = wx.drewN q := fun wx => by rw [hb]; exact less_any _ _ _ SZ1.out HS.out
      have HLL := Lib.hid HL
      have HB := Lib.hid hb
      clear HL hb
      cases b
      · go_wp2_with (first | (go_at_call 15; refine (HLL.out _).mono ?_; rintro e wx ⟨rfl, q2, rfl⟩) | (go_at_call 31; refine (tokenOf_any h p _ hlt hh).mono ?_; rintro e wx ⟨t2, rfl, rfl⟩))
        · go_roundw
          case rel => exact ⟨k + 1, p + 12, cn, true, t2, by have := HP.out; omega, by omega, by omega, rfl, rfl, rfl, by go_num, fun h => absurd h (by decide), _, by rw [HQ.out, World.drewN_drewN]⟩
          case measure => simp [intOf]; omega
        · have hne : ((nm h k).toList == s.toList) = false := by assumption
          go_roundw
          case rel =>
            refine ⟨k + 1, p + 12, cn, fb, tk, by have := HP.out; omega, by omega, by omega, rfl, rfl, rfl, by go_num, ?_, _, by rw [HQ.out, World.drewN_drewN]⟩
            intro hf j hj
            rcases Nat.lt_or_ge j k with h' | h'
            · exact HE.out hf j h'
            · obtain rfl : j = k := by omega
              intro e
              rw [num_inj _ _ SZ1.out HS.out e] at hne
              simp at hne
          case measure => simp [intOf]; omega
      · go_wp2_with (go_at_call 15; refine (HLL.out _).mono ?_; rintro e wx ⟨rfl, q2, rfl⟩)
        go_roundw
        case rel =>
          refine ⟨k + 1, p + 12, cn + 1, fb, tk, by have := HP.out; omega, by omega, by omega, by go_num, rfl, rfl, by go_num, ?_, _, by rw [HQ.out, World.drewN_drewN]⟩
          intro hf j hj
          rcases Nat.lt_or_ge j k with h' | h'
          · exact HE.out hf j h'
          · obtain rfl : j = k := by omega
            have h2 := HB.out
            intro e
            simp [lessB, e] at h2
        case measure => simp [intOf]; omega
    · go_wp2
      go_ret3
      exact ⟨_, _, fb, rfl, fun hf i hi => HE.out hf i (by have := HP.out; omega), q, HQ.out⟩

end Go.Proofs.Qxb6600199a
