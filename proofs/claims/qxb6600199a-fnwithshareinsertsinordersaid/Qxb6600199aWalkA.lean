/-
  DERIVED. Seat b6600199a: the small walks: zzBytes, zzLess, sessionNumber, shared.
-/
import Derived.Test.Qxb6600199aProg
import Derived.Test.Qxb6600199aPlain
import Derived.WalkKit
import Derived.WalkSpells
import Derived.WalkLawsBesides
import Derived.Deep.QuietTactic
import Derived.BigQuiet
import Derived.Lib.Hide
import Derived.Laws.BitsLemmas
namespace Go.Proofs.Qxb6600199a
open Go.RowKit

set_option maxHeartbeats 1000000 in
theorem bytes_any (h s : ByteArray) (l r tk : Int) (g : Bool) (w : World) (hh : h.size ≤ maxLen) (hs : s.size ≤ maxLen) :
    Calls Try.prog 16 #[.string h, .int .u64 l, .int .u32 r, .bool g, .string s, .int .u64 tk] w fun e w' => ∃ b, e = .returned (.bool b) ∧ (b = true → h.size + s.size ≤ 1048576) ∧ w' = w := by
  unfold maxLen at hh hs
  go_enter Try.func16, Try.ntmps16
  go_wp2
  all_goals go_ret
  all_goals refine ⟨_, rfl, fun h => ?_, rfl⟩
  all_goals first | (exact absurd h (by decide)) | omega

set_option maxHeartbeats 1000000 in
theorem less_any (a b : ByteArray) (w : World) (ha : a.size = 4) (hb : b.size = 4) :
    Calls Try.prog 15 #[.string a, .string b] w fun e w' => e = .returned (.bool (lessB a b)) ∧ ∃ q, w' = w.drewN q := by
  have HA := Lib.hid ha
  have HB := Lib.hid hb
  have ha' : 4 ≤ a.size := by omega
  have hb' : 4 ≤ b.size := by omega
  clear ha hb
  go_enter Try.func15, Try.ntmps15
  go_wp2
  go_loopw [5] (fun i wr => ∃ k : Nat, k ≤ 4 ∧ i = .int .i64 k ∧ (∀ j, j < k → bt a j = bt b j) ∧ ∃ q, wr = w.drewN q) (fun i _ => 4 - (intOf i).toNat)
  case atStart => exact ⟨0, Nat.zero_le _, rfl, fun j hj => absurd hj (Nat.not_lt_zero _), 0, rfl⟩
  case round =>
    obtain ⟨k, hk, rfl, he, q, rfl⟩ := hrel
    have HE := Lib.hid he
    clear he
    by_cases hlt : k < 4
    · have l1 : k < a.size := by omega
      have l2 : k < b.size := by omega
      have l3 : (k : Int) < (a.size : Int) := by omega
      have l4 : (k : Int) < (b.size : Int) := by omega
      have l5 : (0 : Int) ≤ (k : Int) := by omega
      have x1 := bt_get a k l1
      have x2 := bt_get b k l2
      by_cases hne : bt a k = bt b k
      · have hb1 : ((bt a k : Int) != (bt b k : Int)) = false := by simp [hne]
        have HN := Lib.hid hne
        clear hne
        go_wp2_with fail
        go_quiet (fail)
        go_wp2
        go_roundw
        case rel => exact ⟨k + 1, by omega, by go_num, fun j hj => by rcases Nat.lt_or_ge j k with h | h; exact HE.out j h; obtain rfl : j = k := by omega
                                                                      exact HN.out, _, rfl⟩
        case measure => simp [intOf]; omega
      · have hb1 : ((bt a k : Int) != (bt b k : Int)) = true := by rw [bne_iff_ne]; omega
        have HN := Lib.hid hne
        clear hne
        go_wp2_with fail
        go_quiet (fail)
        go_wp2_with fail
        go_quiet (fail)
        go_wp2
        go_ret
        rw [less_at a b k hlt HE.out HN.out]
        refine ⟨?_, _, by rw [World.drewN_drewN, World.drewN_drewN]⟩
        have : decide ((bt a k : Int) < (bt b k : Int)) = decide (bt a k < bt b k) := by simp
        rw [← this]
        rfl
    · go_wp2
      go_ret
      rw [less_same a b (fun j hj => HE.out j (by omega))]
      exact ⟨rfl, q, rfl⟩

theorem wr32 (n : Int) (h0 : 0 ≤ n) (h1 : n < 2 ^ 32) : IntKind.u32.wrap n = n := by rw [IntKind.wrap_u32]; omega

theorem or32 (i : Nat) (x y : Int) (hx0 : 0 ≤ x) (hx : x % 2 ^ i = 0) (hx1 : x < 2 ^ 32) (hy0 : 0 ≤ y) (hy : y < 2 ^ i) (hy1 : y < 2 ^ 32) : bits .or .u32 x y = x + y :=
  bits_join .u32 32 (by decide) wr32 i x y hx0 hx hx1 hy0 hy hy1

set_option maxHeartbeats 1000000 in
theorem number_any (a : ByteArray) (w : World) (ha : a.size = 4) :
    Calls Try.prog 38 #[.string a] w fun e w' => e = .returned (.int .u32 (num a)) ∧ ∃ q, w' = w.drewN q := by
  have l0 : 0 < a.size := by omega
  have l1 : 1 < a.size := by omega
  have l2 : 2 < a.size := by omega
  have l3 : 3 < a.size := by omega
  have l4 : (3 : Int) < (a.size : Int) := by omega
  have l5 : (2 : Int) < (a.size : Int) := by omega
  have l6 : (1 : Int) < (a.size : Int) := by omega
  have l7 : (0 : Int) < (a.size : Int) := by omega
  have x0 := bt_get a 0 l0
  have x1 := bt_get a 1 l1
  have x2 := bt_get a 2 l2
  have x3 := bt_get a 3 l3
  have b0 := bt_lt a 0
  have b1 := bt_lt a 1
  have b2 := bt_lt a 2
  have b3 := bt_lt a 3
  clear ha
  have hv : ((num a : Nat) : Int) = (bt a 0 : Int) * 16777216 + (bt a 1 : Int) * 65536 + (bt a 2 : Int) * 256 + (bt a 3 : Int) := by unfold num; omega
  have HV := Lib.hid hv
  clear hv
  have o1 : bits .or .u32 ((bt a 0 : Int) * 16777216) ((bt a 1 : Int) * 65536) = (bt a 0 : Int) * 16777216 + (bt a 1 : Int) * 65536 := or32 24 _ _ (by omega) (by omega) (by omega) (by omega) (by omega) (by omega)
  have o2 : bits .or .u32 ((bt a 0 : Int) * 16777216 + (bt a 1 : Int) * 65536) ((bt a 2 : Int) * 256) = (bt a 0 : Int) * 16777216 + (bt a 1 : Int) * 65536 + (bt a 2 : Int) * 256 := or32 16 _ _ (by omega) (by omega) (by omega) (by omega) (by omega) (by omega)
  have o3 : bits .or .u32 ((bt a 0 : Int) * 16777216 + (bt a 1 : Int) * 65536 + (bt a 2 : Int) * 256) (bt a 3 : Int) = (bt a 0 : Int) * 16777216 + (bt a 1 : Int) * 65536 + (bt a 2 : Int) * 256 + (bt a 3 : Int) := or32 8 _ _ (by omega) (by omega) (by omega) (by omega) (by omega) (by omega)
  go_enter Try.func38, Try.ntmps38
  go_wp2_with fail
  go_quiet (fail)
  go_wp2
  go_ret
  rw [HV.out]
  exact ⟨rfl, nq, rfl⟩

set_option maxHeartbeats 1000000 in
theorem shared_any (h : ByteArray) (l r : Int) (g : Bool) (w : World) :
    Calls Try.prog 37 #[.agg #[.string h, .int .u64 l, .int .u32 r, .bool g]] w fun e w' => e = .returned (.bool (decide ((4 : Int) < (h.size : Int)))) ∧ Below w.heap.size w w' := by
  go_enter Try.func37, Try.ntmps37
  go_wp2
  go_ret
  exact ⟨rfl, (Below.refl _ _).alloc (Nat.le_refl _) _⟩

set_option maxHeartbeats 1000000 in
theorem tokenOf_any (h : ByteArray) (p : Nat) (w : World) (hp : p + 12 ≤ h.size) (hh : h.size ≤ 2000000) :
    Calls Try.prog 31 #[.string h, .int .i64 p] w fun e w' => ∃ t, e = .returned (.int .u64 t) ∧ w' = w := by
  go_enter Try.func31, Try.ntmps31
  go_wp2
  go_loop [5, 6] (fun t i => ∃ k : Nat, ∃ x : Int, k ≤ 8 ∧ i = .int .i64 k ∧ t = .int .u64 x) (fun _ i => 8 - (intOf i).toNat)
  case atStart => exact ⟨0, 0, Nat.zero_le _, rfl, rfl⟩
  case round =>
    obtain ⟨k, x, hk, rfl, rfl⟩ := hrel
    by_cases hlt : k < 8
    · go_wp2
      go_round
      case rel => exact ⟨k + 1, _, by omega, by go_num, rfl⟩
      case measure => simp [intOf]; omega
    · go_wp2
      go_ret
      exact ⟨⟨x, rfl⟩, rfl⟩

theorem ext_size (h : ByteArray) (p : Nat) (hp : p + 4 ≤ h.size) : (h.extract p (p + 4)).size = 4 := by simp; omega

/-- The row's names. -/
def nm (h : ByteArray) (i : Nat) : ByteArray := h.extract (12 * i) (12 * i + 4)

def WellP (h : ByteArray) : Prop := 12 ≤ h.size ∧ h.size % 12 = 0 ∧ ∀ i, 12 * (i + 1) < h.size → num (nm h i) < num (nm h (i + 1))

set_option maxHeartbeats 1000000 in
theorem well_any (h : ByteArray) (w : World) (hh : h.size ≤ 2000000) :
    Calls Try.prog 17 #[.string h] w fun e w' => ∃ b, e = .returned (.bool b) ∧ (b = true ↔ WellP h) ∧ ∃ q, w' = w.drewN q := by
  by_cases h1 : h.size < 12
  · have d1 : decide ((h.size : Int) < 12) = true := by simp; omega
    go_enter Try.func17, Try.ntmps17
    go_wp2
    go_ret
    exact ⟨false, rfl, by simp [WellP]; omega, 0, rfl⟩
  have d1 : decide ((h.size : Int) < 12) = false := by simp; omega
  by_cases h2 : h.size % 12 = 0
  · have d2 : (((h.size : Int) % 12) != 0) = false := by rw [bne_eq_false_iff_eq]; omega
    have H2 := Lib.hid h2
    clear h2
    go_enter Try.func17, Try.ntmps17
    go_wp2
    go_loopw [3] (fun i wr => ∃ k p : Nat, p = 12 * k + 12 ∧ p ≤ h.size + 12 ∧ i = .int .i64 p ∧ (∀ j, j < k → num (nm h j) < num (nm h (j + 1))) ∧ ∃ q, wr = w.drewN q) (fun i _ => h.size - (intOf i).toNat)
    case atStart => exact ⟨0, 12, rfl, by omega, rfl, fun j hj => absurd hj (Nat.not_lt_zero _), 0, rfl⟩
    case round =>
      obtain ⟨k, p, hp, hpb, rfl, he, q, hq⟩ := hrel
      have HQ := Lib.hid hq
      clear hq
      have HE := Lib.hid he
      have HP := Lib.hid hp
      have h12 : 12 ≤ p := by omega
      clear he hp
      by_cases hlt : p < h.size
      · obtain ⟨m, rfl⟩ : ∃ m, p = m + 12 := ⟨p - 12, by omega⟩
        have hm4 : m + 12 + 4 ≤ h.size := by have := H2.out; have := HP.out; omega
        have w1 : IntKind.i64.wrap (m : Int) = (m : Int) := by rw [IntKind.wrap_i64]; omega
        have w2 : IntKind.i64.wrap ((m : Int) + 4) = (m : Int) + 4 := by rw [IntKind.wrap_i64]; omega
        have w3 : IntKind.i64.wrap ((m : Int) + 12 + 4) = (m : Int) + 12 + 4 := by rw [IntKind.wrap_i64]; omega
        have c1 : (0 : Int) ≤ (m : Int) + 4 ∧ (m : Int) + 4 ≤ (h.size : Int) := by omega
        have c2 : (0 : Int) ≤ (m : Int) ∧ (m : Int) ≤ (m : Int) + 4 := by omega
        have c3 : (0 : Int) ≤ (m : Int) + 12 + 4 ∧ (m : Int) + 12 + 4 ≤ (h.size : Int) := by omega
        have c4 : (0 : Int) ≤ (m : Int) + 12 ∧ (m : Int) + 12 ≤ (m : Int) + 12 + 4 := by omega
        have n1 : ((m : Int) + 4).toNat = m + 4 := by omega
        have n2 : ((m : Int) + 12).toNat = m + 12 := by omega
        have n3 : ((m : Int) + 12 + 4).toNat = m + 12 + 4 := by omega
        have ek : m = 12 * k := by have := HP.out; omega
        have en1 : h.extract m (m + 4) = nm h k := by rw [ek]; rfl
        have en2 : h.extract (m + 12) (m + 12 + 4) = nm h (k + 1) := by rw [ek]; unfold nm; rw [show 12 * (k + 1) = 12 * k + 12 by omega]
        have sz1 : (nm h k).size = 4 := by rw [← en1]; exact ext_size h m (by omega)
        have sz2 : (nm h (k + 1)).size = 4 := by rw [← en2]; exact ext_size h (m + 12) (by omega)
        have SZ1 := Lib.hid sz1
        have SZ2 := Lib.hid sz2
        have EK := Lib.hid ek
        clear ek sz1 sz2
        obtain ⟨b, hb⟩ : ∃ b, b = lessB (nm h k) (nm h (k + 1)) := ⟨_, rfl⟩
        have HL : ∀ wx, Calls Try.prog 15 #[.string (nm h k), .string (nm h (k + 1))] wx fun e w' => e = .returned (.bool b) ∧ ∃ q, w' = wx.drewN q := fun wx => by rw [hb]; exact less_any _ _ _ SZ1.out SZ2.out
        have HLL := Lib.hid HL
        have HB := Lib.hid hb
        clear HL hb
        go_wp2_with fail
        go_quiet ((go_at_call 15; exact Calls.quiet_of (HLL.out _)))
        cases b
        · go_wp2
          go_ret
          refine ⟨false, rfl, ?_, _, by rw [HQ.out, World.drewN_drewN]⟩
          constructor
          · intro h'; cases h'
          · intro hw
            have h1 := hw.2.2 k (by have := EK.out; omega)
            have h2 : lessB (nm h k) (nm h (k + 1)) = true := by simp [lessB, h1]
            rw [← HB.out] at h2
            cases h2
        · go_wp2
          go_roundw
          case rel =>
            refine ⟨k + 1, m + 12 + 12, by have := EK.out; omega, by omega, by go_num, ?_, _, by rw [HQ.out, World.drewN_drewN]⟩
            intro j hj
            rcases Nat.lt_or_ge j k with h' | h'
            · exact HE.out j h'
            · obtain rfl : j = k := by omega
              have h2 := HB.out
              simpa [lessB] using h2.symm
          case measure => simp [intOf]; omega
      · go_wp2
        go_ret
        refine ⟨true, rfl, ?_, q, HQ.out⟩
        constructor
        · intro _
          exact ⟨by omega, H2.out, fun i hi => HE.out i (by have := HP.out; omega)⟩
        · intro _; rfl
  · have d2 : (((h.size : Int) % 12) != 0) = true := by rw [bne_iff_ne]; omega
    have H2 := Lib.hid h2
    clear h2
    go_enter Try.func17, Try.ntmps17
    go_wp2
    go_ret
    exact ⟨false, rfl, by constructor; (intro h'; cases h'); (intro hw; exact absurd hw.2.1 H2.out), 0, rfl⟩

end Go.Proofs.Qxb6600199a
