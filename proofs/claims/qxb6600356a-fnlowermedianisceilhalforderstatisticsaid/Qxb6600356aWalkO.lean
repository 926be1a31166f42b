/-
  DERIVED. Seat b6600356a: the two laws' own bodies.
-/
import Derived.Test.Qxb6600356aWalkN
namespace Go.Proofs.Qxb6600356a
open Go.RowKit Go.Maps Go.Sort Go.Lib

/-- WHAT THE WALK IS TOLD OF THE SLICE THAT CAME IN. -/
structure Came (w : World) (a : Option Addr) (len cap : Nat) (zs : List Int) : Prop where
  max : len ≤ maxLen
  nil : a = none → len = 0 ∧ cap = 0
  row : Row w a len zs
  len : len ≤ zs.length
  wf : ∀ n ∈ zs, (Lit.int .u64 n).wf = true

/-- clone, map, median, one after the other. -/
theorem countP_step (p : Int → Bool) (zs : List Int) (k : Nat) (h : k < zs.length) : (zs.take (k + 1)).countP p = (zs.take k).countP p + (if p (zs.getD k 0) then 1 else 0) := by
  rw [List.take_add_one, List.countP_append, List.getElem?_eq_getElem h, List.getD, List.getElem?_eq_getElem h]
  simp [List.countP_cons]

theorem mem_step (r : Int) (zs : List Int) (k : Nat) (h : k < zs.length) : decide (r ∈ zs.take (k + 1)) = (decide (r ∈ zs.take k) || decide (zs.getD k 0 = r)) := by
  have e : zs.take (k + 1) = zs.take k ++ [zs.getD k 0] := by rw [List.take_add_one, List.getElem?_eq_getElem h, List.getD, List.getElem?_eq_getElem h]; rfl
  rw [e, ← Bool.decide_or]
  refine decide_eq_decide.2 ?_
  rw [List.mem_append, List.mem_singleton, eq_comm (a := r)]

theorem med_none {r : Int} (h : IsMed [] r) : r = 0 := by
  rcases h with ⟨_, h⟩ | ⟨h, _⟩
  · exact h
  · simp at h

set_option maxRecDepth 100000 in
set_option maxHeartbeats 2000000 in
theorem law3_zero (a : Option Addr) (cap : Nat) (zs : List Int) (w : World) (h : Came w a 0 cap zs) :
    Calls Try.prog 3 #[.slice a 0 cap] w fun e w' => e = .returned (.bool true) ∧ Below w.heap.size w w' := by
  obtain ⟨hmax, hnil, hrow, hz, hwf⟩ := h
  have hb := bytes11 a 0 cap w hmax
  have hcl := clone a 0 cap zs w hrow hnil (by omega)
  have hlm : ∀ a' w', Row w' a' 0 zs → Calls Try.prog 14 #[.slice a' 0 0] w' _ := fun a' w' hr => lmMap a' 0 0 zs w' hr (by omega) hz hwf
  have hzm : ∀ b w', _ → Calls Try.prog 13 #[.map (some b)] w' _ := fun b w' hr => ZZLowerMedian b 0 0 zs w' hr (by omega) hz
  go_enter Try.func3, Try.ntmps3
  go_wp2_with (first
    | (go_at_call 11; refine hb.mono ?_; rintro e w' ⟨rfl, rfl⟩)
    | (go_at_call 12; refine hcl.mono ?_; rintro e w1 ⟨a', rfl, hr1, hb1⟩)
    | (go_at_call 14; refine (hlm a' _ hr1).mono ?_; rintro e w2 ⟨rfl, hm2, hb2⟩)
    | (go_at_call 13; refine (hzm _ _ hm2).mono ?_; rintro e w3 ⟨r, rfl, hmed, hb3⟩; obtain rfl := med_none hmed))
  go_ret
  exact ⟨rfl, (hb1.trans (hb2.mono hb1.size)).trans (hb3.mono (Nat.le_trans hb1.size hb2.size))⟩

set_option maxRecDepth 100000 in
set_option maxHeartbeats 2000000 in
theorem law3_small (a : Option Addr) (len cap : Nat) (zs : List Int) (w : World) (h : Came w a len cap zs) (hlen : len ≤ 131072) (h0 : 0 < len) :
    Calls Try.prog 3 #[.slice a len cap] w fun e w' => e = .returned (.bool true) ∧ Below w.heap.size w w' := by
  obtain ⟨hmax, hnil, hrow, hz, hwf⟩ := h
  have hb := bytes11 a len cap w hmax
  rw [decide_eq_true (show len ≤ 1048576 by omega)] at hb
  have h1 : decide ((len : Int) > 131072) = false := decide_eq_false (by omega)
  have h2 : ((len : Int) == 0) = false := by simp; omega
  have hcl := clone a len cap zs w hrow hnil hlen
  have hlm : ∀ a' w', Row w' a' len zs → Calls Try.prog 14 #[.slice a' len len] w' _ := fun a' w' hr => lmMap a' len len zs w' hr hlen hz hwf
  have hzm : ∀ b w', _ → Calls Try.prog 13 #[.map (some b)] w' _ := fun b w' hr => ZZLowerMedian b len len zs w' hr hlen hz
  have HM : Hid (len ≤ maxLen) := hmax
  clear hmax
  go_enter Try.func3, Try.ntmps3
  go_wp2_with (first
    | (go_at_call 11; refine hb.mono ?_; rintro e w' ⟨rfl, rfl⟩)
    | (go_at_call 12; refine hcl.mono ?_; rintro e w1 ⟨a', rfl, hr1, hb1⟩)
    | (go_at_call 14; refine (hlm a' _ hr1).mono ?_; rintro e w2 ⟨rfl, hm2, hb2⟩)
    | (go_at_call 13; refine (hzm _ _ hm2).mono ?_; rintro e w3 ⟨r, rfl, hmed, hb3⟩))
  have hr3 : Row w3 a' len zs := (hr1.kept hb2).kept hb3
  have hbel : RowKit.Below w'.heap.size w' w3 := (hb1.trans (hb2.mono hb1.size)).trans (hb3.mono (Nat.le_trans hb1.size hb2.size))
  rcases hr3 with h | ⟨b, off, rfl, hbl, hc⟩
  · omega
  go_loopw [6, 7, 8, 9] (fun v6 v7 v8 v9 wr => ∃ (k nb nu : Nat) (pb : Bool), v6 = .int .i64 nb ∧ v7 = .int .i64 nu ∧ v8 = .bool pb ∧ v9 = .int .i64 k ∧ k ≤ len ∧ nb ≤ k ∧ nu ≤ k ∧
      Hid (nb = (zs.take k).countP fun x => decide (x < r)) ∧ Hid (nu = (zs.take k).countP fun x => decide (x ≤ r)) ∧ Hid (pb = decide (r ∈ zs.take k)) ∧ Hid (wr = w3))
    (fun _ _ _ v9 _ => len - (intOf v9).toNat)
  case atStart => exact ⟨0, 0, 0, false, rfl, rfl, rfl, rfl, Nat.zero_le _, Nat.le_refl _, Nat.le_refl _, by show _ = _; simp, by show _ = _; simp, by show _ = _; simp, rfl⟩
  case round =>
    obtain ⟨k, nb, nu, pb, rfl, rfl, rfl, rfl, hk, hnb, hnu, Hb, Hu, Hp, HW⟩ := hrel
    by_cases hkl : k < len
    · have hck : wr.cell? ⟨b, off + k, none⟩ = some (.int .u64 (zs.getD k 0)) := by rw [HW.out]; exact hc k hkl
      obtain ⟨q, hq⟩ : ∃ q, q = zs.getD k 0 := ⟨_, rfl⟩
      rw [← hq] at hck
      have HS : Hid (_ ∧ _ ∧ _) := ⟨countP_step (fun x => decide (x < r)) zs k (by omega), countP_step (fun x => decide (x ≤ r)) zs k (by omega), mem_step r zs k (by omega)⟩
      rw [← hq] at HS
      have HC : Hid _ := hc
      have HMed : Hid _ := hmed
      clear hq hc hmed
      rcases Int.lt_trichotomy q r with hqr | hqr | hqr
      · have d1 : decide (q < r) = true := decide_eq_true hqr
        have d2 : decide (q ≤ r) = true := decide_eq_true (by omega)
        have d3 : (q == r) = false := by simp; omega
        go_wp2
        go_roundw
        case rel =>
          refine ⟨k + 1, nb + 1, nu + 1, pb, by go_num, by go_num, rfl, by go_num, by omega, by omega, by omega, ?_, ?_, ?_, HW⟩
          · show _ = _; rw [HS.out.1, ← Hb.out, if_pos d1]
          · show _ = _; rw [HS.out.2.1, ← Hu.out, if_pos d2]
          · show _ = _; rw [HS.out.2.2, ← Hp.out, decide_eq_false (show ¬ q = r by omega), Bool.or_false]
        case measure => simp [intOf]; omega
      · have d1 : decide (q < r) = false := decide_eq_false (by omega)
        have d2 : decide (q ≤ r) = true := decide_eq_true (by omega)
        have d3 : (q == r) = true := by simp; omega
        have hqr' : Hid (q = r) := hqr
        clear hqr
        go_wp2
        go_roundw
        case rel =>
          refine ⟨k + 1, nb, nu + 1, true, rfl, by go_num, rfl, by go_num, by omega, by omega, by omega, ?_, ?_, ?_, HW⟩
          · show _ = _; rw [HS.out.1, ← Hb.out, d1]; rfl
          · show _ = _; rw [HS.out.2.1, ← Hu.out, if_pos d2]
          · show _ = _; rw [HS.out.2.2, decide_eq_true hqr'.out, Bool.or_true]
        case measure => simp [intOf]; omega
      · have d1 : decide (q < r) = false := decide_eq_false (by omega)
        have d2 : decide (q ≤ r) = false := decide_eq_false (by omega)
        have d3 : (q == r) = false := by simp; omega
        go_wp2
        go_roundw
        case rel =>
          refine ⟨k + 1, nb, nu, pb, rfl, rfl, rfl, by go_num, by omega, by omega, by omega, ?_, ?_, ?_, HW⟩
          · show _ = _; rw [HS.out.1, ← Hb.out, d1]; rfl
          · show _ = _; rw [HS.out.2.1, ← Hu.out, d2]; rfl
          · show _ = _; rw [HS.out.2.2, ← Hp.out, decide_eq_false (show ¬ q = r by omega), Bool.or_false]
        case measure => simp [intOf]; omega
    · obtain rfl : k = len := by omega
      have hl : (zs.take k).length = k := by rw [List.length_take]; omega
      have e1 : nb < (k + 1) / 2 := by have := med_below hmed (by omega); rw [hl, ← Hb.out] at this; exact this
      have e2 : (k + 1) / 2 ≤ nu := by have := med_upto hmed (by omega); rw [hl, ← Hu.out] at this; exact this
      have e3 : pb = true := by rw [Hp.out]; exact decide_eq_true (med_mem hmed (by omega))
      subst e3
      have t1 : decide ((nb : Int) < ((k : Int) + 1) / 2) = true := decide_eq_true (by omega)
      have t2 : decide ((nu : Int) ≥ ((k : Int) + 1) / 2) = true := decide_eq_true (by omega)
      go_wp2
      go_ret
      exact ⟨rfl, by rw [HW.out]; exact hbel⟩

set_option maxRecDepth 100000 in
theorem law3_big (a : Option Addr) (len cap : Nat) (w : World) (hmax : len ≤ maxLen) (hlen : 131072 < len) :
    Calls Try.prog 3 #[.slice a len cap] w fun e w' => e = .returned (.bool true) ∧ Below w.heap.size w w' := by
  have hb := bytes11 a len cap w hmax
  have h1 : decide ((len : Int) > 131072) = true := decide_eq_true (by omega)
  unfold maxLen at hmax
  by_cases h : len ≤ 1048576
  · rw [decide_eq_true h] at hb
    go_enter Try.func3, Try.ntmps3
    go_wp2_with (go_at_call 11; refine hb.mono ?_; rintro e w' ⟨rfl, rfl⟩)
    go_ret
    exact ⟨rfl, Below.refl _ _⟩
  · rw [decide_eq_false h] at hb
    go_enter Try.func3, Try.ntmps3
    go_wp2_with (go_at_call 11; refine hb.mono ?_; rintro e w' ⟨rfl, rfl⟩)
    go_ret
    exact ⟨rfl, Below.refl _ _⟩

/-- THE FIRST LAW. -/
theorem law3_all (a : Option Addr) (len cap : Nat) (zs : List Int) (w : World) (h : Came w a len cap zs) :
    Calls Try.prog 3 #[.slice a len cap] w fun e w' => e = .returned (.bool true) ∧ Below w.heap.size w w' := by
  by_cases hlen : len ≤ 131072
  · rcases Nat.eq_zero_or_pos len with rfl | h0
    · exact law3_zero a cap zs w h
    · exact law3_small a len cap zs w h hlen h0
  · exact law3_big a len cap w h.max (by omega)

set_option maxRecDepth 100000 in
theorem law4_big (a : Option Addr) (len cap : Nat) (q : Int) (w : World) (hmax : len ≤ maxLen) (hlen : 131072 < len) :
    Calls Try.prog 4 #[.slice a len cap, .int .u64 q] w fun e w' => e = .returned (.bool true) ∧ Below w.heap.size w w' := by
  have hb := bytes15 a len cap q w hmax
  have h1 : decide ((len : Int) > 131072) = true := decide_eq_true (by omega)
  unfold maxLen at hmax
  by_cases h : len ≤ 1048576
  · rw [decide_eq_true h] at hb
    go_enter Try.func4, Try.ntmps4
    go_wp2_with (go_at_call 15; refine hb.mono ?_; rintro e w' ⟨rfl, rfl⟩)
    go_ret
    exact ⟨rfl, Below.refl _ _⟩
  · rw [decide_eq_false h] at hb
    go_enter Try.func4, Try.ntmps4
    go_wp2_with (go_at_call 15; refine hb.mono ?_; rintro e w' ⟨rfl, rfl⟩)
    go_ret
    exact ⟨rfl, Below.refl _ _⟩

set_option maxRecDepth 100000 in
set_option maxHeartbeats 2000000 in
theorem law4_small (a : Option Addr) (len cap : Nat) (zs : List Int) (q : Int) (w : World) (h : Came w a len cap zs) (hq0 : 0 ≤ q) (hlen : len ≤ 131072) :
    Calls Try.prog 4 #[.slice a len cap, .int .u64 q] w fun e w' => e = .returned (.bool true) ∧ Below w.heap.size w w' := by
  obtain ⟨hmax, hnil, hrow, hz, hwf⟩ := h
  have hb := bytes15 a len cap q w hmax
  rw [decide_eq_true (show len ≤ 1048576 by omega)] at hb
  have h1 : decide ((len : Int) > 131072) = false := decide_eq_false (by omega)
  have hcl := clone a len cap zs w hrow hnil hlen
  have hlm : ∀ a' w', Row w' a' len zs → Calls Try.prog 14 #[.slice a' len len] w' _ := fun a' w' hr => lmMap a' len len zs w' hr hlen hz hwf
  have hzm : ∀ b w', _ → Calls Try.prog 13 #[.map (some b)] w' _ := fun b w' hr => ZZLowerMedian b len len zs w' hr hlen hz
  have HM : Hid (len ≤ maxLen) := hmax
  clear hmax
  go_enter Try.func4, Try.ntmps4
  go_wp2_with (first
    | (go_at_call 15; refine hb.mono ?_; rintro e w' ⟨rfl, rfl⟩)
    | (go_at_call 12; refine hcl.mono ?_; rintro e w1 ⟨a', rfl, hr1, hb1⟩)
    | (go_at_call 14; refine (hlm a' _ hr1).mono ?_; rintro e w2 ⟨rfl, hm2, hb2⟩)
    | (go_at_call 13; refine (hzm _ _ hm2).mono ?_; rintro e w3 ⟨r, rfl, hmed, hb3⟩))
  have hr3 : Row w3 a' len zs := (hr1.kept hb2).kept hb3
  have hbel : RowKit.Below w'.heap.size w' w3 := (hb1.trans (hb2.mono hb1.size)).trans (hb3.mono (Nat.le_trans hb1.size hb2.size))
  go_loopw [6, 7] (fun v6 v7 wr => ∃ (k na : Nat), v6 = .int .i64 na ∧ v7 = .int .i64 k ∧ k ≤ len ∧ na ≤ k ∧
      Hid (na = (zs.take k).countP fun x => decide (x > q)) ∧ Hid (wr = w3))
    (fun _ v7 _ => len - (intOf v7).toNat)
  case atStart => exact ⟨0, 0, rfl, rfl, Nat.zero_le _, Nat.le_refl _, by show _ = _; simp, rfl⟩
  case round =>
    obtain ⟨k, na, rfl, rfl, hk, hna, Ha, HW⟩ := hrel
    by_cases hkl : k < len
    · rcases hr3 with h | ⟨b, off, rfl, hbl, hc⟩
      · omega
      have hck : wr.cell? ⟨b, off + k, none⟩ = some (.int .u64 (zs.getD k 0)) := by rw [HW.out]; exact hc k hkl
      obtain ⟨x, hx⟩ : ∃ x, x = zs.getD k 0 := ⟨_, rfl⟩
      rw [← hx] at hck
      have HS : Hid (_ = _) := countP_step (fun x => decide (x > q)) zs k (by omega)
      rw [← hx] at HS
      have HC : Hid _ := hc
      have HMed : Hid _ := hmed
      clear hx hc hmed
      by_cases hqr : x > q
      · have d1 : decide (x > q) = true := decide_eq_true hqr
        go_wp2
        go_roundw
        case rel =>
          refine ⟨k + 1, na + 1, by go_num, by go_num, by omega, by omega, ?_, HW⟩
          show _ = _; rw [HS.out, ← Ha.out, if_pos d1]
        case measure => simp [intOf]; omega
      · have d1 : decide (x > q) = false := decide_eq_false (by omega)
        go_wp2
        go_roundw
        case rel =>
          refine ⟨k + 1, na, rfl, by go_num, by omega, by omega, ?_, HW⟩
          show _ = _; rw [HS.out, ← Ha.out, d1]; rfl
        case measure => simp [intOf]; omega
    · obtain rfl : k = len := by omega
      have hl : (zs.take k).length = k := by rw [List.length_take]; omega
      have e1 := med_above hmed hq0
      rw [hl, ← Ha.out] at e1
      have e2 : decide (2 * (na : Int) > (k : Int)) = decide (2 * na > k) := decide_eq_decide.2 (by omega)
      have H1 : Hid _ := e1
      clear e1
      go_wp2
      go_ret
      refine ⟨?_, by rw [HW.out]; exact hbel⟩
      show Ending.returned (.bool (decide (q < r) == decide (k < 2 * na))) = _
      rw [show decide (q < r) = decide (k < 2 * na) from H1.out, beq_self_eq_true]

/-- THE SECOND LAW. -/
theorem law4_all (a : Option Addr) (len cap : Nat) (zs : List Int) (q : Int) (w : World) (h : Came w a len cap zs) (hq0 : 0 ≤ q) :
    Calls Try.prog 4 #[.slice a len cap, .int .u64 q] w fun e w' => e = .returned (.bool true) ∧ Below w.heap.size w w' := by
  by_cases hlen : len ≤ 131072
  · exact law4_small a len cap zs q w h hq0 hlen
  · exact law4_big a len cap q w h.max (by omega)

end Go.Proofs.Qxb6600356a
