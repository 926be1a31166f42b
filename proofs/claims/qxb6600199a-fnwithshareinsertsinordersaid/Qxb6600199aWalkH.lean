/-
  DERIVED. Seat b6600199a: zzInsert at a free name; the law's walk.
-/
import Derived.Test.Qxb6600199aLists
namespace Go.Proofs.Qxb6600199a
open Go.RowKit

set_option maxHeartbeats 4000000 in
theorem insert_none (h s : ByteArray) (T : Nat) (w : World) (hz : h.size = 0) (hs : s.size = 4) (hT : T < 18446744073709551616) :
    Calls Try.prog 19 #[.string h, .string s, .int .u64 T] w fun e w' => ∃ res, e = .returned (.string res) ∧ InsP h s T res ∧ Below w.heap.size w w' := by
  obtain ⟨i0, hi, hz0, hz1, hz2⟩ := info_parts infoByte
  have HS := Lib.hid hs
  have HZ := Lib.hid hz
  have hh : h.size ≤ 0 := by omega
  have hs4 : s.size ≤ 4 := by omega
  have d0 : decide ((4 : Int) < (h.size : Int)) = false := by simp; omega
  clear hs hz
  go_enter Try.func19, Try.ntmps19
  go_wp2_with (at_make; refine wpList_make_own _ rfl _ _ 59 rfl w.heap.size 5 i0 (.int .u8 0) 1 Try.underlying59 hi hz0 hz1 .i64 .i64 _ (h.size + 12) rfl rfl (by omega) (by rw [hz2]; omega) (by unfold maxLen; omega) (Nat.le_refl _) ?_)
  intro w1 hown1 hgrow1
  have hB1 : Below w.heap.size w w1 := (Below.refl _ _).grown hgrow1 (Nat.le_refl _) (fun k hk => by cases hk)
  clear hgrow1
  go_wp2_with (go_at_call 33; refine (tokenBytes_some T _ hT).mono ?_; rintro e w2 ⟨x0, x1, x2, x3, x4, x5, x6, x7, rfl, hx, hb2⟩; refine Hid.out ?_)
  refine Lib.hid ?_
  have st0 : Ins w T w2.heap.size (.slice (some ⟨w.heap.size, 0, none⟩) 0 (h.size + 12)) [] (w2.alloc (.cells #[.int .u8 x0, .int .u8 x1, .int .u8 x2, .int .u8 x3, .int .u8 x4, .int .u8 x5, .int .u8 x6, .int .u8 x7] 60)) := by
    have hs2 := hb2.size
    have hs1 := hB1.size
    have hg : w1.grownBy w2 none := ⟨hb2.os, hb2.tape, hb2.output, hb2.size, fun k hk _ => hb2.block k hk⟩
    refine ⟨(hB1.trans (hb2.mono (by omega))).alloc (by omega) _, (hown1.kept hg (by simp [Value.ownBlock])).alloc _, ?_⟩
    rw [heap_alloc_new, hx.out]
  have ST0 := Lib.hid st0
  clear st0 hx hown1 hb2 hB1
  have st := ST0.out
  have fin : ∀ (v : Value) (M : List UInt8) (wz : World), Ins w T w2.heap.size v M wz → M ≠ [] → ∃ g cap, v = .slice (some ⟨g, 0, none⟩) M.length cap ∧ (convert 59 9 (.slice (some ⟨g, 0, none⟩) M.length cap)).run Try.prog wz = .ok (.string ⟨M.toArray⟩) wz := by
    intro v M wz stz hne
    rcases stz.own.2 with ⟨_, h0⟩ | ⟨g, cap, cur, hv, hb, hh, r⟩
    · exact absurd (List.eq_nil_of_length_eq_zero h0) hne
    · refine ⟨g, cap, hv, run_convert_bytes_back (P := Try.prog) wz 59 9 5 ⟨g, 0, none⟩ cap M Try.underlying59 Try.underlying5 Try.underlying9 (fun j hj => ?_)⟩
      exact stz.own.cells (g := g) (by rw [hv]; rfl) j _ (by simp [Lib.byteCells, hj])
  have FIN := Lib.hid fin
  clear fin
  go_wp2_with (at_builtin; refine Lib.wpList_append_own_string _ rfl (.tmp 53) (.tmp 54) 59 9 rfl w.heap.size 5 i0 Try.underlying59 Try.underlying9 hi hz0 hz1 hz2 _ _ _ rfl st.own s rfl (by simp only [List.length_nil]; unfold maxLen; omega) (by simp only [List.length_nil]; omega) st.size ?_)
  intro v2 w3 hown2 hgrow2 hnil2
  clear hnil2
  have st2 : Ins w T w2.heap.size v2 ([] ++ s.data.toList) w3 := Ins.app st (by simp) (by rw [Lib.strCells_eq]) hown2 hgrow2
  have hlen2 : ([] ++ s.data.toList).length ≤ 4000200 := by rw [List.length_append]; simp; omega
  clear hown2 hgrow2 st
  obtain ⟨L2, hL2⟩ : ∃ L2, L2 = [] ++ s.data.toList := ⟨_, rfl⟩
  rw [← hL2] at st2 hlen2
  have EL2 := Lib.hid hL2
  clear hL2
  go_wp2_with (at_builtin; refine wpList_append_own _ rfl (.tmp 56) (.tmp 57) 59 rfl w.heap.size 5 i0 (.int .u8 0) 1 1 Try.underlying59 hi hz0 hz1 hz2 rfl (by decide) _ _ _ rfl st2.own ⟨w2.heap.size, 0, none⟩ 8 8 (Lib.byteCells (be8 T)) rfl rfl st2.news (ones _) (by unfold maxLen; omega) (by omega) st2.size ?_)
  intro v3 w4 hown3 hgrow3 hnil3
  clear hnil3
  have st3 : Ins w T w2.heap.size v3 (L2 ++ be8 T) w4 := Ins.app st2 rfl rfl hown3 hgrow3
  clear hown3 hgrow3 st2
  obtain ⟨L3, hL3⟩ : ∃ L3, L3 = L2 ++ be8 T := ⟨_, rfl⟩
  have hne : L3 ≠ [] := by rw [hL3]; simp [be8]
  rw [← hL3] at st3
  have EL3 := Lib.hid hL3
  clear hL3
  obtain ⟨g, cap, hv, hcv⟩ := FIN.out _ _ _ st3 hne
  have ST := Lib.hid st3
  rw [hv]
  clear hv st3 hne
  go_wp2
  go_ret
  exact ⟨_, rfl, by rw [EL3.out, EL2.out]; exact LoopP.end_no (k := 0) (LoopP.start h s T) HZ.out, ST.out.below⟩

theorem insert_any (h s : ByteArray) (T : Nat) (w : World) (hh : h.size ≤ 2000000) (hw : h.size = 0 ∨ WellP h) (hs : s.size = 4) (hT : T < 18446744073709551616) :
    Calls Try.prog 19 #[.string h, .string s, .int .u64 T] w fun e w' => ∃ res, e = .returned (.string res) ∧ InsP h s T res ∧ Below w.heap.size w w' := by
  rcases hw with h0 | hw
  · exact insert_none h s T w h0 hs hT
  · exact insert_some h s T w hh hw.1 hw.2.1 hs hT

theorem find_any (h s : ByteArray) (w : World) (hh : h.size ≤ 2000000) (hw : h.size = 0 ∨ WellP h) (hs : s.size = 4) :
    Calls Try.prog 13 #[.string h, .string s] w fun e w' => ∃ (cnt tok : Int) (f : Bool), e = .returned (.tuple #[.int .i64 cnt, .bool f, .int .u64 tok]) ∧ (f = false → NoneP h s) ∧ Below w.heap.size w w' := by
  rcases hw with h0 | hw
  · refine (find_none h s w h0).mono ?_
    rintro e w' ⟨rfl, rfl⟩
    exact ⟨0, 0, false, rfl, fun _ i hi => by omega, Below.refl _ _⟩
  · refine (find_some h s w hh hw.1 hs).mono ?_
    rintro e w' ⟨c, t, f, rfl, hf, q, rfl⟩
    exact ⟨c, t, f, rfl, hf, rfl, rfl, rfl, Nat.le_refl _, fun _ _ => rfl⟩

theorem well_below (h : ByteArray) (w : World) (hh : h.size ≤ 2000000) :
    Calls Try.prog 17 #[.string h] w fun e w' => ∃ b, e = .returned (.bool b) ∧ (b = true ↔ WellP h) ∧ Below w.heap.size w w' := by
  refine (well_any h w hh).mono ?_
  rintro e w' ⟨b, rfl, hb, q, rfl⟩
  exact ⟨b, rfl, hb, rfl, rfl, rfl, Nat.le_refl _, fun _ _ => rfl⟩

theorem toList_length (h : ByteArray) : h.toList.length = h.size := by rw [ByteArray.toList_eq]; simp

set_option maxHeartbeats 2000000 in
theorem law_walk (h s : ByteArray) (l r : Int) (g : Bool) (T : Nat) (w : World) (hh : h.size ≤ maxLen) (hs : s.size ≤ maxLen) (hT : T < 18446744073709551616) :
    Calls Try.prog 5 #[.string h, .int .u64 l, .int .u32 r, .bool g, .string s, .int .u64 T] w fun e w' => e = .returned (.bool true) ∧ Below w.heap.size w w' := by
  have HBY := Lib.hid (fun wx => bytes_any h s l r T g wx hh hs)
  clear hh hs
  by_cases hs4 : s.size = 4
  · have b4 : ((s.size : Int) != 4) = false := by simp [hs4]
    have HS := Lib.hid hs4
    clear hs4
    go_enter Try.func5, Try.ntmps5
    go_wp2_with (go_at_call 16; refine (HBY.out _).mono ?_; rintro e w1 ⟨b, rfl, hb, rfl⟩; refine Hid.out ?_)
    refine Lib.hid ?_
    cases b
    · clear hb
      go_wp2
      go_ret
      exact ⟨rfl, Below.refl _ _⟩
    have hsum := hb rfl
    clear hb
    have d1 : decide ((1048576 : Int) < (h.size : Int) + (s.size : Int)) = false := by simp; omega
    have hh2 : h.size ≤ 2000000 := by omega
    by_cases hnil : h.toList = []
    · have hw : h.size = 0 ∨ WellP h := .inl (by rw [← toList_length, hnil]; rfl)
      have HW := Lib.hid hw
      clear hw
      go_wp2_with (first | (go_at_call 13; refine (find_any h s _ hh2 HW.out HS.out).mono ?_; rintro e w3 ⟨cnt, tok, f, rfl, hf, hb3⟩; refine Hid.out ?_))
      refine Lib.hid ?_
      have HF := Lib.hid hf
      clear hf
      have hB3 : Below w1.heap.size w1 w3 := hb3
      cases f
      · have hN := HF.out rfl
        have HN := Lib.hid hN
        clear hN
        go_wp2_with (go_at_call 18; refine (zzWithShare_any h s l r g T _ hh2 HW.out HS.out hT).mono ?_; rintro e w4 ⟨res, rfl, hR, hb4⟩; refine Hid.out ?_)
        refine Lib.hid ?_
        have HR := Lib.hid hR
        clear hR
        have hB4 : Below w1.heap.size w1 w4 := hB3.trans (hb4.mono hB3.size)
        clear hb4 hB3
        have hres : WellP res := well_res HW.out HS.out HN.out HR.out
        have hrs : res.size ≤ 2000000 := by
          obtain ⟨a, ha, ⟨lo, rfl, _, _⟩, hr⟩ := HR.out
          have := res_size HS.out ha hr
          omega
        have HRES := Lib.hid hres
        clear hres
        go_wp2_with (go_at_call 19; refine (insert_any h s T _ hh2 HW.out HS.out hT).mono ?_; rintro e w5 ⟨res2, rfl, hI, hb5⟩; refine Hid.out ?_)
        refine Lib.hid ?_
        obtain rfl : res = res2 := same_res (by rcases HW.out with h0 | hw; omega; exact hw.2.1) HN.out HR.out hI
        have hB5 : Below w1.heap.size w1 w5 := hB4.trans (hb5.mono hB4.size)
        clear hb5 hB4 hI
        go_wp2_with (go_at_call 17; refine (well_below res _ hrs).mono ?_; rintro e w6 ⟨b, rfl, hb, hb6⟩; refine Hid.out ?_)
        refine Lib.hid ?_
        obtain rfl : b = true := hb.2 HRES.out
        go_wp2
        go_ret
        exact ⟨rfl, hB5.trans (hb6.mono hB5.size)⟩
      · go_wp2
        go_ret
        exact ⟨rfl, hB3⟩
    · have hne : h.toList.isEmpty = false := by simpa using hnil
      have HNL := Lib.hid hnil
      clear hnil
      go_wp2_with (go_at_call 17; refine (well_below h _ hh2).mono ?_; rintro e w2 ⟨bw, rfl, hbw, hb2⟩; refine Hid.out ?_)
      refine Lib.hid ?_
      have HBW := Lib.hid hbw
      clear hbw
      cases bw
      · go_wp2
        go_ret
        exact ⟨rfl, hb2⟩
      have hw : h.size = 0 ∨ WellP h := .inr (HBW.out.1 rfl)
      have HW := Lib.hid hw
      clear hw HBW
      go_wp2_with (first | (go_at_call 13; refine (find_any h s _ hh2 HW.out HS.out).mono ?_; rintro e w3 ⟨cnt, tok, f, rfl, hf, hb3⟩; refine Hid.out ?_))
      refine Lib.hid ?_
      have HF := Lib.hid hf
      clear hf
      have hB3 : Below w1.heap.size w1 w3 := hb2.trans (hb3.mono hb2.size)
      cases f
      · have hN := HF.out rfl
        have HN := Lib.hid hN
        clear hN
        go_wp2_with (go_at_call 18; refine (zzWithShare_any h s l r g T _ hh2 HW.out HS.out hT).mono ?_; rintro e w4 ⟨res, rfl, hR, hb4⟩; refine Hid.out ?_)
        refine Lib.hid ?_
        have HR := Lib.hid hR
        clear hR
        have hB4 : Below w1.heap.size w1 w4 := hB3.trans (hb4.mono hB3.size)
        clear hb4 hB3
        have hres : WellP res := well_res HW.out HS.out HN.out HR.out
        have hrs : res.size ≤ 2000000 := by
          obtain ⟨a, ha, ⟨lo, rfl, _, _⟩, hr⟩ := HR.out
          have := res_size HS.out ha hr
          omega
        have HRES := Lib.hid hres
        clear hres
        go_wp2_with (go_at_call 19; refine (insert_any h s T _ hh2 HW.out HS.out hT).mono ?_; rintro e w5 ⟨res2, rfl, hI, hb5⟩; refine Hid.out ?_)
        refine Lib.hid ?_
        obtain rfl : res = res2 := same_res (by rcases HW.out with h0 | hw; omega; exact hw.2.1) HN.out HR.out hI
        have hB5 : Below w1.heap.size w1 w5 := hB4.trans (hb5.mono hB4.size)
        clear hb5 hB4 hI
        go_wp2_with (go_at_call 17; refine (well_below res _ hrs).mono ?_; rintro e w6 ⟨b, rfl, hb, hb6⟩; refine Hid.out ?_)
        refine Lib.hid ?_
        obtain rfl : b = true := hb.2 HRES.out
        go_wp2
        go_ret
        exact ⟨rfl, hB5.trans (hb6.mono hB5.size)⟩
      · go_wp2
        go_ret
        exact ⟨rfl, hB3⟩
  · have b4 : ((s.size : Int) != 4) = true := by rw [bne_iff_ne]; omega
    clear hs4
    go_enter Try.func5, Try.ntmps5
    go_wp2_with (go_at_call 16; refine (HBY.out _).mono ?_; rintro e w1 ⟨b, rfl, hb, rfl⟩; refine Hid.out ?_)
    refine Lib.hid ?_
    cases b
    · clear hb
      go_wp2
      go_ret
      exact ⟨rfl, Below.refl _ _⟩
    have hsum := hb rfl
    clear hb
    go_wp2
    go_ret
    exact ⟨rfl, Below.refl _ _⟩

end Go.Proofs.Qxb6600199a
