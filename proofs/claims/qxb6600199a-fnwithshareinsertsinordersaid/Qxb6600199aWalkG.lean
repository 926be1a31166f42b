/-
  DERIVED. Seat b6600199a: the walk of zzInsert.
-/
import Derived.Test.Qxb6600199aWalkF
import Derived.Lib.AppendStr
import Derived.Deep.AppendLies
import Derived.Laws.IdiomStrings
namespace Go.Proofs.Qxb6600199a
open Go.RowKit

theorem infoByte : (Try.prog.info? 5).map (fun i => (i.zero, i.size, i.bytes)) = some (some (.int .u8 0), 1, 1) := by kernel_rfl

/-- What holds while zzInsert runs: 'out' is v, a row of the call's own that holds L; the token's bytes lie in block tb. -/
structure Ins (w : World) (T tb : Nat) (v : Value) (L : List UInt8) (wi : World) : Prop where
  below : Below w.heap.size w wi
  own : wi.ownsRow w.heap.size 5 1 v L.length (Lib.byteCells L)
  blk : wi.heap[tb]? = some (.cells (Lib.byteCells (be8 T)).toArray 60)

theorem Ins.size {w : World} {T tb : Nat} {v : Value} {L : List UInt8} {wi : World} (st : Ins w T tb v L wi) : w.heap.size ≤ wi.heap.size := st.below.size

theorem Ins.app {w : World} {T tb : Nat} {v v' : Value} {L M : List UInt8} {wi wj : World} {n : Nat} {cs : List Value} (st : Ins w T tb v L wi) (hn : n = L.length + M.length) (hc : cs = Lib.byteCells L ++ Lib.byteCells M)
    (hown : wj.ownsRow w.heap.size 5 1 v' n cs) (hg : wi.grownBy wj v.ownBlock) : Ins w T tb v' (L ++ M) wj := by
  refine ⟨st.below.grown hg st.size (fun k hk => (st.own.lt k hk).1), ?_, ?_⟩
  · rw [Lib.byteCells_append, List.length_append, ← hn, ← hc]; exact hown
  · have hlt := (Array.getElem?_eq_some_iff.1 st.blk).1
    rw [hg.block tb hlt ?_]
    · exact st.blk
    · intro e
      rcases st.own.2 with ⟨hv, _⟩ | ⟨g, cap, cur, hv, _, hh, _⟩
      · rw [hv] at e; simp [Value.ownBlock] at e
      · rw [hv] at e
        simp [Value.ownBlock] at e
        rw [← e, st.blk] at hh
        simp at hh

theorem Ins.drewN {w : World} {T tb : Nat} {v : Value} {L : List UInt8} {wi : World} (st : Ins w T tb v L wi) (q : Nat) : Ins w T tb v L (wi.drewN q) :=
  ⟨⟨st.below.os, st.below.tape, st.below.output, st.below.size, st.below.block⟩, st.own, st.blk⟩

theorem Ins.news {w : World} {T tb : Nat} {v : Value} {L : List UInt8} {wi : World} (st : Ins w T tb v L wi) : ∀ j u, (Lib.byteCells (be8 T))[j]? = some u → wi.cell? ((⟨tb, 0, none⟩ : Addr).add j) = some u := by
  intro j u hu
  exact World.news_of_block st.blk j u (by simpa using hu)

theorem ones (l : List UInt8) : ∀ u ∈ Lib.byteCells l, u.oneCell' = true := by
  intro u hu
  simp only [Lib.byteCells, List.mem_map] at hu
  obtain ⟨b, _, rfl⟩ := hu
  rfl

theorem tokenBytes_some (T : Nat) (w : World) (hT : T < 18446744073709551616) :
    Calls Try.prog 33 #[.int .u64 T] w fun e w' => ∃ x0 x1 x2 x3 x4 x5 x6 x7 : Int, e = .returned (.agg #[.int .u8 x0, .int .u8 x1, .int .u8 x2, .int .u8 x3, .int .u8 x4, .int .u8 x5, .int .u8 x6, .int .u8 x7]) ∧
      Hid (#[Value.int .u8 x0, .int .u8 x1, .int .u8 x2, .int .u8 x3, .int .u8 x4, .int .u8 x5, .int .u8 x6, .int .u8 x7] = (Lib.byteCells (be8 T)).toArray) ∧ Below w.heap.size w w' := by
  refine (tokenBytes_any T w hT).mono ?_
  rintro e w' ⟨rfl, hb⟩
  exact ⟨_, _, _, _, _, _, _, _, rfl, Lib.hid rfl, hb⟩

/-- Where zzInsert lays the share: ahead of the first name above it. -/
def AtQ (h s : ByteArray) (a : Nat) : Prop := ∃ lo, a = 12 * lo ∧ (∀ i, i < lo → ¬ num s < num (nm h i)) ∧ (12 * lo < h.size → num s < num (nm h lo))

def InsP (h s : ByteArray) (T : Nat) (res : ByteArray) : Prop := ∃ a, a ≤ h.size ∧ AtQ h s a ∧ res.data.toList = h.data.toList.take a ++ s.data.toList ++ be8 T ++ h.data.toList.drop a

/-- After k shares: nothing laid yet, or laid ahead of share lo. -/
def LoopP (h s : ByteArray) (T k : Nat) (pb : Bool) (L : List UInt8) : Prop :=
  (pb = false ∧ L = h.data.toList.take (12 * k) ∧ ∀ j, j < k → ¬ num s < num (nm h j)) ∨
  (pb = true ∧ ∃ lo, lo < k ∧ (∀ j, j < lo → ¬ num s < num (nm h j)) ∧ num s < num (nm h lo) ∧ L = h.data.toList.take (12 * lo) ++ s.data.toList ++ be8 T ++ (h.data.toList.drop (12 * lo)).take (12 * k - 12 * lo))

theorem ext12 (h : ByteArray) (p : Nat) : (h.extract p (p + 12)).data.toList = (h.data.toList.drop p).take 12 := by
  simp [List.take_drop]

theorem LoopP.start (h s : ByteArray) (T : Nat) : LoopP h s T 0 false [] := .inl ⟨rfl, rfl, fun _ hj => absurd hj (Nat.not_lt_zero _)⟩

theorem take_more (H : List UInt8) (a n : Nat) (hn : a ≤ n) : (H.drop a).take (n - a) ++ (H.drop n).take 12 = (H.drop a).take (n + 12 - a) := by
  have e : n + 12 - a = (n - a) + 12 := by omega
  rw [e, List.take_add, List.drop_drop]
  congr 3
  omega

theorem LoopP.no {h s : ByteArray} {T k : Nat} {L : List UInt8} (st : LoopP h s T k false L) (hn : ¬ num s < num (nm h k)) : LoopP h s T (k + 1) false (L ++ (h.extract (12 * k) (12 * k + 12)).data.toList) := by
  rcases st with ⟨_, rfl, hj⟩ | ⟨h', _⟩
  · refine .inl ⟨rfl, ?_, fun j hj' => ?_⟩
    · rw [ext12, show 12 * (k + 1) = 12 * k + 12 by omega, List.take_add]
    · rcases Nat.lt_or_ge j k with h' | h'
      · exact hj j h'
      · obtain rfl : j = k := by omega
        exact hn
  · cases h'

theorem LoopP.hit {h s : ByteArray} {T k : Nat} {L : List UInt8} (st : LoopP h s T k false L) (hn : num s < num (nm h k)) : LoopP h s T (k + 1) true (L ++ s.data.toList ++ be8 T ++ (h.extract (12 * k) (12 * k + 12)).data.toList) := by
  rcases st with ⟨_, rfl, hj⟩ | ⟨h', _⟩
  · refine .inr ⟨rfl, k, by omega, hj, hn, ?_⟩
    rw [ext12, show 12 * (k + 1) - 12 * k = 12 by omega]
  · cases h'

theorem LoopP.go {h s : ByteArray} {T k : Nat} {L : List UInt8} (st : LoopP h s T k true L) : LoopP h s T (k + 1) true (L ++ (h.extract (12 * k) (12 * k + 12)).data.toList) := by
  rcases st with ⟨h', _⟩ | ⟨_, lo, hlo, hj, hn, rfl⟩
  · cases h'
  · refine .inr ⟨rfl, lo, by omega, hj, hn, ?_⟩
    rw [ext12, List.append_assoc, take_more _ _ _ (by omega), show 12 * (k + 1) - 12 * lo = 12 * k + 12 - 12 * lo by omega]

theorem LoopP.end_no {h s : ByteArray} {T k : Nat} {L : List UInt8} (st : LoopP h s T k false L) (he : h.size = 12 * k) : InsP h s T ⟨(L ++ s.data.toList ++ be8 T).toArray⟩ := by
  rcases st with ⟨_, rfl, hj⟩ | ⟨h', _⟩
  · refine ⟨12 * k, by omega, ⟨k, rfl, hj, fun h' => by omega⟩, ?_⟩
    have hl : h.data.toList.length = h.size := by simp
    have hd : h.data.toList.drop (12 * k) = [] := List.drop_eq_nil_of_le (by omega)
    simp [hd]
  · cases h'

theorem LoopP.end_yes {h s : ByteArray} {T k : Nat} {L : List UInt8} (st : LoopP h s T k true L) (he : h.size = 12 * k) : InsP h s T ⟨L.toArray⟩ := by
  rcases st with ⟨h', _⟩ | ⟨_, lo, hlo, hj, hn, rfl⟩
  · cases h'
  · refine ⟨12 * lo, by omega, ⟨lo, rfl, hj, fun _ => hn⟩, ?_⟩
    have hd : (h.data.toList.drop (12 * lo)).take (12 * k - 12 * lo) = h.data.toList.drop (12 * lo) := List.take_of_length_le (by
      have : h.data.toList.length = h.size := by simp
      rw [List.length_drop]; omega)
    rw [hd]

theorem LoopP.len {h s : ByteArray} {T k : Nat} {pb : Bool} {L : List UInt8} (st : LoopP h s T k pb L) (hh : h.size ≤ 2000000) (hs : s.size ≤ 4) : L.length ≤ 4000100 := by
  have hl : h.data.toList.length = h.size := by simp
  have hl2 : s.data.toList.length = s.size := by simp
  rcases st with ⟨_, rfl, _⟩ | ⟨_, lo, _, _, _, rfl⟩
  · rw [List.length_take]; omega
  · have hb8 : (be8 T).length = 8 := rfl
    simp only [List.length_append, List.length_take, List.length_drop, hb8, hl, hl2]
    omega

set_option maxHeartbeats 4000000 in
theorem insert_some (h s : ByteArray) (T : Nat) (w : World) (hh : h.size ≤ 2000000) (h12 : 12 ≤ h.size) (hmod : h.size % 12 = 0) (hs : s.size = 4) (hT : T < 18446744073709551616) :
    Calls Try.prog 19 #[.string h, .string s, .int .u64 T] w fun e w' => ∃ res, e = .returned (.string res) ∧ InsP h s T res ∧ Below w.heap.size w w' := by
  obtain ⟨i0, hi, hz0, hz1, hz2⟩ := info_parts infoByte
  have HS := Lib.hid hs
  have HM := Lib.hid hmod
  have hs4 : s.size ≤ 4 := by omega
  have d0 : decide ((4 : Int) < (h.size : Int)) = true := by simp; omega
  clear hs hmod
  go_enter Try.func19, Try.ntmps19
  go_wp2_with (at_make; refine wpList_make_own _ rfl _ _ 59 rfl w.heap.size 5 i0 (.int .u8 0) 1 Try.underlying59 hi hz0 hz1 .i64 .i64 _ (h.size + 12) rfl rfl (by omega) (by rw [hz2]; omega) (by unfold maxLen; omega) (Nat.le_refl _) ?_)
  intro w1 hown1 hgrow1
  have hB1 : Below w.heap.size w w1 := (Below.refl _ _).grown hgrow1 (Nat.le_refl _) (fun k hk => by cases hk)
  clear hgrow1
  go_wp2_with (go_at_call 33; refine (tokenBytes_some T _ hT).mono ?_; rintro e w2 ⟨x0, x1, x2, x3, x4, x5, x6, x7, rfl, hx, hb2⟩; refine Hid.out ?_)
  refine Lib.hid ?_
  have st0 : Ins w T w2.heap.size (.slice (some ⟨w.heap.size, 0, none⟩) 0 (h.size + 12)) [] (w2.alloc (.cells #[.int .u8 x0, .int .u8 x1, .int .u8 x2, .int .u8 x3, .int .u8 x4, .int .u8 x5, .int .u8 x6, .int .u8 x7] 60)) := by
    have hs2 := hb2.size
    have hs1 := hB1.size
    have hg : w1.grownBy w2 none := ⟨hb2.os, hb2.tape, hb2.output, hb2.size, fun k hk _ => hb2.block k hk⟩
    refine ⟨(hB1.trans (hb2.mono (by omega))).alloc (by omega) _, (hown1.kept hg (by simp [Value.ownBlock])).alloc _, ?_⟩
    rw [heap_alloc_new, hx.out]
  have ST0 := Lib.hid st0
  clear st0 hx hown1 hb2 hB1
  go_wp2_with fail
  go_loopw [7, 9, 10] (fun v pl i wr => ∃ (k p : Nat) (pb : Bool) (L : List UInt8), p = 12 * k ∧ p ≤ h.size ∧ i = .int .i64 p ∧ pl = .bool pb ∧ Ins w T w2.heap.size v L wr ∧ LoopP h s T k pb L) (fun _ _ i _ => h.size - (intOf i).toNat)
  case atStart => exact ⟨0, 0, false, [], rfl, Nat.zero_le _, rfl, rfl, ST0.out, LoopP.start h s T⟩
  case round =>
    obtain ⟨k, p, pb, L, hp, hpb, rfl, rfl, st, hL⟩ := hrel
    have hlen := hL.len hh hs4
    have HL := Lib.hid hL
    have HP := Lib.hid hp
    clear hL hp
    by_cases hlt : p < h.size
    · have hp12 : p + 12 ≤ h.size := by have := HM.out; have := HP.out; omega
      have n1 : ((p : Int) + 4).toNat = p + 4 := by omega
      have n2 : ((p : Int) + 12).toNat = p + 12 := by omega
      have en1 : h.extract p (p + 4) = nm h k := by rw [HP.out]; rfl
      have sz1 : (nm h k).size = 4 := by rw [← en1]; exact ext_size h p (by omega)
      have SZ1 := Lib.hid sz1
      clear sz1
      have hx12 : (h.extract p (p + 12)).size = 12 := by simp; omega
      have X12 := Lib.hid hx12
      clear hx12
      have hxl : (h.extract p (p + 12)).data.toList.length = 12 := by rw [Array.length_toList]; exact X12.out
      have XL := Lib.hid hxl
      clear hxl
      cases pb
      · obtain ⟨b, hb⟩ : ∃ b, b = lessB s (nm h k) := ⟨_, rfl⟩
        have HLC : ∀ wx, Calls Try.prog 15 #[.string s, .string (nm h k)] wx fun e w' => e = .returned (.bool b) ∧ ∃ q, w' = wx.drewN q := fun wx => by rw [hb]; exact less_any _ _ _ HS.out SZ1.out
        have HLL := Lib.hid HLC
        have HB := Lib.hid hb
        clear HLC hb
        cases b
        · go_wp2_with (first | (go_at_call 15; refine (HLL.out _).mono ?_; rintro e wx ⟨rfl, q, rfl⟩) | (at_builtin; refine Lib.wpList_append_own_string _ rfl (.tmp 44) (.tmp 49) 59 9 rfl w.heap.size 5 i0 Try.underlying59 Try.underlying9 hi hz0 hz1 hz2 _ _ _ rfl st.own (h.extract p (p + 12)) rfl (by rw [X12.out]; unfold maxLen; omega) (by rw [X12.out]; omega) st.size ?_))
          intro v2 w3 hown2 hgrow2 hnil2
          clear hnil2
          have st2 : Ins w T w2.heap.size v2 (L ++ (h.extract p (p + 12)).data.toList) w3 := Ins.app (st.drewN _) (by rw [XL.out]) (by rw [Lib.strCells_eq]) hown2 hgrow2
          have hL2 : LoopP h s T (k + 1) false (L ++ (h.extract p (p + 12)).data.toList) := by
            have e := LoopP.no HL.out (by have := HB.out; simpa [lessB] using this.symm)
            rw [← HP.out] at e
            exact e
          have HL2 := Lib.hid hL2
          have ST2 := Lib.hid st2
          clear hown2 hgrow2 st hL2 st2
          go_wp2
          go_roundw
          case rel => exact ⟨k + 1, p + 12, false, _, by have := HP.out; omega, hp12, by go_num, rfl, ST2.out, HL2.out⟩
          case measure => simp [intOf]; omega
        · go_wp2_with (first | (go_at_call 15; refine (HLL.out _).mono ?_; rintro e wx ⟨rfl, q, rfl⟩) | (at_builtin; refine Lib.wpList_append_own_string _ rfl (.tmp 38) (.tmp 39) 59 9 rfl w.heap.size 5 i0 Try.underlying59 Try.underlying9 hi hz0 hz1 hz2 _ _ _ rfl st.own s rfl (by unfold maxLen; omega) (by omega) st.size ?_))
          intro v2 w3 hown2 hgrow2 hnil2
          clear hnil2
          have st2 : Ins w T w2.heap.size v2 (L ++ s.data.toList) w3 := Ins.app (st.drewN _) (by simp) (by rw [Lib.strCells_eq]) hown2 hgrow2
          have hlen2 : (L ++ s.data.toList).length ≤ 4000200 := by rw [List.length_append]; simp; omega
          clear hown2 hgrow2 st
          obtain ⟨L2, hL2⟩ : ∃ L2, L2 = L ++ s.data.toList := ⟨_, rfl⟩
          rw [← hL2] at st2 hlen2
          have EL2 := Lib.hid hL2
          clear hL2
          go_wp2_with (at_builtin; refine wpList_append_own _ rfl (.tmp 41) (.tmp 42) 59 rfl w.heap.size 5 i0 (.int .u8 0) 1 1 Try.underlying59 hi hz0 hz1 hz2 rfl (by decide) _ _ _ rfl st2.own ⟨w2.heap.size, 0, none⟩ 8 8 (Lib.byteCells (be8 T)) rfl rfl st2.news (ones _) (by unfold maxLen; omega) (by omega) st2.size ?_)
          intro v3 w4 hown3 hgrow3 hnil3
          clear hnil3
          have st3 : Ins w T w2.heap.size v3 (L2 ++ be8 T) w4 := Ins.app st2 rfl rfl hown3 hgrow3
          have hlen3 : (L2 ++ be8 T).length ≤ 4000300 := by rw [List.length_append]; have : (be8 T).length = 8 := rfl; omega
          clear hown3 hgrow3 st2
          obtain ⟨L3, hL3⟩ : ∃ L3, L3 = L2 ++ be8 T := ⟨_, rfl⟩
          rw [← hL3] at st3 hlen3
          have EL3 := Lib.hid hL3
          clear hL3
          go_wp2_with (at_builtin; refine Lib.wpList_append_own_string _ rfl (.tmp 44) (.tmp 49) 59 9 rfl w.heap.size 5 i0 Try.underlying59 Try.underlying9 hi hz0 hz1 hz2 _ _ _ rfl st3.own (h.extract p (p + 12)) rfl (by rw [X12.out]; unfold maxLen; omega) (by rw [X12.out]; omega) st3.size ?_)
          intro v4 w5 hown4 hgrow4 hnil4
          clear hnil4
          have st4 : Ins w T w2.heap.size v4 (L3 ++ (h.extract p (p + 12)).data.toList) w5 := Ins.app st3 (by rw [XL.out]) (by rw [Lib.strCells_eq]) hown4 hgrow4
          have hL4 : LoopP h s T (k + 1) true (L3 ++ (h.extract p (p + 12)).data.toList) := by
            have e := LoopP.hit HL.out (by have := HB.out; simpa [lessB] using this.symm)
            rw [← HP.out, ← EL2.out, ← EL3.out] at e
            exact e
          have HL4 := Lib.hid hL4
          have ST4 := Lib.hid st4
          clear hown4 hgrow4 st3 hL4 st4
          go_wp2
          go_roundw
          case rel => exact ⟨k + 1, p + 12, true, _, by have := HP.out; omega, hp12, by go_num, rfl, ST4.out, HL4.out⟩
          case measure => simp [intOf]; omega
      · go_wp2_with (at_builtin; refine Lib.wpList_append_own_string _ rfl (.tmp 44) (.tmp 49) 59 9 rfl w.heap.size 5 i0 Try.underlying59 Try.underlying9 hi hz0 hz1 hz2 _ _ _ rfl st.own (h.extract p (p + 12)) rfl (by rw [X12.out]; unfold maxLen; omega) (by rw [X12.out]; omega) st.size ?_)
        intro v2 w3 hown2 hgrow2 hnil2
        clear hnil2
        have st2 : Ins w T w2.heap.size v2 (L ++ (h.extract p (p + 12)).data.toList) w3 := Ins.app st (by rw [XL.out]) (by rw [Lib.strCells_eq]) hown2 hgrow2
        have hL2 : LoopP h s T (k + 1) true (L ++ (h.extract p (p + 12)).data.toList) := by
          have e := LoopP.go HL.out
          rw [← HP.out] at e
          exact e
        have HL2 := Lib.hid hL2
        have ST2 := Lib.hid st2
        clear hown2 hgrow2 st hL2 st2
        go_wp2
        go_roundw
        case rel => exact ⟨k + 1, p + 12, true, _, by have := HP.out; omega, hp12, by go_num, rfl, ST2.out, HL2.out⟩
        case measure => simp [intOf]; omega
    · have hend : h.size = 12 * k := by have := HP.out; omega
      have HEND := Lib.hid hend
      clear hend
      have fin : ∀ (v : Value) (M : List UInt8) (wz : World), Ins w T w2.heap.size v M wz → M ≠ [] → ∃ g cap, v = .slice (some ⟨g, 0, none⟩) M.length cap ∧ (convert 59 9 (.slice (some ⟨g, 0, none⟩) M.length cap)).run Try.prog wz = .ok (.string ⟨M.toArray⟩) wz := by
        intro v M wz stz hne
        rcases stz.own.2 with ⟨_, h0⟩ | ⟨g, cap, cur, hv, hb, hh, r⟩
        · exact absurd (List.eq_nil_of_length_eq_zero h0) hne
        · refine ⟨g, cap, hv, run_convert_bytes_back (P := Try.prog) wz 59 9 5 ⟨g, 0, none⟩ cap M Try.underlying59 Try.underlying5 Try.underlying9 (fun j hj => ?_)⟩
          exact stz.own.cells (g := g) (by rw [hv]; rfl) j _ (by simp [Lib.byteCells, hj])
      have FIN := Lib.hid fin
      clear fin
      cases pb
      · go_wp2_with (at_builtin; refine Lib.wpList_append_own_string _ rfl (.tmp 53) (.tmp 54) 59 9 rfl w.heap.size 5 i0 Try.underlying59 Try.underlying9 hi hz0 hz1 hz2 _ _ _ rfl st.own s rfl (by unfold maxLen; omega) (by omega) st.size ?_)
        intro v2 w3 hown2 hgrow2 hnil2
        clear hnil2
        have st2 : Ins w T w2.heap.size v2 (L ++ s.data.toList) w3 := Ins.app st (by simp) (by rw [Lib.strCells_eq]) hown2 hgrow2
        have hlen2 : (L ++ s.data.toList).length ≤ 4000200 := by rw [List.length_append]; simp; omega
        clear hown2 hgrow2 st
        obtain ⟨L2, hL2⟩ : ∃ L2, L2 = L ++ s.data.toList := ⟨_, rfl⟩
        rw [← hL2] at st2 hlen2
        have EL2 := Lib.hid hL2
        clear hL2
        go_wp2_with (at_builtin; refine wpList_append_own _ rfl (.tmp 56) (.tmp 57) 59 rfl w.heap.size 5 i0 (.int .u8 0) 1 1 Try.underlying59 hi hz0 hz1 hz2 rfl (by decide) _ _ _ rfl st2.own ⟨w2.heap.size, 0, none⟩ 8 8 (Lib.byteCells (be8 T)) rfl rfl st2.news (ones _) (by unfold maxLen; omega) (by omega) st2.size ?_)
        intro v3 w4 hown3 hgrow3 hnil3
        clear hnil3
        have st3 : Ins w T w2.heap.size v3 (L2 ++ be8 T) w4 := Ins.app st2 rfl rfl hown3 hgrow3
        clear hown3 hgrow3 st2
        obtain ⟨L3, hL3⟩ : ∃ L3, L3 = L2 ++ be8 T := ⟨_, rfl⟩
        have hne : L3 ≠ [] := by rw [hL3]; simp [be8]
        rw [← hL3] at st3
        have EL3 := Lib.hid hL3
        clear hL3
        obtain ⟨g, cap, hv, hcv⟩ := FIN.out _ _ _ st3 hne
        have ST := Lib.hid st3
        rw [hv]
        clear hv st3 hne
        go_wp2
        go_ret
        exact ⟨_, rfl, by rw [EL3.out, EL2.out]; exact LoopP.end_no HL.out HEND.out, ST.out.below⟩
      · have hne : L ≠ [] := by
          intro e
          rcases HL.out with ⟨h', _⟩ | ⟨_, lo, _, _, _, h'⟩
          · cases h'
          · rw [e] at h'
            have := congrArg List.length h'
            simp [be8] at this
        obtain ⟨g, cap, hv, hcv⟩ := FIN.out _ _ _ st hne
        have ST := Lib.hid st
        rw [hv]
        clear hv st hne
        go_wp2
        go_ret
        exact ⟨_, rfl, LoopP.end_yes HL.out HEND.out, ST.out.below⟩

end Go.Proofs.Qxb6600199a
