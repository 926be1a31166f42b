/-
  DERIVED. Seat b6600199a: the walk of (state).withShare at a free name; of history.ZZWithShare.
-/
import Derived.Test.Qxb6600199aWalkD
namespace Go.Proofs.Qxb6600199a
open Go.RowKit

set_option maxHeartbeats 4000000 in
theorem withShare_none (h s : ByteArray) (l r : Int) (g : Bool) (T : Nat) (w : World) (h0 : h.size = 0) (hs : s.size = 4) (hT : T < 18446744073709551616) :
    Calls Try.prog 32 #[.agg #[.string h, .int .u64 l, .int .u32 r, .bool g], .string s, .int .u64 T] w fun e w' => e = .returned (.agg #[.string ⟨(s.data.toList ++ be8 T).toArray⟩, .int .u64 T, .int .u32 0, .bool false]) ∧ Below w.heap.size w w' := by
  have HS := Lib.hid hs
  have d0 : decide ((4 : Int) < (h.size : Int)) = false := by simp; omega
  have HZ := Lib.hid h0
  have hz : h.size ≤ 0 := by omega
  have hs4 : s.size ≤ 4 := by omega
  clear hs h0
  go_enter Try.func32, Try.ntmps32
  go_wp2_with (go_at_call 30; refine (shareAt_none h s l r g _ HZ.out).mono ?_; rintro e w1 ⟨rfl, hb1⟩; refine Hid.out ?_)
  refine Lib.hid ?_
  have hB1 : Below w.heap.size w w1 := (((Below.refl _ _).alloc (Nat.le_refl _) _).alloc (by simp) _).trans (hb1.mono (by simp; omega))
  have hbox1 : w1.heap[w.heap.size]? = some (.cells #[.string h, .int .u64 l, .int .u32 r, .bool g] 55) := by
    rw [hb1.block _ (by simp; omega), Below.heap_alloc _ _ _ (by simp)]; exact heap_alloc_new w _
  have hres1 : w1.heap[w.heap.size + 1]? = some (.cells #[.string ⟨#[]⟩, .int .u64 0, .int .u32 0, .bool false] 55) := by
    rw [hb1.block _ (by simp)]
    have := heap_alloc_new (w.alloc (.cells #[.string h, .int .u64 l, .int .u32 r, .bool g] 55)) (.cells #[.string ⟨#[]⟩, .int .u64 0, .int .u32 0, .bool false] 55)
    simpa using this
  have hsz1 : w.heap.size + 1 < w1.heap.size := by have := hb1.size; simp at this; omega
  have hsz0 : w.heap.size < w1.heap.size := by omega
  clear hb1
  -- the builder's own block
  have hg : Calls Try.prog 39 #[.pointer (some ⟨w1.heap.size, 0, none⟩), .int .i64 ((h.size : Int) + 12)] (w1.alloc (.cells #[.pointer none, .slice none 0 0] 71)) fun e w' => e = .returned (.tuple #[]) ∧ St w h l r g w1.heap.size [] w' := by
    have := Try.Builder_Grow_fresh w1.heap.size w1.heap.size (h.size + 12) (w1.alloc (.cells #[.pointer none, .slice none 0 0] 71)) (Nat.le_refl _) (heap_alloc_new w1 _) (by simp) (by omega)
    rw [show ((h.size + 12 : Nat) : Int) = (h.size : Int) + 12 by omega] at this
    refine this.mono ?_
    rintro e w' ⟨rfl, hu, hb⟩
    refine ⟨rfl, (hB1.alloc (by omega) _).trans (hb.mono (by omega)), ?_, ?_, hsz1, hu⟩
    · rw [hb.block _ (by omega), Below.heap_alloc _ _ _ (by omega)]; exact hbox1
    · rw [hb.block _ (by omega), Below.heap_alloc _ _ _ (by omega)]; exact hres1
  have HG := Lib.hid hg
  clear hg hres1
  obtain ⟨k0, k1, k2, k3⟩ := box4 hbox1
  clear hbox1
  go_wp2_with (go_at_call 39; refine (HG.out).mono ?_; rintro e w2 ⟨rfl, st2⟩; refine Hid.out ?_)
  refine Lib.hid ?_
  clear k0 k1 k2 k3 HG hB1
  obtain ⟨bb, hbb⟩ : ∃ bb, bb = w1.heap.size := ⟨_, rfl⟩
  rw [← hbb] at st2 ⊢
  clear hbb hsz0 hsz1
  obtain ⟨k0, k1, k2, k3⟩ := st2.cells
  go_wp2_with (go_at_call 37; refine (shared_any h l r g _).mono ?_; rintro e w3 ⟨rfl, hb3⟩; rw [d0]; have st3 := st2.on hb3; refine Hid.out ?_)
  refine Lib.hid ?_
  clear k0 k1 k2 k3 hb3 st2
  go_wp2_with (go_at_call 40; refine (Try.Builder_WriteString bb bb (Lib.byteCells []) s _ (Or.inr st3.bu) (by rw [Lib.byteCells_length]; simp; omega) (Nat.le_of_lt st3.size)).mono ?_; rintro e w5 ⟨rfl, hu5, hb5⟩; refine Hid.out ?_)
  refine Lib.hid ?_
  obtain ⟨pre, hpre⟩ : ∃ pre, pre = s.data.toList := ⟨_, rfl⟩
  have st5 : St w h l r g bb pre w5 := st3.put (by rw [hpre, ← Lib.strCells_eq]; exact hu5) hb5
  have hl5 : pre.length ≤ 2000004 := by rw [hpre]; simp only [Array.length_toList]; have : s.data.size = s.size := rfl; omega
  have HPRE := Lib.hid hpre
  clear hu5 hb5 st3 hpre
  go_wp2_with fail
  have ST5 := Lib.hid st5
  clear st5
  go_loopw [10] (fun x wr => ∃ k : Nat, k ≤ 8 ∧ x = .int .i64 (56 - 8 * (k : Int)) ∧ St w h l r g bb (pre ++ (be8 T).take k) wr) (fun x _ => (intOf x + 8).toNat)
  case atStart => exact ⟨0, by omega, rfl, by simpa using ST5.out⟩
  case round =>
    obtain ⟨k, hk, rfl, st⟩ := hrel
    have hlk : (pre ++ (be8 T).take k).length ≤ 2000012 := by simp only [List.length_append, List.length_take, be8, List.length_cons, List.length_nil]; omega
    by_cases hlt : k < 8
    · have hst : ∀ (c : Int) (wj : World), c = ((tkb T k).toNat : Int) → Lib.BuilderAt 71 5 bb bb (.pointer (some ⟨bb, 0, none⟩)) (Lib.byteCells (pre ++ (be8 T).take k) ++ [.int .u8 c]) wj → Below bb wr wj → St w h l r g bb (pre ++ (be8 T).take (k + 1)) wj := by
        intro c wj hc hu hb
        refine st.put ?_ hb
        rw [be8_take T k hlt, ← List.append_assoc, Lib.byteCells_append]
        rw [hc] at hu
        exact hu
      have HST := Lib.hid hst
      clear hst
      have hbu := st.bu
      have hsz := st.size
      have HBU := Lib.hid hbu
      clear hbu st
      rcases (show k = 0 ∨ k = 1 ∨ k = 2 ∨ k = 3 ∨ k = 4 ∨ k = 5 ∨ k = 6 ∨ k = 7 by omega) with rfl | rfl | rfl | rfl | rfl | rfl | rfl | rfl
      all_goals
        go_wp2_with (go_at_call 41; refine (Try.Builder_WriteByte bb bb _ _ _ (Or.inr HBU.out) (by rw [Lib.byteCells_length]; omega) (Nat.le_of_lt hsz)).mono ?_; rintro e w6 ⟨rfl, hu6, hb6⟩; refine Hid.out ?_)
        refine Lib.hid ?_
        have st6 := HST.out _ w6 (by rw [tkb_toNat]; simp only [Nat.reduceMul, Nat.reduceSub, Nat.reducePow]; omega) hu6 hb6
        clear hu6 hb6 HST HBU hsz
        go_wp2
        go_roundw
        case rel => exact ⟨_, by decide, by first | rfl | go_num, st6⟩
        case measure => simp [intOf]
    · obtain rfl : k = 8 := by omega
      have e8 : (be8 T).take 8 = be8 T := rfl
      rw [e8] at st hlk
      obtain ⟨k0, k1, k2, k3⟩ := st.cells
      go_wp2_with (go_at_call 37; refine (shared_any h l r g _).mono ?_; rintro e w7 ⟨rfl, hb7⟩; rw [d0]; have st7 := st.on hb7; refine Hid.out ?_)
      refine Lib.hid ?_
      clear k0 k1 k2 k3 hb7 st
      obtain ⟨all, hall⟩ : ∃ all, all = pre ++ be8 T := ⟨_, rfl⟩
      have st8 : St w h l r g bb all w7 := by rw [hall]; exact st7
      have HALL := Lib.hid hall
      clear st7 hlk hall
      go_wp2_with (go_at_call 42; refine (Try.Builder_String_any bb bb all _ (Or.inr st8.bu) (Nat.le_of_lt st8.size)).mono ?_; rintro e w9 ⟨rfl, hb9⟩; refine Hid.out ?_)
      refine Lib.hid ?_
      have h2 := st8.lt
      have hres9 := (hb9.block _ h2).trans st8.res
      have hB9 : Below w.heap.size w w9 := st8.below.trans (hb9.mono (by omega))
      obtain ⟨k0, k1, k2, k3⟩ := box4 hres9
      have f0 := free4 hres9 0
      have f1 := free4 hres9 1
      have f2 := free4 hres9 2
      have f3 := free4 hres9 3
      clear hb9 st8 hres9
      go_wp2
      refine bodyPost_ret (v := .agg #[.string ⟨all.toArray⟩, .int .u64 T, .int .u32 0, .bool false]) (by simp [results, Try.results32, go_sem, k0, k1, k2, k3]) rfl ⟨?_, ?_⟩
      · rw [HALL.out, HPRE.out]
      · exact (((hB9.setCell (p := ⟨w.heap.size + 1, 0, none⟩) (by simp) _).setCell (p := ⟨w.heap.size + 1, 1, none⟩) (by simp) _).setCell (p := ⟨w.heap.size + 1, 2, none⟩) (by simp) _).setCell (p := ⟨w.heap.size + 1, 3, none⟩) (by simp) _

/-- The row with the session's share laid in. -/
def ResP (h s : ByteArray) (T : Nat) (res : ByteArray) : Prop := ∃ a, a ≤ h.size ∧ AtP h s a ∧ res.data.toList = h.data.toList.take a ++ s.data.toList ++ be8 T ++ h.data.toList.drop a

theorem withShare_any (h s : ByteArray) (l r : Int) (g : Bool) (T : Nat) (w : World) (hh : h.size ≤ 2000000) (hw : h.size = 0 ∨ WellP h) (hs : s.size = 4) (hT : T < 18446744073709551616) :
    Calls Try.prog 32 #[.agg #[.string h, .int .u64 l, .int .u32 r, .bool g], .string s, .int .u64 T] w fun e w' => ∃ res : ByteArray, e = .returned (.agg #[.string res, .int .u64 T, .int .u32 0, .bool false]) ∧ ResP h s T res ∧ Below w.heap.size w w' := by
  rcases hw with h0 | hw
  · refine (withShare_none h s l r g T w h0 hs hT).mono ?_
    rintro e w' ⟨rfl, hb⟩
    refine ⟨_, rfl, ⟨0, Nat.zero_le _, ⟨0, rfl, fun i hi => absurd hi (Nat.not_lt_zero _), fun i _ hi => by omega⟩, ?_⟩, hb⟩
    have hn : h.data.toList = [] := List.eq_nil_of_length_eq_zero (by simpa using h0)
    simp [hn]
  · refine (withShare_some h s l r g T w hh hw hs hT).mono ?_
    rintro e w' ⟨a, rfl, ha, hat, hb⟩
    exact ⟨_, rfl, ⟨a, ha, hat, rfl⟩, hb⟩

set_option maxHeartbeats 1000000 in
theorem zzWithShare_any (h s : ByteArray) (l r : Int) (g : Bool) (T : Nat) (w : World) (hh : h.size ≤ 2000000) (hw : h.size = 0 ∨ WellP h) (hs : s.size = 4) (hT : T < 18446744073709551616) :
    Calls Try.prog 18 #[.string h, .int .u64 l, .int .u32 r, .bool g, .string s, .int .u64 T] w fun e w' => ∃ res : ByteArray, e = .returned (.tuple #[.string res, .int .u64 T, .int .u32 0, .bool false]) ∧ ResP h s T res ∧ Below w.heap.size w w' := by
  have HC := Lib.hid (fun wx => withShare_any h s l r g T wx hh hw hs hT)
  clear hw hs
  go_enter Try.func18, Try.ntmps18
  go_wp2_with (go_at_call 32; refine (HC.out _).mono ?_; rintro e w1 ⟨res, rfl, hat, hb1⟩; refine Hid.out ?_)
  refine Lib.hid ?_
  have HAT := Lib.hid hat
  clear hat
  go_wp2_with fail
  go_quiet (fail)
  go_wp2
  refine bodyPost_ret (v := .tuple #[.string res, .int .u64 T, .int .u32 0, .bool false]) (by simp [results, Try.results18, go_sem]) rfl ⟨res, rfl, HAT.out, ?_⟩
  have hB := hb1.alloc hb1.size (.cells #[.string res, .int .u64 T, .int .u32 0, .bool false] 55)
  exact ⟨hB.os, hB.tape, hB.output, hB.size, hB.block⟩

end Go.Proofs.Qxb6600199a
