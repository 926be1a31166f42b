/-
  DERIVED. Seat b6600199a: the walk of (state).withShare.
-/
import Derived.Test.Qxb6600199aWalkC
import Derived.Test.Qxb6600199aShelf
namespace Go.Proofs.Qxb6600199a
open Go.RowKit

/-- A builder stays what it is while every old block stands. -/
theorem builder_on {T e : TypeId} {B b : Nat} {p : Value} {bs : List Value} {w w' : World} (h : Lib.BuilderAt T e B b p bs w) (hb : Below w.heap.size w w') : Lib.BuilderAt T e B b p bs w' := by
  obtain ⟨h1, v, hv, hown, hne⟩ := h
  have hg : w.grownBy w' none := ⟨hb.os, hb.tape, hb.output, hb.size, fun k hk _ => hb.block k hk⟩
  refine ⟨h1, v, ?_, hown.kept hg (by cases h : v.ownBlock <;> simp), hne⟩
  rw [hb.block b (Array.getElem?_eq_some_iff.1 hv).1]
  exact hv

/-- Byte number k of the eight bytes of a token, the greatest first. -/
def tkb (T k : Nat) : UInt8 := UInt8.ofNat (T / 2 ^ (56 - 8 * k) % 256)

def be8 (T : Nat) : List UInt8 := [tkb T 0, tkb T 1, tkb T 2, tkb T 3, tkb T 4, tkb T 5, tkb T 6, tkb T 7]

theorem be8_take (T k : Nat) (hk : k < 8) : (be8 T).take (k + 1) = (be8 T).take k ++ [tkb T k] := by
  rcases (show k = 0 ∨ k = 1 ∨ k = 2 ∨ k = 3 ∨ k = 4 ∨ k = 5 ∨ k = 6 ∨ k = 7 by omega) with rfl | rfl | rfl | rfl | rfl | rfl | rfl | rfl <;> rfl

theorem tkb_toNat (T k : Nat) : (tkb T k).toNat = T / 2 ^ (56 - 8 * k) % 256 := by
  unfold tkb
  rw [UInt8.toNat_ofNat']
  exact Nat.mod_eq_of_lt (Nat.lt_of_lt_of_le (Nat.mod_lt _ (by decide)) (by decide))

/-- Where the session's share lies, or would lie. -/
def AtP (h s : ByteArray) (a : Nat) : Prop := ∃ lo, a = 12 * lo ∧ (∀ i, i < lo → num (nm h i) < num s) ∧ (∀ i, lo ≤ i → 12 * i < h.size → num s ≤ num (nm h i))

theorem shareAt_at (h s : ByteArray) (l r : Int) (g : Bool) (w : World) (hh : h.size ≤ 2000000) (hw : WellP h) (hs : s.size = 4) :
    Calls Try.prog 30 #[.agg #[.string h, .int .u64 l, .int .u32 r, .bool g], .string s] w fun e w' => ∃ (a : Nat) (b : Bool), e = .returned (.tuple #[.int .i64 (a : Nat), .bool b]) ∧ a ≤ h.size ∧ AtP h s a ∧ Below w.heap.size w w' := by
  refine (shareAt_some h s l r g w hh hw hs).mono ?_
  rintro e w' ⟨lo, b, rfl, h1, h2, h3, h4⟩
  exact ⟨12 * lo, b, rfl, h1, ⟨lo, rfl, h2, h3⟩, h4⟩

theorem box4 {w : World} {g T : Nat} {c0 c1 c2 c3 : Value} (h : w.heap[g]? = some (.cells #[c0, c1, c2, c3] T)) :
    w.cell? ⟨g, 0, none⟩ = some c0 ∧ w.cell? ⟨g, 1, none⟩ = some c1 ∧ w.cell? ⟨g, 2, none⟩ = some c2 ∧ w.cell? ⟨g, 3, none⟩ = some c3 := by
  refine ⟨?_, ?_, ?_, ?_⟩ <;> exact cell_of_row w g _ _ T _ h

theorem free4 {w : World} {g T : Nat} {cs : Array Value} (h : w.heap[g]? = some (.cells cs T)) (j : Nat) : w.frozen? ⟨g, j, none⟩ = false := by
  simp [World.frozen?, h]

/-- What holds while withShare runs: the box of its receiver, its result's cells, the builder (block bb) holding bs. -/
structure St (w : World) (h : ByteArray) (l r : Int) (g : Bool) (bb : Nat) (bs : List UInt8) (wi : World) : Prop where
  below : Below w.heap.size w wi
  box : wi.heap[w.heap.size]? = some (.cells #[.string h, .int .u64 l, .int .u32 r, .bool g] 55)
  res : wi.heap[w.heap.size + 1]? = some (.cells #[.string ⟨#[]⟩, .int .u64 0, .int .u32 0, .bool false] 55)
  lt : w.heap.size + 1 < bb
  bu : Lib.BuilderAt 71 5 bb bb (.pointer (some ⟨bb, 0, none⟩)) (Lib.byteCells bs) wi

theorem St.size {w : World} {h : ByteArray} {l r : Int} {g : Bool} {bb : Nat} {bs : List UInt8} {wi : World} (st : St w h l r g bb bs wi) : bb < wi.heap.size := st.bu.lt

/-- A call that writes nothing that was there. -/
theorem St.on {w : World} {h : ByteArray} {l r : Int} {g : Bool} {bb : Nat} {bs : List UInt8} {wi wj : World} (st : St w h l r g bb bs wi) (hb : Below wi.heap.size wi wj) : St w h l r g bb bs wj := by
  have h1 := st.size
  have h2 := st.lt
  exact ⟨st.below.trans (hb.mono (by omega)), (hb.block _ (by omega)).trans st.box, (hb.block _ (by omega)).trans st.res, h2, builder_on st.bu hb⟩

/-- A write into the builder. -/
theorem St.put {w : World} {h : ByteArray} {l r : Int} {g : Bool} {bb : Nat} {bs bs' : List UInt8} {wi wj : World} (st : St w h l r g bb bs wi) (hu : Lib.BuilderAt 71 5 bb bb (.pointer (some ⟨bb, 0, none⟩)) (Lib.byteCells bs') wj) (hb : Below bb wi wj) : St w h l r g bb bs' wj := by
  have h2 := st.lt
  exact ⟨st.below.trans (hb.mono (by omega)), (hb.block _ (by omega)).trans st.box, (hb.block _ (by omega)).trans st.res, h2, hu⟩

theorem St.cells {w : World} {h : ByteArray} {l r : Int} {g : Bool} {bb : Nat} {bs : List UInt8} {wi : World} (st : St w h l r g bb bs wi) :
    wi.cell? ⟨w.heap.size, 0, none⟩ = some (.string h) ∧ wi.cell? ⟨w.heap.size, 1, none⟩ = some (.int .u64 l) ∧ wi.cell? ⟨w.heap.size, 2, none⟩ = some (.int .u32 r) ∧ wi.cell? ⟨w.heap.size, 3, none⟩ = some (.bool g) := box4 st.box

theorem ext_take (h : ByteArray) (a : Nat) : (h.extract 0 a).data.toList = h.data.toList.take a := by simp
theorem ext_drop (h : ByteArray) (a : Nat) : (h.extract a h.size).data.toList = h.data.toList.drop a := by
  simp
  exact List.take_of_length_le (by simp)

set_option maxHeartbeats 4000000 in
theorem withShare_some (h s : ByteArray) (l r : Int) (g : Bool) (T : Nat) (w : World) (hh : h.size ≤ 2000000) (hw : WellP h) (hs : s.size = 4) (hT : T < 18446744073709551616) :
    Calls Try.prog 32 #[.agg #[.string h, .int .u64 l, .int .u32 r, .bool g], .string s, .int .u64 T] w fun e w' => ∃ (a : Nat), e = .returned (.agg #[.string ⟨(h.data.toList.take a ++ s.data.toList ++ be8 T ++ h.data.toList.drop a).toArray⟩, .int .u64 T, .int .u32 0, .bool false]) ∧ a ≤ h.size ∧ AtP h s a ∧ Below w.heap.size w w' := by
  have HS := Lib.hid hs
  have h12 : 12 ≤ h.size := hw.1
  have d0 : decide ((4 : Int) < (h.size : Int)) = true := by simp; omega
  have HW := Lib.hid hw
  have hs4 : s.size ≤ 4 := by omega
  clear hw hs
  go_enter Try.func32, Try.ntmps32
  go_wp2_with (go_at_call 30; refine (shareAt_at h s l r g _ hh HW.out HS.out).mono ?_; rintro e w1 ⟨a, b, rfl, ha, hat, hb1⟩; refine Hid.out ?_)
  refine Lib.hid ?_
  have HAT := Lib.hid hat
  clear hat
  have hB1 : Below w.heap.size w w1 := (((Below.refl _ _).alloc (Nat.le_refl _) _).alloc (by simp) _).trans (hb1.mono (by simp; omega))
  have hbox1 : w1.heap[w.heap.size]? = some (.cells #[.string h, .int .u64 l, .int .u32 r, .bool g] 55) := by
    rw [hb1.block _ (by simp; omega), Below.heap_alloc _ _ _ (by simp)]; exact heap_alloc_new w _
  have hres1 : w1.heap[w.heap.size + 1]? = some (.cells #[.string ⟨#[]⟩, .int .u64 0, .int .u32 0, .bool false] 55) := by
    rw [hb1.block _ (by simp)]
    have := heap_alloc_new (w.alloc (.cells #[.string h, .int .u64 l, .int .u32 r, .bool g] 55)) (.cells #[.string ⟨#[]⟩, .int .u64 0, .int .u32 0, .bool false] 55)
    simpa using this
  have hsz1 : w.heap.size + 1 < w1.heap.size := by have := hb1.size; simp at this; omega
  have hsz0 : w.heap.size < w1.heap.size := by omega
  clear hb1
  -- the builder's own block
  have hg : Calls Try.prog 39 #[.pointer (some ⟨w1.heap.size, 0, none⟩), .int .i64 ((h.size : Int) + 12)] (w1.alloc (.cells #[.pointer none, .slice none 0 0] 71)) fun e w' => e = .returned (.tuple #[]) ∧ St w h l r g w1.heap.size [] w' := by
    have := Try.Builder_Grow_fresh w1.heap.size w1.heap.size (h.size + 12) (w1.alloc (.cells #[.pointer none, .slice none 0 0] 71)) (Nat.le_refl _) (heap_alloc_new w1 _) (by simp) (by omega)
    rw [show ((h.size + 12 : Nat) : Int) = (h.size : Int) + 12 by omega] at this
    refine this.mono ?_
    rintro e w' ⟨rfl, hu, hb⟩
    refine ⟨rfl, (hB1.alloc (by omega) _).trans (hb.mono (by omega)), ?_, ?_, hsz1, hu⟩
    · rw [hb.block _ (by omega), Below.heap_alloc _ _ _ (by omega)]; exact hbox1
    · rw [hb.block _ (by omega), Below.heap_alloc _ _ _ (by omega)]; exact hres1
  have HG := Lib.hid hg
  clear hg hres1
  obtain ⟨k0, k1, k2, k3⟩ := box4 hbox1
  clear hbox1
  go_wp2_with (go_at_call 39; refine (HG.out).mono ?_; rintro e w2 ⟨rfl, st2⟩; refine Hid.out ?_)
  refine Lib.hid ?_
  clear k0 k1 k2 k3 HG hB1
  obtain ⟨bb, hbb⟩ : ∃ bb, bb = w1.heap.size := ⟨_, rfl⟩
  rw [← hbb] at st2 ⊢
  clear hbb hsz0 hsz1
  obtain ⟨k0, k1, k2, k3⟩ := st2.cells
  go_wp2_with (go_at_call 37; refine (shared_any h l r g _).mono ?_; rintro e w3 ⟨rfl, hb3⟩; rw [d0]; have st3 := st2.on hb3; refine Hid.out ?_)
  refine Lib.hid ?_
  clear k0 k1 k2 k3 hb3 st2
  obtain ⟨k0, k1, k2, k3⟩ := st3.cells
  go_wp2_with (go_at_call 40; refine (Try.Builder_WriteString bb bb (Lib.byteCells []) (h.extract 0 a) _ (Or.inr st3.bu) (by simp [Lib.byteCells]; omega) (Nat.le_of_lt st3.size)).mono ?_; rintro e w4 ⟨rfl, hu4, hb4⟩; refine Hid.out ?_)
  refine Lib.hid ?_
  have st4 : St w h l r g bb (h.data.toList.take a) w4 := st3.put (by have e1 := Lib.strCells_eq (h.extract 0 a); rw [ext_take] at e1; rw [e1] at hu4; exact hu4) hb4
  clear k0 k1 k2 k3 hu4 hb4 st3
  have hl4 : (h.data.toList.take a).length ≤ 2000000 := by simp; omega
  go_wp2_with (go_at_call 40; refine (Try.Builder_WriteString bb bb (Lib.byteCells (h.data.toList.take a)) s _ (Or.inr st4.bu) (by rw [Lib.byteCells_length]; omega) (Nat.le_of_lt st4.size)).mono ?_; rintro e w5 ⟨rfl, hu5, hb5⟩; refine Hid.out ?_)
  refine Lib.hid ?_
  obtain ⟨pre, hpre⟩ : ∃ pre, pre = h.data.toList.take a ++ s.data.toList := ⟨_, rfl⟩
  have st5 : St w h l r g bb pre w5 := st4.put (by rw [hpre, Lib.byteCells_append, ← Lib.strCells_eq]; exact hu5) hb5
  have hl5 : pre.length ≤ 2000004 := by rw [hpre, List.length_append]; simp only [Array.length_toList]; have : s.data.size = s.size := rfl; omega
  have HPRE := Lib.hid hpre
  clear hu5 hb5 st4 hl4 hpre
  go_wp2_with fail
  have ST5 := Lib.hid st5
  clear st5
  go_loopw [10] (fun x wr => ∃ k : Nat, k ≤ 8 ∧ x = .int .i64 (56 - 8 * (k : Int)) ∧ St w h l r g bb (pre ++ (be8 T).take k) wr) (fun x _ => (intOf x + 8).toNat)
  case atStart => exact ⟨0, by omega, rfl, by simpa using ST5.out⟩
  case round =>
    obtain ⟨k, hk, rfl, st⟩ := hrel
    have hlk : (pre ++ (be8 T).take k).length ≤ 2000012 := by simp only [List.length_append, List.length_take, be8, List.length_cons, List.length_nil]; omega
    by_cases hlt : k < 8
    · have hst : ∀ (c : Int) (wj : World), c = ((tkb T k).toNat : Int) → Lib.BuilderAt 71 5 bb bb (.pointer (some ⟨bb, 0, none⟩)) (Lib.byteCells (pre ++ (be8 T).take k) ++ [.int .u8 c]) wj → Below bb wr wj → St w h l r g bb (pre ++ (be8 T).take (k + 1)) wj := by
        intro c wj hc hu hb
        refine st.put ?_ hb
        rw [be8_take T k hlt, ← List.append_assoc, Lib.byteCells_append]
        rw [hc] at hu
        exact hu
      have HST := Lib.hid hst
      clear hst
      have hbu := st.bu
      have hsz := st.size
      have HBU := Lib.hid hbu
      clear hbu st
      rcases (show k = 0 ∨ k = 1 ∨ k = 2 ∨ k = 3 ∨ k = 4 ∨ k = 5 ∨ k = 6 ∨ k = 7 by omega) with rfl | rfl | rfl | rfl | rfl | rfl | rfl | rfl
      all_goals
        go_wp2_with (go_at_call 41; refine (Try.Builder_WriteByte bb bb _ _ _ (Or.inr HBU.out) (by rw [Lib.byteCells_length]; omega) (Nat.le_of_lt hsz)).mono ?_; rintro e w6 ⟨rfl, hu6, hb6⟩; refine Hid.out ?_)
        refine Lib.hid ?_
        have st6 := HST.out _ w6 (by rw [tkb_toNat]; simp only [Nat.reduceMul, Nat.reduceSub, Nat.reducePow]; omega) hu6 hb6
        clear hu6 hb6 HST HBU hsz
        go_wp2
        go_roundw
        case rel => exact ⟨_, by decide, by first | rfl | go_num, st6⟩
        case measure => simp [intOf]
    · obtain rfl : k = 8 := by omega
      have e8 : (be8 T).take 8 = be8 T := rfl
      rw [e8] at st hlk
      obtain ⟨k0, k1, k2, k3⟩ := st.cells
      go_wp2_with (go_at_call 37; refine (shared_any h l r g _).mono ?_; rintro e w7 ⟨rfl, hb7⟩; rw [d0]; have st7 := st.on hb7; refine Hid.out ?_)
      refine Lib.hid ?_
      clear k0 k1 k2 k3 hb7 st
      obtain ⟨k0, k1, k2, k3⟩ := st7.cells
      have hx : (h.extract a h.size).size ≤ 2000000 := by simp; omega
      go_wp2_with (go_at_call 40; refine (Try.Builder_WriteString bb bb (Lib.byteCells (pre ++ be8 T)) (h.extract a h.size) _ (Or.inr st7.bu) (by rw [Lib.byteCells_length]; omega) (Nat.le_of_lt st7.size)).mono ?_; rintro e w8 ⟨rfl, hu8, hb8⟩; refine Hid.out ?_)
      refine Lib.hid ?_
      obtain ⟨all, hall⟩ : ∃ all, all = pre ++ be8 T ++ h.data.toList.drop a := ⟨_, rfl⟩
      have st8 : St w h l r g bb all w8 := st7.put (by rw [hall, Lib.byteCells_append]; have e1 := Lib.strCells_eq (h.extract a h.size); rw [ext_drop] at e1; rw [← e1]; exact hu8) hb8
      have HALL := Lib.hid hall
      clear k0 k1 k2 k3 hu8 hb8 st7 hx hlk hall
      go_wp2_with (go_at_call 42; refine (Try.Builder_String_any bb bb all _ (Or.inr st8.bu) (Nat.le_of_lt st8.size)).mono ?_; rintro e w9 ⟨rfl, hb9⟩; refine Hid.out ?_)
      refine Lib.hid ?_
      have h2 := st8.lt
      have hres9 := (hb9.block _ h2).trans st8.res
      have hB9 : Below w.heap.size w w9 := st8.below.trans (hb9.mono (by omega))
      obtain ⟨k0, k1, k2, k3⟩ := box4 hres9
      have f0 := free4 hres9 0
      have f1 := free4 hres9 1
      have f2 := free4 hres9 2
      have f3 := free4 hres9 3
      clear hb9 st8 hres9
      go_wp2
      refine bodyPost_ret (v := .agg #[.string ⟨all.toArray⟩, .int .u64 T, .int .u32 0, .bool false]) (by simp [results, Try.results32, go_sem, k0, k1, k2, k3]) rfl ⟨a, ?_, ha, HAT.out, ?_⟩
      · rw [HALL.out, HPRE.out]
      · exact (((hB9.setCell (p := ⟨w.heap.size + 1, 0, none⟩) (by simp) _).setCell (p := ⟨w.heap.size + 1, 1, none⟩) (by simp) _).setCell (p := ⟨w.heap.size + 1, 2, none⟩) (by simp) _).setCell (p := ⟨w.heap.size + 1, 3, none⟩) (by simp) _

end Go.Proofs.Qxb6600199a
