/-
  DERIVED. Seat b6600356a: lowerMedian and ZZLowerMedian: the values of a map keyed 0, 1, .. are collected in whatever order, sorted, and the element at (n + 1) / 2 - 1 is handed back. After the kit's worked SortedKeys.
-/
import Derived.Test.Qxb6600356aPlain
import Derived.Test.Qxb6600356aSortI
import Derived.Maps.OwnSet
import Derived.Sort.OwnSorted
import Derived.Lib.OwnBridge
import Derived.OwnWalk
import Derived.Maps.AppendAt
import Derived.WalkKit
namespace Go.Proofs.Qxb6600356a
open Go.RowKit Go.Maps Go.Sort Go.Lib

theorem law3 : Keyed Try.prog 3 := int_keyed Try.underlying3
theorem info25 : (Try.prog.info? 25).map (fun i => (i.zero, i.size, i.bytes)) = some (some (.int .u64 0), 1, 8) := by kernel_rfl

theorem below_sorted {B : Nat} {w0 w : World} {g q : Nat} {d : Array Int} {os : Array Obj} (h : Below B w0 w) (hg : B ≤ g) (hs : B ≤ w.heap.size) : Below B w0 (grow (putRow (Value.int .u64) (Sort.ahead w q) g 0 d) os) := by
  have h1 : Below B w0 (putRow (Value.int .u64) (Sort.ahead w q) g 0 d) := below_putRow h hg
  refine ⟨h1.os, h1.tape, h1.output, Nat.le_trans h1.size (by simp [grow]), fun k hk => ?_⟩
  rw [← h1.block k hk]
  exact heap_grow_old _ _ (by simp; omega)

set_option maxRecDepth 100000 in
set_option maxHeartbeats 1000000 in
theorem lowerMedian_some (b n len : Nat) (zs : List Int) (w : World) (hown : w.ownsMap Try.prog 3 (plainElem (H := Unit) Try.prog 25) b n (Cm zs len)) (hlen : len ≤ 131072) (h0 : 0 < len) (hz : len ≤ zs.length) :
    Calls Try.prog 31 #[.map (some b)] w fun e w' => ∃ r, e = .returned (.int .u64 r) ∧ IsMed (zs.take len) r ∧ Below w.heap.size w w' := by
  obtain ⟨i0, hi, hz0, hz1, hz2⟩ := info_parts info25
  have hbl := hown.lt
  have hsize := Cm_size (H := Unit) zs len
  have ht : ((len : Int) == 0) = false := by simp; omega
  go_enter Try.func31, Try.ntmps31
  go_wp2_with (first
    | (at_len; refine wpList_len_own _ rfl _ 27 rfl 3 25 Try.underlying27 _ b n _ rfl hown ?_; rw [hsize])
    | (at_make; refine wpList_make_own _ rfl _ _ 22 rfl w.heap.size 25 i0 (.int .u64 0) 1 Try.underlying22 hi hz0 hz1 _ _ _ len rfl rfl rfl (by rw [hz2]; omega) (by unfold maxLen; omega) (Nat.le_refl _) ?_; intro w1 hrow1 hg1)
    | (at_range; refine wpList_range_own _ rfl _ 27 rfl 3 25 law3 Try.underlying27 _ b n _ rfl (hown.kept hg1 (by simp)) ?_; intro w0 hrg0 hg0 hs0)
    | go_in)
  go_frame
  rw [hsize] at hrg0
  go_loopw [3] (fun v wr => ∃ (left : Lit → Bool) (cnt : Nat) (is : List Nat), wr.ranges Try.prog 3 (plainElem (H := Unit) Try.prog 25) b w1.heap.size n (Cm zs len) left cnt ∧ is.length + cnt ≤ len ∧
      wr.ownsRow w.heap.size 25 1 v is.length ((is.map fun i => zs.getD i 0).map (Value.int .u64)) ∧ v ≠ .slice none 0 0 ∧ Met' len left is ∧ Below w.heap.size w wr)
    (fun _ wr => wr.rangeLeft b w1.heap.size)
  case atStart =>
    exact ⟨_, _, [], hrg0, by simp, hrow1.kept hg0 (Or.inr (by simp [Value.ownBlock])), by simp, Met'.start zs len,
      ((Below.refl _ _).grown hg1 (Nat.le_refl _) (fun j hj => by cases hj)).grown hg0 hg1.size (fun j hj => by cases hj)⟩
  case round =>
    obtain ⟨left, cnt, is, hrg, hcs, hrow, hnn, hC, hnx⟩ := hrel
    go_wp2_with (first
      | (at_next; refine wpList_next_ranges_ii _ rfl _ rfl 3 25 .i64 .u64 law3 Try.underlying3 Try.underlying25 b w1.heap.size n _ _ _ rfl hrg ?_ ?_)
      | go_in)
    · intro hc0 hl0
      have hperm := hC.perm hl0
      have hil : is.length = len := by simpa using hperm.length_eq
      obtain ⟨g, cap, rfl, hbase, hgl, hcap, hmax, _, hH⟩ := holds_of_ownsRow hrow hnn
      obtain ⟨vs, hvs⟩ : ∃ vs, vs = is.map fun i => zs.getD i 0 := ⟨_, rfl⟩
      rw [← hvs] at hrow hH
      have hvl : vs.length = is.length := by rw [hvs]; simp
      have hvp : vs.Perm (zs.take len) := by rw [hvs, ← range_vals zs len hz]; exact hperm.map _
      have hc := Try.slices_Sort_int g 0 cap vs wr hH hgl (by omega)
      rw [hvl, hil] at hc
      rw [hil] at hrow hcap
      obtain ⟨S, hS⟩ : ∃ S, S = vs.mergeSort fun x y => decide (x ≤ y) := ⟨_, rfl⟩
      rw [← hS] at hc
      have hSl : S.length = len := by rw [hS, List.length_mergeSort, hvl, hil]
      have hlt : (len + 1) / 2 - 1 < S.length := by omega
      have hmed : IsMed (zs.take len) S[(len + 1) / 2 - 1] := by
        refine isMed_sorted hvp (by rw [List.length_take]; omega) ?_
        rw [← hS, show (zs.take len).length = len by rw [List.length_take]; omega]
        exact List.getElem?_eq_getElem hlt
      have hcell : ∀ nn os, (grow (putRow (Value.int .u64) (Sort.ahead wr nn) g 0 S.toArray) os).cell? ⟨g, (len + 1) / 2 - 1, none⟩ = some (.int .u64 S[(len + 1) / 2 - 1]) := fun nn os => by
        rw [cell?_grow _ _ _ (by simpa using hgl)]
        have := cell?_putRow (Value.int .u64) (Sort.ahead wr nn) g 0 vs.toArray S.toArray (holds_ahead _ _ _ _ _ _ hH) (by simp; omega) ((len + 1) / 2 - 1) (by simp; omega)
        rw [Nat.zero_add] at this
        rw [this]
        simp [hlt]
      have hbel : ∀ nn os, Below w.heap.size w (grow (putRow (Value.int .u64) (Sort.ahead wr nn) g 0 S.toArray) os) := fun nn os => below_sorted hnx hbase hnx.size
      obtain ⟨r, hr⟩ : ∃ r, r = S[(len + 1) / 2 - 1] := ⟨_, rfl⟩
      rw [← hr] at hmed hcell
      have hc2 : Calls Try.prog 33 #[.slice (some ⟨g, 0, none⟩) len cap] wr fun e w' => e = .returned (.tuple #[]) ∧ w'.cell? ⟨g, (len + 1) / 2 - 1, none⟩ = some (.int .u64 r) ∧ Below w.heap.size w w' :=
        hc.mono fun e w' h => ⟨h.1, by obtain ⟨_, nn, os, rfl⟩ := h; exact ⟨hcell nn os, hbel nn os⟩⟩
      clear hc hcell hbel hr hS hH hvs hperm hrow
      subst hil
      have hk : (((is.length : Int) + 1) / 2 - 1) = (((is.length + 1) / 2 - 1 : Nat) : Int) := by omega
      go_wp2_with (go_at_call 33; refine hc2.mono ?_; rintro e w' ⟨rfl, hcell, hbel⟩)
      go_ret
      exact ⟨r, rfl, hmed, hbel⟩
    · intro x c w2 cnt2 hwx hwc hlk hat hrg2 hlt hg2 hs2 hen
      have hhas := has_true_of_atKey hat
      rw [Cm_has, decide_eq_true_eq] at hhas
      obtain ⟨i, rfl⟩ : ∃ i : Nat, x = (i : Int) := ⟨x.toNat, by omega⟩
      have hil : i < len := by omega
      have hcz : Hid (c = zs.getD i 0) := by
        show _ = _
        have h1 := hat (.lit (.bool false))
        rw [Cm_at zs _ _ len (by omega) (by omega), Int.toNat_natCast] at h1
        simp at h1
        exact h1.symm
      have hrow2 := hrow.kept hg2 (Or.inr (row_ne_iter hrow hrg).symm)
      clear hs2 hhas
      go_wp2_with (first
        | (at_builtin; refine wpList_append_own _ rfl _ _ 22 rfl w.heap.size 25 i0 (.int .u64 0) 1 8 Try.underlying22 hi hz0 hz1 hz2 rfl (by decide) _ _ _ rfl (hrow2.alloc _) ⟨w2.heap.size, 0, none⟩ 1 1 [.int .u64 c] rfl rfl (cell_one_new _ _ _) (ints_oneCell .u64 [c]) (by unfold maxLen at *; omega) (by omega) (by have := hnx.size; have := hg2.size; simp; omega) ?_; intro v' w3 hown' hg3 hnil3; go_frame)
        | go_in)
      have hrg3 := (hrg2.alloc _).kept hg3 (row_ne_low hrow2 hbl) (row_ne_iter hrow2 hrg2)
      go_roundw
      case rel =>
        refine ⟨_, cnt2, is ++ [i], hrg3, by simp; omega, by rw [hcz.out] at hown'; simpa using hown', fun hv' => by have := (hnil3.1 hv').2; omega, hC.step hil hlk, ?_⟩
        exact ((hnx.grown hg2 hnx.size (fun j hj => by cases hj; exact hg1.size)).alloc (by have := hnx.size; have := hg2.size; omega) _).grown hg3 (by have := hnx.size; have := hg2.size; simp; omega) (fun j hj => (hrow2.lt j hj).1)
      case measure => rw [hrg3.left_eq, hrg.left_eq]; exact hlt

set_option maxRecDepth 100000 in
theorem lowerMedian_none (b n : Nat) (zs : List Int) (w : World) (hown : w.ownsMap Try.prog 3 (plainElem (H := Unit) Try.prog 25) b n (Cm zs 0)) :
    Calls Try.prog 31 #[.map (some b)] w fun e w' => e = .returned (.int .u64 0) ∧ w' = w := by
  have hsize := Cm_size (H := Unit) zs 0
  go_enter Try.func31, Try.ntmps31
  go_wp2_with (first
    | (at_len; refine wpList_len_own _ rfl _ 27 rfl 3 25 Try.underlying27 _ b n _ rfl hown ?_; rw [hsize])
    | go_in)
  go_ret
  exact ⟨rfl, rfl⟩

/-- graded.lowerMedian: THE LOWER MEDIAN OF THE MAP's VALUES. -/
theorem lowerMedian (b n len : Nat) (zs : List Int) (w : World) (hown : w.ownsMap Try.prog 3 (plainElem (H := Unit) Try.prog 25) b n (Cm zs len)) (hlen : len ≤ 131072) (hz : len ≤ zs.length) :
    Calls Try.prog 31 #[.map (some b)] w fun e w' => ∃ r, e = .returned (.int .u64 r) ∧ IsMed (zs.take len) r ∧ Below w.heap.size w w' := by
  rcases Nat.eq_zero_or_pos len with rfl | h0
  · exact (lowerMedian_none b n zs w hown).mono fun e w' ⟨h1, h2⟩ => ⟨0, h1, .inl ⟨by simp, rfl⟩, h2 ▸ Below.refl _ _⟩
  · exact lowerMedian_some b n len zs w hown hlen h0 hz

set_option maxRecDepth 100000 in
theorem ZZLowerMedian (b n len : Nat) (zs : List Int) (w : World) (hown : w.ownsMap Try.prog 3 (plainElem (H := Unit) Try.prog 25) b n (Cm zs len)) (hlen : len ≤ 131072) (hz : len ≤ zs.length) :
    Calls Try.prog 13 #[.map (some b)] w fun e w' => ∃ r, e = .returned (.int .u64 r) ∧ IsMed (zs.take len) r ∧ Below w.heap.size w w' := by
  go_enter Try.func13, Try.ntmps13
  go_wp2_with (go_at_call 31; refine (lowerMedian b n len zs w hown hlen hz).mono ?_; rintro e w' ⟨r, rfl, hmed, hbel⟩)
  go_ret
  exact ⟨r, rfl, hmed, hbel⟩

end Go.Proofs.Qxb6600356a
