/-
  DERIVED. Seat b6600356a: b1cloneU64, b1lmMap, the two byte counts.
-/
import Derived.Test.Qxb6600356aWalkM
import Derived.Laws.OwnMore
import Derived.Lib.SliceRun
namespace Go.Proofs.Qxb6600356a
open Go.RowKit Go.Maps Go.Sort Go.Lib

/-- THE CELLS OF A SLICE OF uint64: len of them from an address on. (Of no element: whatever.) -/
def Row (w : World) (a : Option Addr) (len : Nat) (zs : List Int) : Prop :=
  len = 0 ∨ ∃ b off, a = some ⟨b, off, none⟩ ∧ b < w.heap.size ∧ ∀ i, i < len → w.cell? ⟨b, off + i, none⟩ = some (.int .u64 (zs.getD i 0))

theorem Row.kept {w w' : World} {a : Option Addr} {len : Nat} {zs : List Int} (h : Row w a len zs) (hb : Below w.heap.size w w') : Row w' a len zs := by
  rcases h with h | ⟨b, off, h1, h2, h3⟩
  · exact .inl h
  · exact .inr ⟨b, off, h1, Nat.lt_of_lt_of_le h2 hb.size, fun i hi => (hb.cell (p := ⟨b, off + i, none⟩) h2).trans (h3 i hi)⟩

set_option maxRecDepth 100000 in
theorem clone_nil (w : World) : Calls Try.prog 12 #[.slice none 0 0] w fun e w' => e = .returned (.slice none 0 0) ∧ w' = w := by
  have hsn := fun w a n c => Go.Lib.run_eql_slice_nil (P := Try.prog) w 22 25 a n c 0 0 Try.underlying22
  go_enter Try.func12, Try.ntmps12
  go_wp2
  go_ret
  exact ⟨rfl, rfl⟩

set_option maxRecDepth 100000 in
set_option maxHeartbeats 1000000 in
theorem clone_some (x : Addr) (len cap : Nat) (zs : List Int) (w : World) (hr : Row w (some x) len zs) (hlen : len ≤ 131072) :
    Calls Try.prog 12 #[.slice (some x) len cap] w fun e w' => e = .returned (.slice (some ⟨w.heap.size, 0, none⟩) len len) ∧ Row w' (some ⟨w.heap.size, 0, none⟩) len zs ∧ Below w.heap.size w w' := by
  obtain ⟨i0, hi, hz0, hz1, hz2⟩ := info_parts info25
  have hsn := fun w a n c => Go.Lib.run_eql_slice_nil (P := Try.prog) w 22 25 a n c 0 0 Try.underlying22
  go_enter Try.func12, Try.ntmps12
  go_wp2_with (first
    | (at_make; refine wpList_make_full _ rfl _ _ 22 rfl w.heap.size 25 i0 (.int .u64 0) 1 Try.underlying22 hi hz0 hz1 _ _ _ _ len rfl rfl rfl rfl (by rw [hz2]; omega) (by unfold maxLen; omega) (Nat.le_refl _) ?_; intro w1 hrow1 hg1)
    | go_in)
  go_loopw [4] (fun v wr => ∃ (k : Nat) (xs : List Value), v = .int .i64 k ∧ k ≤ len ∧ wr.ownsRow w.heap.size 25 1 (.slice (some ⟨w.heap.size, 0, none⟩) len len) len xs ∧ (∀ i, i < k → xs[i]? = some (.int .u64 (zs.getD i 0))) ∧ (∀ i, i < len → ∃ u, xs[i]? = some u) ∧ Below w.heap.size w wr)
    (fun v _ => len - (intOf v).toNat)
  case atStart =>
    refine ⟨0, _, rfl, Nat.zero_le _, hrow1, fun i h => absurd h (by omega), fun i h => ?_, (Below.refl _ _).grown hg1 (Nat.le_refl _) (fun j hj => by cases hj)⟩
    have := hrow1.1
    exact ⟨_, List.getElem?_eq_getElem (by omega)⟩
  case round =>
    obtain ⟨k, xs, rfl, hk, hown, hxs, hall, hnx⟩ := hrel
    by_cases hkl : k < len
    · rcases hr with h | ⟨b, off, hx, hbl, hc⟩
      · omega
      · cases hx
        have hck : wr.cell? ⟨b, off + k, none⟩ = some (.int .u64 (zs.getD k 0)) := (hnx.cell (p := ⟨b, off + k, none⟩) hbl).trans (hc k hkl)
        obtain ⟨q, hq⟩ : ∃ q, q = zs.getD k 0 := ⟨_, rfl⟩
        rw [← hq] at hck
        obtain ⟨u, hu⟩ := hall k hkl
        have hcu : wr.cell? ⟨w.heap.size, k, none⟩ = some u := by rw [hown.cellAt k (by omega)]; exact hu
        have hfu := hown.frozenAt k
        have hst := hown.stored k (.int .u64 q)
        have HQ : Hid (q = zs.getD k 0) := hq
        have HS : Hid _ := hst
        have HX : Hid (∀ i, i < k → xs[i]? = some (.int .u64 (zs.getD i 0))) := hxs
        clear hq hst hxs
        go_wp2
        go_roundw
        case rel =>
          refine ⟨k + 1, xs.set k (.int .u64 q), by go_num, by omega, HS.out.1, fun i hi => ?_, fun i hi => ?_, hnx.grown HS.out.2 hnx.size (fun j hj => by cases hj; exact Nat.le_refl _)⟩
          · rw [List.getElem?_set]
            by_cases hki : k = i
            · subst hki
              have hl := hown.1
              rw [if_pos rfl, if_pos (by omega), HQ.out]
            · rw [if_neg hki]; exact HX.out i (by omega)
          · have hl := hown.1
            exact ⟨_, List.getElem?_eq_getElem (by rw [List.length_set]; omega)⟩
        case measure => simp [intOf]; omega
    · obtain rfl : k = len := by omega
      go_wp2
      go_ret
      refine ⟨rfl, .inr ⟨_, 0, rfl, ?_, fun i hi => ?_⟩, hnx⟩
      · exact (hown.lt w.heap.size rfl).2
      · rw [Nat.zero_add, hown.cellAt i (by omega)]; exact hxs i hi

/-- b1cloneU64: A COPY. -/
theorem clone (a : Option Addr) (len cap : Nat) (zs : List Int) (w : World) (hr : Row w a len zs) (hn : a = none → len = 0 ∧ cap = 0) (hlen : len ≤ 131072) :
    Calls Try.prog 12 #[.slice a len cap] w fun e w' => ∃ a', e = .returned (.slice a' len len) ∧ Row w' a' len zs ∧ Below w.heap.size w w' := by
  cases a with
  | none =>
    obtain ⟨rfl, rfl⟩ := hn rfl
    exact (clone_nil w).mono fun e w' ⟨h1, h2⟩ => ⟨none, h1, .inl rfl, h2 ▸ Below.refl _ _⟩
  | some x => exact (clone_some x len cap zs w hr hlen).mono fun e w' h => ⟨_, h⟩

/-- 'make(map[int]uint64, n)': the hint lays nothing. -/
theorem run_makeMap_hint (x : Int) (w : World) : (Instr.makeMap 27 (some (.int .i64 x))).run Try.prog w = .ok (.map (some w.heap.size)) (w.alloc (.map #[] 0)) := by
  simp [Instr.makeMap, go_sem]

set_option maxRecDepth 100000 in
theorem lmMap_none (a : Option Addr) (cap : Nat) (zs : List Int) (w : World) :
    Calls Try.prog 14 #[.slice a 0 cap] w fun e w' => e = .returned (.map (some w.heap.size)) ∧ w'.ownsMap Try.prog 3 (plainElem (H := Unit) Try.prog 25) w.heap.size 0 (Cm zs 0) ∧ Below w.heap.size w w' := by
  have hmm := run_makeMap_hint
  go_enter Try.func14, Try.ntmps14
  go_wp2
  refine wp_loop_rounds 1 ?_
  rw [rounds_succ]
  go_wp2
  go_ret
  exact ⟨rfl, World.ownsMap_made _ _ _ _, (Below.refl _ _).alloc (Nat.le_refl _) _⟩

set_option maxRecDepth 100000 in
set_option maxHeartbeats 1000000 in
theorem lmMap_some (b off len cap : Nat) (zs : List Int) (w : World) (hlen : len ≤ 131072) (hz : len ≤ zs.length) (hb : b < w.heap.size)
    (hc : ∀ j, j < len → w.cell? ⟨b, off + j, none⟩ = some (.int .u64 (zs.getD j 0))) (hwz : ∀ n ∈ zs, (Lit.int .u64 n).wf = true) :
    Calls Try.prog 14 #[.slice (some ⟨b, off, none⟩) len cap] w fun e w' => e = .returned (.map (some w.heap.size)) ∧ w'.ownsMap Try.prog 3 (plainElem (H := Unit) Try.prog 25) w.heap.size len (Cm zs len) ∧ Below w.heap.size w w' := by
  have hmm := run_makeMap_hint
  go_enter Try.func14, Try.ntmps14
  go_wp2
  go_loopw [4] (fun i wr => ∃ k : Nat, k ≤ len ∧ i = .int .i64 k ∧ wr.ownsMap Try.prog 3 (plainElem (H := Unit) Try.prog 25) w.heap.size k (Cm zs k) ∧ Below w.heap.size w wr)
    (fun i _ => len - (intOf i).toNat)
  case atStart => exact ⟨0, Nat.zero_le _, rfl, World.ownsMap_made _ _ _ _, (Below.refl _ _).alloc (Nat.le_refl _) _⟩
  case round =>
    obtain ⟨k, hk, rfl, hown, hnx⟩ := hrel
    have hkey : keyOf Try.prog 3 (.int .i64 (k : Int)) = some (.int .i64 (k : Int)) := keyOf_int_mk Try.underlying3 (WalkArith.wf_i64 (by omega))
    by_cases hkl : k < len
    · have hcx : wr.cell? ⟨b, off + k, none⟩ = some (.int .u64 (zs.getD k 0)) := (hnx.cell (by exact hb)).trans (hc k (by omega))
      obtain ⟨q, hq⟩ : ∃ q, q = zs.getD k 0 := ⟨_, rfl⟩
      have hwq : (Lit.int .u64 q).wf = true := by
        rw [hq, List.getD, List.getElem?_eq_getElem (by omega)]
        exact hwz _ (List.getElem_mem (by omega))
      rw [← hq] at hcx
      have HQ : Hid (q = zs.getD k 0) := hq
      clear hq
      go_wp2_with (first
        | (at_mapUpdate; refine wpList_mapUpdate_own _ rfl _ _ _ 27 rfl 3 25 law3 Try.underlying27 _ w.heap.size k _ rfl hown (by unfold maxLen; omega) _ _ _ rfl rfl hkey _ [] (plainElem_int Try.underlying25 hwq) ?_; intro w1 hown1 hgrow1)
        | go_in)
      go_roundw
      case rel => exact ⟨k + 1, by omega, by go_num, by rw [HQ.out] at hown1; exact hown1, hnx.grown hgrow1 hnx.size (fun j hj => by cases hj; exact Nat.le_refl _)⟩
      case measure => simp [intOf]; omega
    · obtain rfl : k = len := by omega
      go_wp2
      go_ret
      exact ⟨rfl, hown, hnx⟩

/-- b1lmMap: THE MAP i -> zs[i]. -/
theorem lmMap (a : Option Addr) (len cap : Nat) (zs : List Int) (w : World) (hr : Row w a len zs) (hlen : len ≤ 131072) (hz : len ≤ zs.length) (hwz : ∀ n ∈ zs, (Lit.int .u64 n).wf = true) :
    Calls Try.prog 14 #[.slice a len cap] w fun e w' => e = .returned (.map (some w.heap.size)) ∧ w'.ownsMap Try.prog 3 (plainElem (H := Unit) Try.prog 25) w.heap.size len (Cm zs len) ∧ Below w.heap.size w w' := by
  rcases Nat.eq_zero_or_pos len with rfl | h0
  · exact lmMap_none a cap zs w
  · rcases hr with h | ⟨b, off, rfl, hb, hc⟩
    · omega
    · exact lmMap_some b off len cap zs w hlen hz hb hc hwz

set_option maxRecDepth 100000 in
theorem bytes11 (a : Option Addr) (len cap : Nat) (w : World) (hlen : len ≤ maxLen) : Calls Try.prog 11 #[.slice a len cap] w fun e w' => e = .returned (.bool (decide (len ≤ 1048576))) ∧ w' = w := by
  unfold maxLen at hlen
  by_cases h : len ≤ 1048576
  · have h1 : decide ((len : Int) > 1048576) = false := decide_eq_false (by omega)
    have h2 : IntKind.i64.wrap (0 + (len : Int)) = len := by rw [IntKind.wrap_i64]; omega
    rw [decide_eq_true h]
    go_enter Try.func11, Try.ntmps11
    go_wp2
    go_ret
    exact ⟨rfl, rfl⟩
  · have h1 : decide ((len : Int) > 1048576) = true := decide_eq_true (by omega)
    rw [decide_eq_false h]
    go_enter Try.func11, Try.ntmps11
    go_wp2
    go_ret
    exact ⟨rfl, rfl⟩

set_option maxRecDepth 100000 in
theorem bytes15 (a : Option Addr) (len cap : Nat) (q : Int) (w : World) (hlen : len ≤ maxLen) : Calls Try.prog 15 #[.slice a len cap, .int .u64 q] w fun e w' => e = .returned (.bool (decide (len ≤ 1048576))) ∧ w' = w := by
  unfold maxLen at hlen
  by_cases h : len ≤ 1048576
  · have h1 : decide ((len : Int) > 1048576) = false := decide_eq_false (by omega)
    rw [decide_eq_true h]
    go_enter Try.func15, Try.ntmps15
    go_wp2
    go_ret
    exact ⟨rfl, rfl⟩
  · have h1 : decide ((len : Int) > 1048576) = true := decide_eq_true (by omega)
    rw [decide_eq_false h]
    go_enter Try.func15, Try.ntmps15
    go_wp2
    go_ret
    exact ⟨rfl, rfl⟩

end Go.Proofs.Qxb6600356a
