/-
  DERIVED. Seat b6600356a: from the shell's words on the slice that came in to the walk's.
-/
import Derived.Test.Qxb6600356aWalkO
namespace Go.Proofs.Qxb6600356a
open Go.RowKit

theorem cell_near {w : World} {x : Addr} {v : Value} (h : w.cell? x = some v) : x = ⟨x.block, x.off, none⟩ ∧ x.block < w.heap.size := by
  obtain ⟨b, o, p⟩ := x
  unfold World.cell? at h
  cases hb : w.heap[b]? with
  | none => simp [hb] at h
  | some ob =>
    refine ⟨?_, (Array.getElem?_eq_some_iff.1 hb).1⟩
    cases p with
    | none => rfl
    | some q => cases ob <;> simp [hb] at h

theorem came_of {w : World} {a : Option Addr} {len cap : Nat} {zs : List Int}
    (h : (a = none ∧ len = 0 ∧ cap = 0 ∧ zs = []) ∨ ∃ x, a = some x ∧ len ≤ cap ∧ cap ≤ maxLen ∧ zs.length = cap ∧ (∀ i, i < zs.length → w.cell? (x.add i) = some (.int .u64 (zs.getD i 0))) ∧ ∀ n ∈ zs, (Lit.int .u64 n).wf = true) : Came w a len cap zs := by
  rcases h with ⟨rfl, rfl, rfl, rfl⟩ | ⟨x, rfl, h1, h2, h3, h4, h5⟩
  · exact ⟨Nat.zero_le _, fun _ => ⟨rfl, rfl⟩, .inl rfl, Nat.le_refl _, fun n hn => by cases hn⟩
  · refine ⟨Nat.le_trans h1 h2, fun h => (by cases h), ?_, by omega, h5⟩
    rcases Nat.eq_zero_or_pos len with rfl | h0
    · exact .inl rfl
    · obtain ⟨e, hb⟩ := cell_near (h4 0 (by omega))
      obtain ⟨b, o, p⟩ := x
      have hp : p = none := by simpa [Addr.add] using e
      subst hp
      exact .inr ⟨b, o, rfl, hb, fun i hi => (congrArg w.cell? (show (⟨b, o + i, none⟩ : Addr) = (⟨b, o, none⟩ : Addr).add i by simp [Addr.add])).trans (h4 i (by omega))⟩

theorem wf_nonneg {a : Int} (h : (Lit.int .u64 a).wf = true) : 0 ≤ a := by
  simp [Lit.wf, IntKind.min, IntKind.max, IntKind.signed, IntKind.bits] at h
  omega

end Go.Proofs.Qxb6600356a
