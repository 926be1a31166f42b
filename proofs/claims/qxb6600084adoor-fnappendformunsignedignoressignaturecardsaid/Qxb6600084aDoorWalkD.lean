/-
  DERIVED. Seat b6600084aD: the walk of zzBytesEqual at two equal rows.
-/
import Derived.Test.Qxb6600084aDoorProg
import Derived.WalkKit
import Derived.WalkSpells
import Derived.WalkLawsBesides
import Derived.Deep.QuietTactic
import Derived.BigQuiet
import Derived.Lib.Hide
namespace Go.Proofs.Qxb6600084aDoor
open Go.RowKit

theorem getD_cell {w : World} {g : Nat} {l : List UInt8} (h : ∀ j, j < l.length → w.cell? ⟨g, j, none⟩ = some (.int .u8 ((l.getD j 0).toNat : Int))) (q : Nat) (j : Nat) (hj : j < l.length) : (w.drewN q).cell? ⟨g, j, none⟩ = some (.int .u8 ((l.getD j 0).toNat : Int)) := h j hj

set_option maxHeartbeats 1000000 in
theorem bytesEqual_same (g1 g2 n c1 c2 : Nat) (l : List UInt8) (w : World) (hl : l.length = n) (hn : n ≤ 1000000000)
    (h1 : ∀ j, j < l.length → w.cell? ⟨g1, j, none⟩ = some (.int .u8 ((l.getD j 0).toNat : Int))) (h2 : ∀ j, j < l.length → w.cell? ⟨g2, j, none⟩ = some (.int .u8 ((l.getD j 0).toNat : Int))) :
    Calls Tryd.prog 16 #[.slice (some ⟨g1, 0, none⟩) n c1, .slice (some ⟨g2, 0, none⟩) n c2] w fun e w' => e = .returned (.bool true) ∧ ∃ q, w' = w.drewN q := by
  have HL := Lib.hid hl
  have H1 := Lib.hid h1
  have H2 := Lib.hid h2
  clear hl h1 h2
  go_enter Tryd.func16, Tryd.ntmps16
  go_wp2
  go_loopw [5] (fun i wr => ∃ k : Nat, k ≤ n ∧ i = .int .i64 k ∧ ∃ q, wr = w.drewN q) (fun i _ => n - (intOf i).toNat)
  case atStart => exact ⟨0, Nat.zero_le _, rfl, 0, rfl⟩
  case round =>
    obtain ⟨k, hk, rfl, q, rfl⟩ := hrel
    by_cases hlt : k < n
    · obtain ⟨c, hc⟩ : ∃ c : Int, c = ((l.getD k 0).toNat : Int) := ⟨_, rfl⟩
      have k1 : w.cell? ⟨g1, k, none⟩ = some (.int .u8 c) := by rw [hc]; exact H1.out k (by rw [HL.out]; exact hlt)
      have k2 : w.cell? ⟨g2, k, none⟩ = some (.int .u8 c) := by rw [hc]; exact H2.out k (by rw [HL.out]; exact hlt)
      clear hc
      have hlt' : (k : Int) < (n : Int) := by omega
      go_wp2_with fail
      go_quiet (fail)
      go_wp2
      go_roundw
      case rel => exact ⟨k + 1, by omega, by go_num, _, rfl⟩
      case measure => simp [intOf]; omega
    · go_wp2
      go_ret
      exact ⟨rfl, q, rfl⟩

end Go.Proofs.Qxb6600084aDoor
