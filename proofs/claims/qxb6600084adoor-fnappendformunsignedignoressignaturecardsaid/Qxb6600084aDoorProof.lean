/-
  DERIVED. Seat b6600084aD: the row's proof and the tied card.
-/
import Derived.Test.Qxb6600084aDoorRows
import Derived.Test.Qxb6600084aDoorTie
import Derived.Test.Qxb6600084aDoorCards
import Derived.Test.Qxb6600084aDoorWalkF
import Derived.Test.Qxb6600084aDoorShelf
import Derived.ProofKit
import Derived.LaidMore
import Derived.OpenShut
import Derived.ShutString
import Derived.ChangeOld
import Derived.Stop.Joined
import Derived.SevenTiedAt
import Derived.Lib.LaidTab
namespace Go.Proofs.Qxb6600084aDoor
open Go.ChangeShapes Go.WideShapes Go.ChangeAt Go.WideMaps Go.WideElems Go.RowKit
open Go.ChangeMaps (open_string shut_string)

theorem own : ownKnob Tryd.prog.godebug = none := by kernel_rfl
theorem laidOut : laidOutB Tryd.prog = true := by kernel_rfl
theorem cells25 : Tryd.prog.cellsOf 25 = 9 := by kernel_rfl
theorem cells9 : Tryd.prog.cellsOf 9 = 1 := by kernel_rfl
theorem cells2 : Tryd.prog.cellsOf 2 = 1 := by kernel_rfl

/-- The table's name, as the row names it. -/
def tabName : String := Rows.fnAppendFormUnsignedIgnoresSignatureRow.named.headD ""

/-- A struct of nine one-cell fields, by value: the value written out. -/
theorem list9 {α : Type} (l : List α) (h : l.length = 9) : ∃ c0 c1 c2 c3 c4 c5 c6 c7 c8, l = [c0, c1, c2, c3, c4, c5, c6, c7, c8] := by
  match l, h with
  | [c0, c1, c2, c3, c4, c5, c6, c7, c8], _ => exact ⟨c0, c1, c2, c3, c4, c5, c6, c7, c8, rfl⟩

theorem open_seal {H : Type} {enc : TypeId × Value → H} {W : World} {base b0 : Nat} {r : Reach} {spare : Nat → Bool} {held : Bool} {v : Value} {d : DataW H} {p : List MemPlace}
    (hv : Value.okWide Tryd.prog W r b0 25 v) (h : DataW.Trod enc Tryd.prog W base spare held 25 v d p) :
    ∃ (a0 : ByteArray) (n : Int) (a2 a3 a4 a5 a6 a7 a8 : ByteArray), v = .agg #[.string a0, .int .i64 n, .string a2, .string a3, .string a4, .string a5, .string a6, .string a7, .string a8] ∧
      a0.size ≤ maxLen ∧ (Lit.int .i64 n).wf = true ∧ a2.size ≤ maxLen ∧ a3.size ≤ maxLen ∧ a4.size ≤ maxLen ∧ a5.size ≤ maxLen ∧ a6.size ≤ maxLen ∧ a7.size ≤ maxLen ∧ a8.size ≤ maxLen := by
  obtain ⟨cs, rfl, hsz⟩ := okWide_struct Tryd.underlying25 hv
  obtain ⟨l⟩ := cs
  obtain ⟨c0, c1, c2, c3, c4, c5, c6, c7, c8, rfl⟩ := list9 l (by simpa using hsz.trans cells25)
  obtain ⟨fuel, hf⟩ := h
  obtain ⟨xs, n, _, _, _, hl, hx⟩ := DataW.trod_struct Tryd.underlying25 hf
  obtain ⟨y0, y1, y2, y3, y4, y5, y6, y7, y8, rfl⟩ := list9 xs hl
  have g0 := hx 0 _ rfl
  have g1 := hx 1 _ rfl
  have g2 := hx 2 _ rfl
  have g3 := hx 3 _ rfl
  have g4 := hx 4 _ rfl
  have g5 := hx 5 _ rfl
  have g6 := hx 6 _ rfl
  have g7 := hx 7 _ rfl
  have g8 := hx 8 _ rfl
  simp [Value.cells, cells9, cells2] at g0 g1 g2 g3 g4 g5 g6 g7 g8
  obtain ⟨a0, e0, _, h0⟩ := DataW.trod_string Tryd.underlying9 g0
  obtain ⟨m, e1, _, h1⟩ := DataW.trod_int Tryd.underlying2 g1
  obtain ⟨a2, e2, _, h2⟩ := DataW.trod_string Tryd.underlying9 g2
  obtain ⟨a3, e3, _, h3⟩ := DataW.trod_string Tryd.underlying9 g3
  obtain ⟨a4, e4, _, h4⟩ := DataW.trod_string Tryd.underlying9 g4
  obtain ⟨a5, e5, _, h5⟩ := DataW.trod_string Tryd.underlying9 g5
  obtain ⟨a6, e6, _, h6⟩ := DataW.trod_string Tryd.underlying9 g6
  obtain ⟨a7, e7, _, h7⟩ := DataW.trod_string Tryd.underlying9 g7
  obtain ⟨a8, e8, _, h8⟩ := DataW.trod_string Tryd.underlying9 g8
  simp at e0 e1 e2 e3 e4 e5 e6 e7 e8
  subst e0 e1 e2 e3 e4 e5 e6 e7 e8
  exact ⟨a0, m, a2, a3, a4, a5, a6, a7, a8, rfl, h0, h1, h2, h3, h4, h5, h6, h7, h8⟩

def laid3 : List (String × DataW Unit) := Rows.fnAppendFormUnsignedIgnoresSignatureRow.laid

theorem door_met (os : Os) (args : Array Value) : laidMetH Tryd.prog laid3 ((World.doorLaid Tryd.prog 24 os).forCall (fun _ _ => 0) ⟨#[], args, []⟩).memory :=
  laidMetH_of_parts3 (fuel := 8) (laidMet_of_run' 8 (by kernel_rfl) (by kernel_rfl)) (by kernel_rfl) (by kernel_rfl)

theorem gTab : Tryd.prog.globalNamed tabName = some 0 := by kernel_rfl
theorem tTab : (Tryd.prog.globals[0]?).map (·.type) = some 56 := by kernel_rfl
theorem dTab : (Rows.laid_internal_strconv_uint64pow10 : DataW Unit) = Lib.tabData .u64 Lib.pow10Tab := by kernel_rfl

/-- What the condition gives the walk: the table of powers of ten. -/
theorem of_laid {W : World} (h : laidMetH Tryd.prog laid3 W) : Lib.TabIs Tryd.prog W tabName .u64 Lib.pow10Tab := by
  rw [MakeChecks.laidMetH_plain _ _ _ (by kernel_rfl)] at h
  obtain ⟨ps, ⟨g0, t0, cs0, f0, p0, q0, hg0, ht0, hv0, hd0, ⟨g1, t1, cs1, f1, p1, q1, hg1, ht1, hv1, hd1, ⟨g2, t2, cs2, f2, p2, q2, hg2, ht2, hv2, hd2, _, _⟩, _⟩, _⟩, _, _⟩ := h
  have hg2' : Tryd.prog.globalNamed tabName = some g2 := hg2
  obtain rfl := Option.some.inj (gTab.symm.trans hg2')
  obtain rfl := Option.some.inj (tTab.symm.trans ht2)
  rw [dTab] at hd2
  have hcs := Lib.cells_of_tab Tryd.underlying56 Tryd.underlying46 (by kernel_rfl) (by kernel_rfl) hd2
  have hv3 : W.var? Tryd.prog tabName = some cs2 := hv2
  unfold Lib.TabIs
  rw [hv3, ← hcs]

theorem appendInt : AppendIntSaid tabName := by
  intro B n i h0 h1 sv xs w hown hB hlim htab
  refine (Tryd.strconv_AppendInt_10_laid B n i h0 h1 sv xs w hown hB hlim htab).mono ?_
  rintro e w' ⟨v', h1, h2, h3, _⟩
  exact ⟨v', h1, h2, h3⟩

set_option maxRecDepth 100000 in
theorem lifted (os : Os) (started : os.Started) (H : Type) (enc : TypeId × Value → H) :
    ReturnsInHanded {} Tryd.checked os 4 .any (fun w args => (Rows.fnAppendFormUnsignedIgnoresSignatureSpec.pre enc Tryd.prog Tryd.f4 [] false w args ∧ laidMetH Tryd.prog laid3 w) ∧ sizedMet enc Tryd.prog Tryd.f4 (OpenSpec.ofChange Rows.fnAppendFormUnsignedIgnoresSignatureSpec) false w args)
      (Rows.fnAppendFormUnsignedIgnoresSignatureSpec.post enc Tryd.prog Tryd.f4 false true false false) := by
  refine returnsInHanded_of_change_and (C := Tryd.checked) (X := fun w _ => laidMetH Tryd.prog laid3 w) (fun _ _ _ hh h => h.of_heap hh) own started (by kernel_rfl) Tryd.func4
    (ChangeSpec.witness_shaped (enc := enc) (C := Tryd.checked) (os := os) (X := fun w _ => laidMetH Tryd.prog laid3 w) false (World.doorLaid Tryd.prog 24 os) #[.agg #[.string ⟨#[]⟩, .int .i64 0, .string ⟨#[]⟩, .string ⟨#[]⟩, .string ⟨#[]⟩, .string ⟨#[]⟩, .string ⟨#[]⟩, .string ⟨#[]⟩, .string ⟨#[]⟩], .string ⟨#[]⟩] 8 rfl (World.shaped_of_RefB (by kernel_rfl) (by kernel_rfl)) (by kernel_rfl) (by kernel_rfl) (by kernel_rfl) (door_met os _)) ?_
  intro W base args ds gs before hval0 hW _ _ hL _
  have hval : ∀ (j : Nat) t v, Tryd.f4.params[j]? = some t → args[j]? = some v → Value.okWide Tryd.prog W .any base t v := hval0
  have hW' := hW
  obtain ⟨p, q, hA0, hV, rfl, hfz, hnd⟩ := hW
  have hA : DataW.TrodAll enc Tryd.prog W 0 (fun _ => true) true Tryd.f4.params.toList args.toList ds p := hA0
  rw [Tryd.params4] at hA hval
  obtain ⟨v0, vs0, d0, ds0, p0, q0, hargs, rfl, rfl, h0, r0⟩ := trodAll_cons hA
  obtain ⟨v1, vs1, d1, ds1, p1, q1, rfl, rfl, rfl, h1, r1⟩ := trodAll_cons r0
  obtain ⟨rfl, rfl, rfl⟩ := trodAll_nil r1
  obtain rfl : args = #[v0, v1] := by cases args; simp_all
  obtain ⟨rfl, rfl⟩ := trodVars_none hV
  have k0 := h0
  have lt0 : ∀ x ∈ p0, x.block < W.heap.size := by obtain ⟨m, hm⟩ := k0; exact DataW.trod_lt m _ _ _ hm
  obtain ⟨a0, n, a2, a3, a4, a5, a6, a7, a8, rfl, s0, wn, s2, s3, s4, s5, s6, s7, s8⟩ := open_seal (hval 0 25 v0 rfl rfl) h0
  obtain ⟨t, rfl, rfl, rfl, st⟩ := open_string Tryd.underlying9 (hval 1 9 v1 rfl rfl) h1
  have hn := bounds_i64 wn
  have hT := Lib.tabBelow_of_tabIs (of_laid hL)
  clear hA0 hval0
  refine (law_walk tabName appendInt a0 n a2 a3 a4 a5 a6 a7 a8 t W s0 s2 s3 s4 s5 s6 s7 s8 st hn.1 hn.2 hT).mono fun e W' ⟨he, bel⟩ => ?_
  subst he
  exact ⟨_, rfl, _, _, _, [], _, [], hW', trodAll_mk1 (shut_bool Tryd.underlying4 _), (trodAll_cons_mk (Below.trod laidOut (by kernel_rfl) (of_decide_eq_true (by kernel_rfl)) k0 bel lt0) (trodAll_cons_mk (shut_string Tryd.underlying9 st) trodAll_mk0)), rfl, bel.frame _, fun h => by cases h⟩

theorem over : Rows.FnAppendFormUnsignedIgnoresSignatureSaid :=
  OpenClaim.holds_of_wide 4 Tryd.f4 rfl rfl rfl rfl rfl rfl rfl ⟨rfl, rfl, rfl, rfl, rfl⟩ rfl rfl rfl rfl rfl (by kernel_rfl) Tryd.func4 (by kernel_rfl)
    (of_decide_eq_true (by kernel_rfl)) (by unfold Func.isWrapper; first | (rw [if_pos (by decide +kernel)]; kernel_rfl) | (rw [if_neg (by decide +kernel)]; exact ⟨rfl, rfl⟩))
    (fun os started H enc _ => lifted os started H enc)

theorem card_holds : Rows.FnAppendFormUnsignedIgnoresSignatureCardSaid :=
  Claim7.holds_tied_plain_at .later [] [.data, .data, .data] true (true, "d747367433496cbe619515fc38769ce06e617cb099769b98819ec8826c661355") false
    over (fun _ h => by cases h) (by kernel_rfl) (fun _ h => by cases h) fnAppendFormUnsignedIgnoresSignature_row_tie rfl ⟨rfl, rfl⟩ (by kernel_rfl) rfl
    (fun f fn hf hfn => by
      obtain rfl : f = 4 := Option.some.inj ((show Tryd.prog.funcNamed Rows.fnAppendFormUnsignedIgnoresSignatureRow.func = some 4 by kernel_rfl).symm.trans hf) |>.symm
      obtain rfl : fn = Tryd.f4 := (Option.some.inj (Tryd.func4.symm.trans hfn)).symm
      exact ⟨by kernel_rfl, fun j t ht => by
        rw [Tryd.params4] at ht
        have hm : t ∈ [25, 9] := by simpa using Array.mem_of_getElem? ht
        have hall : ([25, 9].all fun u => !Tryd.prog.wantsStandIn u) = true := by kernel_rfl
        exact (show Tryd.prog.wantsStandIn t = false by simpa using List.all_eq_true.1 hall t hm)⟩)
    (by kernel_rfl)

end Go.Proofs.Qxb6600084aDoor
