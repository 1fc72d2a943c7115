/- The law FnPredictFlat returns true at every input: a block whose neighbours are all one value is foretold to be that value, by every mode of small blocks, of chroma and of luma, where the tables of the boolean reader hold what their initialisers lay. What stood in memory ahead of the call stands behind it. -/
import Derived.Test.YtleiehiabcgalaaDoorCards
import Derived.Test.YtleiehiabcgalaaDoorTie
import Derived.WalkKit
import Derived.ProofKit
import Derived.OpenShut
import Derived.ShutString
import Derived.ChangeOld
import Derived.Below
import Derived.Deep.DeepHandedRow
import Derived.Lib.LaidTab
import Derived.Deep.Grids
import Derived.LaidSub
import Derived.Test.YtleiehiabcgalaaDoorFlatLaw
namespace Go.Proofs.YtleiehiabcgalaaDoor.fnPredictFlat
open Go.ChangeShapes Go.WideShapes Go.ChangeAt Go.RowKit
set_option linter.unusedVariables false
set_option linter.unusedSimpArgs false
set_option maxHeartbeats 1000000

theorem own : ownKnob Tryd.prog.godebug = none := by kernel_rfl
theorem laidOut : laidOutB Tryd.prog = true := by kernel_rfl
theorem gTab0 : Tryd.prog.globalNamed "pub-weftwise/pub/image/vp8.lutShift" = some 0 := by kernel_rfl
theorem gTy0 : (Tryd.prog.globals[0]?).map (·.type) = some 102 := by kernel_rfl
theorem cT0 : Tryd.prog.cellsOf 102 = 127 := by kernel_rfl
theorem cE0 : Tryd.prog.cellsOf 5 = 1 := by kernel_rfl
theorem one0 : Rows.fnPredictFlatRow.laid.filter (fun x => x.1 == "pub-weftwise/pub/image/vp8.lutShift") = [("pub-weftwise/pub/image/vp8.lutShift", Lib.tabData .u8 [7, 6, 6, 5, 5, 5, 5, 4, 4, 4, 4, 4, 4, 4, 4, 3, 3, 3, 3, 3, 3, 3, 3, 3, 3, 3, 3, 3, 3, 3, 3, 2, 2, 2, 2, 2, 2, 2, 2, 2, 2, 2, 2, 2, 2, 2, 2, 2, 2, 2, 2, 2, 2, 2, 2, 2, 2, 2, 2, 2, 2, 2, 2, 1, 1, 1, 1, 1, 1, 1, 1, 1, 1, 1, 1, 1, 1, 1, 1, 1, 1, 1, 1, 1, 1, 1, 1, 1, 1, 1, 1, 1, 1, 1, 1, 1, 1, 1, 1, 1, 1, 1, 1, 1, 1, 1, 1, 1, 1, 1, 1, 1, 1, 1, 1, 1, 1, 1, 1, 1, 1, 1, 1, 1, 1, 1, 1])] := by kernel_rfl
/-- The table's cells, out of the row's list. -/
theorem tab0 {W : World} (h : laidMetH Tryd.prog Rows.fnPredictFlatRow.laid W) : Lib.TabIs Tryd.prog W "pub-weftwise/pub/image/vp8.lutShift" .u8 [7, 6, 6, 5, 5, 5, 5, 4, 4, 4, 4, 4, 4, 4, 4, 3, 3, 3, 3, 3, 3, 3, 3, 3, 3, 3, 3, 3, 3, 3, 3, 2, 2, 2, 2, 2, 2, 2, 2, 2, 2, 2, 2, 2, 2, 2, 2, 2, 2, 2, 2, 2, 2, 2, 2, 2, 2, 2, 2, 2, 2, 2, 2, 1, 1, 1, 1, 1, 1, 1, 1, 1, 1, 1, 1, 1, 1, 1, 1, 1, 1, 1, 1, 1, 1, 1, 1, 1, 1, 1, 1, 1, 1, 1, 1, 1, 1, 1, 1, 1, 1, 1, 1, 1, 1, 1, 1, 1, 1, 1, 1, 1, 1, 1, 1, 1, 1, 1, 1, 1, 1, 1, 1, 1, 1, 1, 1] := by
  have h1 := h.filter (fun x => x.1 == "pub-weftwise/pub/image/vp8.lutShift")
  rw [one0] at h1
  exact Lib.tabIs_of_head (rest := []) gTab0 gTy0 Tryd.underlying102 Tryd.underlying5 cE0 cT0 h1
theorem gTab1 : Tryd.prog.globalNamed "pub-weftwise/pub/image/vp8.lutRangeM1" = some 1 := by kernel_rfl
theorem gTy1 : (Tryd.prog.globals[1]?).map (·.type) = some 102 := by kernel_rfl
theorem cT1 : Tryd.prog.cellsOf 102 = 127 := by kernel_rfl
theorem cE1 : Tryd.prog.cellsOf 5 = 1 := by kernel_rfl
theorem one1 : Rows.fnPredictFlatRow.laid.filter (fun x => x.1 == "pub-weftwise/pub/image/vp8.lutRangeM1") = [("pub-weftwise/pub/image/vp8.lutRangeM1", Lib.tabData .u8 [127, 127, 191, 127, 159, 191, 223, 127, 143, 159, 175, 191, 207, 223, 239, 127, 135, 143, 151, 159, 167, 175, 183, 191, 199, 207, 215, 223, 231, 239, 247, 127, 131, 135, 139, 143, 147, 151, 155, 159, 163, 167, 171, 175, 179, 183, 187, 191, 195, 199, 203, 207, 211, 215, 219, 223, 227, 231, 235, 239, 243, 247, 251, 127, 129, 131, 133, 135, 137, 139, 141, 143, 145, 147, 149, 151, 153, 155, 157, 159, 161, 163, 165, 167, 169, 171, 173, 175, 177, 179, 181, 183, 185, 187, 189, 191, 193, 195, 197, 199, 201, 203, 205, 207, 209, 211, 213, 215, 217, 219, 221, 223, 225, 227, 229, 231, 233, 235, 237, 239, 241, 243, 245, 247, 249, 251, 253])] := by kernel_rfl
/-- The table's cells, out of the row's list. -/
theorem tab1 {W : World} (h : laidMetH Tryd.prog Rows.fnPredictFlatRow.laid W) : Lib.TabIs Tryd.prog W "pub-weftwise/pub/image/vp8.lutRangeM1" .u8 [127, 127, 191, 127, 159, 191, 223, 127, 143, 159, 175, 191, 207, 223, 239, 127, 135, 143, 151, 159, 167, 175, 183, 191, 199, 207, 215, 223, 231, 239, 247, 127, 131, 135, 139, 143, 147, 151, 155, 159, 163, 167, 171, 175, 179, 183, 187, 191, 195, 199, 203, 207, 211, 215, 219, 223, 227, 231, 235, 239, 243, 247, 251, 127, 129, 131, 133, 135, 137, 139, 141, 143, 145, 147, 149, 151, 153, 155, 157, 159, 161, 163, 165, 167, 169, 171, 173, 175, 177, 179, 181, 183, 185, 187, 189, 191, 193, 195, 197, 199, 201, 203, 205, 207, 209, 211, 213, 215, 217, 219, 221, 223, 225, 227, 229, 231, 233, 235, 237, 239, 241, 243, 245, 247, 249, 251, 253] := by
  have h1 := h.filter (fun x => x.1 == "pub-weftwise/pub/image/vp8.lutRangeM1")
  rw [one1] at h1
  exact Lib.tabIs_of_head (rest := []) gTab1 gTy1 Tryd.underlying102 Tryd.underlying5 cE1 cT1 h1

/-- The two tables of the boolean reader. -/
theorem luts {W : World} (h : laidMetH Tryd.prog Rows.fnPredictFlatRow.laid W) : Luts W := by
  refine ⟨fun k hk => ?_, fun k hk => ?_⟩
  · have e : ∀ k, k < 127 → (([7, 6, 6, 5, 5, 5, 5, 4, 4, 4, 4, 4, 4, 4, 4, 3, 3, 3, 3, 3, 3, 3, 3, 3, 3, 3, 3, 3, 3, 3, 3, 2, 2, 2, 2, 2, 2, 2, 2, 2, 2, 2, 2, 2, 2, 2, 2, 2, 2, 2, 2, 2, 2, 2, 2, 2, 2, 2, 2, 2, 2, 2, 2, 1, 1, 1, 1, 1, 1, 1, 1, 1, 1, 1, 1, 1, 1, 1, 1, 1, 1, 1, 1, 1, 1, 1, 1, 1, 1, 1, 1, 1, 1, 1, 1, 1, 1, 1, 1, 1, 1, 1, 1, 1, 1, 1, 1, 1, 1, 1, 1, 1, 1, 1, 1, 1, 1, 1, 1, 1, 1, 1, 1, 1, 1, 1, 1] : List Int).getD k 0 = ((nk (k + 1) : Nat) : Int)) := by decide +kernel
    have hc := (tab0 h).cell gTab0 k (Nat.lt_of_lt_of_eq hk (by decide +kernel))
    rw [e k hk] at hc
    exact hc
  · have e : ∀ k, k < 127 → (([127, 127, 191, 127, 159, 191, 223, 127, 143, 159, 175, 191, 207, 223, 239, 127, 135, 143, 151, 159, 167, 175, 183, 191, 199, 207, 215, 223, 231, 239, 247, 127, 131, 135, 139, 143, 147, 151, 155, 159, 163, 167, 171, 175, 179, 183, 187, 191, 195, 199, 203, 207, 211, 215, 219, 223, 227, 231, 235, 239, 243, 247, 251, 127, 129, 131, 133, 135, 137, 139, 141, 143, 145, 147, 149, 151, 153, 155, 157, 159, 161, 163, 165, 167, 169, 171, 173, 175, 177, 179, 181, 183, 185, 187, 189, 191, 193, 195, 197, 199, 201, 203, 205, 207, 209, 211, 213, 215, 217, 219, 221, 223, 225, 227, 229, 231, 233, 235, 237, 239, 241, 243, 245, 247, 249, 251, 253] : List Int).getD k 0 = (((k + 1) * 2 ^ nk (k + 1) - 1 : Nat) : Int)) := by decide +kernel
    have hc := (tab1 h).cell gTab1 k (Nat.lt_of_lt_of_eq hk (by decide +kernel))
    rw [e k hk] at hc
    exact hc
/-- What the walk is told of a slice of integers that came in. -/
def IsRow (k : IntKind) (w : World) (a : Option Addr) (len cap : Nat) (zs : List Int) : Prop :=
  (a = none ∧ len = 0 ∧ cap = 0 ∧ zs = []) ∨
  ∃ x, a = some x ∧ len ≤ cap ∧ cap ≤ maxLen ∧ zs.length = cap ∧ (∀ i, i < zs.length → w.cell? (x.add i) = some (.int k (zs.getD i 0))) ∧ ∀ n ∈ zs, (Lit.int k n).wf = true

set_option maxRecDepth 100000 in
/-- What the walk gives, for every argument and every world that holds the tables. -/
theorem contract (H : Type) (enc : TypeId × Value → H) (W : World) (base : Nat) (args : Array Value) (ds gs : List (DataW H)) (before : List MemPlace)
    (hval0 : ∀ (j : Nat) t v, Tryd.f4.params[j]? = some t → args[j]? = some v → Value.okWide Tryd.prog W .any base t v)
    (hW : DataW.Whole enc Tryd.prog Tryd.f4.params.toList Rows.fnPredictFlatSpec.vars false W args.toList ds gs before) (hL : laidMetH Tryd.prog Rows.fnPredictFlatRow.laid W) :
    Calls Tryd.prog 4 args W fun e W' => ∃ v, e = .returned v ∧ Rows.fnPredictFlatSpec.post enc Tryd.prog Tryd.f4 false true false false W args v W' := by
  have hval : ∀ (j : Nat) t v, Tryd.f4.params[j]? = some t → args[j]? = some v → Value.okWide Tryd.prog W .any base t v := hval0
  have hW' := hW
  obtain ⟨p, q, hA0, hV, rfl, hfz, hnd⟩ := hW
  have hA : DataW.TrodAll enc Tryd.prog W 0 (fun _ => true) true Tryd.f4.params.toList args.toList ds p := hA0
  rw [Tryd.params4] at hA hval
  obtain ⟨v0, vs0, d0, ds0, p0, q0, hargs, rfl, rfl, h0, r0⟩ := trodAll_cons hA
  obtain ⟨v1, vs1, d1, ds1, p1, q1, rfl, rfl, rfl, h1, r1⟩ := trodAll_cons r0
  obtain ⟨rfl, rfl, rfl⟩ := trodAll_nil r1
  obtain rfl : args = #[v0, v1] := by cases args; simp_all
  obtain ⟨rfl, rfl⟩ := trodVars_none hV
  obtain ⟨a0, rfl, rfl, rfl, w0⟩ := open_int Tryd.underlying3 (hval 0 3 v0 rfl rfl) h0
  obtain ⟨a1, rfl, rfl, rfl, w1⟩ := open_int Tryd.underlying5 (hval 1 5 v1 rfl rfl) h1
  clear hA0 hval0
  have walk : Calls Tryd.prog 4 #[.int .i64 a0, .int .u8 a1] W fun e w' => e = .returned (.bool true) ∧ Below W.heap.size W w' := by
    have b0 := w0
    have b1 := w1
    simp [Lit.wf, IntKind.min, IntKind.max, IntKind.bits, IntKind.signed] at b0 b1
    exact flatLaw_any a0 a1 W (luts hL) (by omega) (by omega) (by omega) (by omega)
  refine walk.mono fun e W' ⟨he, bel⟩ => ?_
  subst he
  exact ⟨_, rfl, _, _, _, [], _, [], hW', trodAll_mk1 (shut_bool Tryd.underlying4 _), (trodAll_cons_mk (shut_int Tryd.underlying3 w0) (trodAll_cons_mk (shut_int Tryd.underlying5 w1) trodAll_mk0)), rfl, bel.frame _, fun h => by cases h⟩

/-- A world for the witness: the settled one, the tables holding what their initialisers lay. -/
noncomputable def laidWorld (os : Os) : World :=
  { World.holding Tryd.prog os ⟨#[], #[], []⟩ with heap := (((World.holding Tryd.prog os ⟨#[], #[], []⟩).heap.modify 0 fun | .cells _ t frozen => .cells #[.int .u8 7, .int .u8 6, .int .u8 6, .int .u8 5, .int .u8 5, .int .u8 5, .int .u8 5, .int .u8 4, .int .u8 4, .int .u8 4, .int .u8 4, .int .u8 4, .int .u8 4, .int .u8 4, .int .u8 4, .int .u8 3, .int .u8 3, .int .u8 3, .int .u8 3, .int .u8 3, .int .u8 3, .int .u8 3, .int .u8 3, .int .u8 3, .int .u8 3, .int .u8 3, .int .u8 3, .int .u8 3, .int .u8 3, .int .u8 3, .int .u8 3, .int .u8 2, .int .u8 2, .int .u8 2, .int .u8 2, .int .u8 2, .int .u8 2, .int .u8 2, .int .u8 2, .int .u8 2, .int .u8 2, .int .u8 2, .int .u8 2, .int .u8 2, .int .u8 2, .int .u8 2, .int .u8 2, .int .u8 2, .int .u8 2, .int .u8 2, .int .u8 2, .int .u8 2, .int .u8 2, .int .u8 2, .int .u8 2, .int .u8 2, .int .u8 2, .int .u8 2, .int .u8 2, .int .u8 2, .int .u8 2, .int .u8 2, .int .u8 2, .int .u8 1, .int .u8 1, .int .u8 1, .int .u8 1, .int .u8 1, .int .u8 1, .int .u8 1, .int .u8 1, .int .u8 1, .int .u8 1, .int .u8 1, .int .u8 1, .int .u8 1, .int .u8 1, .int .u8 1, .int .u8 1, .int .u8 1, .int .u8 1, .int .u8 1, .int .u8 1, .int .u8 1, .int .u8 1, .int .u8 1, .int .u8 1, .int .u8 1, .int .u8 1, .int .u8 1, .int .u8 1, .int .u8 1, .int .u8 1, .int .u8 1, .int .u8 1, .int .u8 1, .int .u8 1, .int .u8 1, .int .u8 1, .int .u8 1, .int .u8 1, .int .u8 1, .int .u8 1, .int .u8 1, .int .u8 1, .int .u8 1, .int .u8 1, .int .u8 1, .int .u8 1, .int .u8 1, .int .u8 1, .int .u8 1, .int .u8 1, .int .u8 1, .int .u8 1, .int .u8 1, .int .u8 1, .int .u8 1, .int .u8 1, .int .u8 1, .int .u8 1, .int .u8 1, .int .u8 1, .int .u8 1, .int .u8 1, .int .u8 1, .int .u8 1] t frozen | o => o).modify 1 fun | .cells _ t frozen => .cells #[.int .u8 127, .int .u8 127, .int .u8 191, .int .u8 127, .int .u8 159, .int .u8 191, .int .u8 223, .int .u8 127, .int .u8 143, .int .u8 159, .int .u8 175, .int .u8 191, .int .u8 207, .int .u8 223, .int .u8 239, .int .u8 127, .int .u8 135, .int .u8 143, .int .u8 151, .int .u8 159, .int .u8 167, .int .u8 175, .int .u8 183, .int .u8 191, .int .u8 199, .int .u8 207, .int .u8 215, .int .u8 223, .int .u8 231, .int .u8 239, .int .u8 247, .int .u8 127, .int .u8 131, .int .u8 135, .int .u8 139, .int .u8 143, .int .u8 147, .int .u8 151, .int .u8 155, .int .u8 159, .int .u8 163, .int .u8 167, .int .u8 171, .int .u8 175, .int .u8 179, .int .u8 183, .int .u8 187, .int .u8 191, .int .u8 195, .int .u8 199, .int .u8 203, .int .u8 207, .int .u8 211, .int .u8 215, .int .u8 219, .int .u8 223, .int .u8 227, .int .u8 231, .int .u8 235, .int .u8 239, .int .u8 243, .int .u8 247, .int .u8 251, .int .u8 127, .int .u8 129, .int .u8 131, .int .u8 133, .int .u8 135, .int .u8 137, .int .u8 139, .int .u8 141, .int .u8 143, .int .u8 145, .int .u8 147, .int .u8 149, .int .u8 151, .int .u8 153, .int .u8 155, .int .u8 157, .int .u8 159, .int .u8 161, .int .u8 163, .int .u8 165, .int .u8 167, .int .u8 169, .int .u8 171, .int .u8 173, .int .u8 175, .int .u8 177, .int .u8 179, .int .u8 181, .int .u8 183, .int .u8 185, .int .u8 187, .int .u8 189, .int .u8 191, .int .u8 193, .int .u8 195, .int .u8 197, .int .u8 199, .int .u8 201, .int .u8 203, .int .u8 205, .int .u8 207, .int .u8 209, .int .u8 211, .int .u8 213, .int .u8 215, .int .u8 217, .int .u8 219, .int .u8 221, .int .u8 223, .int .u8 225, .int .u8 227, .int .u8 229, .int .u8 231, .int .u8 233, .int .u8 235, .int .u8 237, .int .u8 239, .int .u8 241, .int .u8 243, .int .u8 245, .int .u8 247, .int .u8 249, .int .u8 251, .int .u8 253] t frozen | o => o) }
theorem laid_met (os : Os) : laidMet Tryd.prog Rows.fnPredictFlatRow.laid ((laidWorld os).forCall (fun _ _ => 0) ⟨#[], #[.int .i64 0, .int .u8 0], []⟩).memory :=
  laidMet_of_run' 8 (by kernel_rfl) (by kernel_rfl)
theorem reads (os : Os) {H : Type} (enc : TypeId × Value → H) : ∃ places, DataW.whole enc Tryd.prog ((laidWorld os).forCall (fun _ _ => 0) ⟨#[], #[.int .i64 0, .int .u8 0], []⟩).memory Tryd.f4.params.toList Rows.fnPredictFlatSpec.vars false (#[.int .i64 0, .int .u8 0] : Array Value).toList 8 = some ([.lit (.int .i64 0), .lit (.int .u8 0)], [], places) :=
  ⟨[], by kernel_rfl⟩
set_option maxRecDepth 100000 in
theorem lifted (os : Os) (started : os.Started) (H : Type) (enc : TypeId × Value → H) (F : Stop.Interp) :
    ReturnsInHanded {} Tryd.checked os 4 .any ((OpenSpec.ofChange Rows.fnPredictFlatSpec).preRow enc Tryd.prog Tryd.f4 Rows.fnPredictFlatRow.domain false Rows.fnPredictFlatRow.laid) (((OpenSpec.ofChange Rows.fnPredictFlatSpec).at F).post enc Tryd.prog Tryd.f4 false true false false) := by
  obtain ⟨places, hx⟩ := reads os enc
  refine returnsInHanded_of_row (C := Tryd.checked) (s := OpenSpec.ofChange Rows.fnPredictFlatSpec) own started (by kernel_rfl) Tryd.func4
    (witness_row_at (enc := enc) (C := Tryd.checked) false (laidWorld os) #[.int .i64 0, .int .u8 0] rfl (by kernel_rfl) (by kernel_rfl) (by kernel_rfl)
      (OpenSpec.preRow_of_cond 8 hx (by kernel_rfl) (fun k hk => by cases hk) (by kernel_rfl) (laid_met os))) ?_
  intro W base args ds gs before hval hW _ _ _ hL _ _
  exact contract H enc W base args ds gs before hval hW hL
theorem said : Rows.FnPredictFlatSaid :=
  OpenClaim.holds_of_cond 4 Tryd.f4 rfl rfl rfl rfl rfl rfl rfl ⟨rfl, rfl, rfl, rfl, rfl⟩ rfl rfl rfl rfl rfl (by kernel_rfl) Tryd.func4 (by kernel_rfl)
    (of_decide_eq_true (by kernel_rfl)) (by unfold Func.isWrapper; first | (rw [if_pos (by decide +kernel)]; kernel_rfl) | (rw [if_neg (by decide +kernel)]; exact ⟨rfl, rfl⟩))
    (fun os started H enc _ F => by rw [OpenClaim.pre_eq_preRow]; exact lifted os started H enc F)
/-- No parameter wants a stand-in; the program's own looks are the card's. -/
theorem plain (f : FuncId) (fn : Func) (hf : Tryd.pinned.checked.prog.funcNamed "pub-weftwise/laws.FnPredictFlat" = some f) (hfn : Tryd.pinned.checked.prog.funcs[f]? = some fn) :
    false = Tryd.pinned.checked.prog.looks [] ∧ ∀ (j : Nat) t, fn.params[j]? = some t → Tryd.pinned.checked.prog.wantsStandIn t = false := by
  obtain rfl : f = 4 := Option.some.inj ((show Tryd.prog.funcNamed "pub-weftwise/laws.FnPredictFlat" = some 4 by kernel_rfl).symm.trans hf) |>.symm
  obtain rfl : fn = Tryd.f4 := (Option.some.inj (Tryd.func4.symm.trans hfn)).symm
  refine ⟨by kernel_rfl, fun j t ht => ?_⟩
  rw [Tryd.params4] at ht
  have hm : t ∈ #[3, 5] := Array.mem_of_getElem? ht
  have hc : t = 3 ∨ t = 5 := by simpa using hm
  rcases hc with rfl | rfl
  · exact (show Tryd.prog.wantsStandIn 3 = false by kernel_rfl)
  · exact (show Tryd.prog.wantsStandIn 5 = false by kernel_rfl)
/-- The card. -/
theorem proved : Rows.FnPredictFlatCardSaid :=
  Claim7.holds_tied_plain_at .later [] _ _ _ _ said (fun _ h => by cases h) (by kernel_rfl) (fun _ h => by cases h) fnPredictFlat_row_tie rfl ⟨rfl, rfl⟩ (by kernel_rfl) rfl plain (by kernel_rfl)
#print axioms proved
end Go.Proofs.YtleiehiabcgalaaDoor.fnPredictFlat
