/- The law FnPredict8 returns true at every input: what a block of chroma is foretold to be is what the reference says, for all modes, corners, eight values above and eight at the left, where the tables of the boolean reader hold what their initialisers lay. What stood in memory ahead of the call stands behind it. -/
import Derived.Test.YtleiehiabcgalaaDoorCards
import Derived.Test.YtleiehiabcgalaaDoorTie
import Derived.WalkKit
import Derived.ProofKit
import Derived.OpenShut
import Derived.ShutString
import Derived.ChangeOld
import Derived.Below
import Derived.Deep.DeepHandedRow
import Derived.Lib.LaidTab
import Derived.Deep.Grids
import Derived.LaidSub
import Derived.Test.YtleiehiabcgalaaDoorPredLaw8
namespace Go.Proofs.YtleiehiabcgalaaDoor.fnPredict8
open Go.ChangeShapes Go.WideShapes Go.ChangeAt Go.RowKit
set_option linter.unusedVariables false
set_option linter.unusedSimpArgs false
set_option maxHeartbeats 1000000

theorem own : ownKnob Tryd.prog.godebug = none := by kernel_rfl
theorem laidOut : laidOutB Tryd.prog = true := by kernel_rfl
theorem gTab0 : Tryd.prog.globalNamed "pub-weftwise/pub/image/vp8.lutShift" = some 0 := by kernel_rfl
theorem gTy0 : (Tryd.prog.globals[0]?).map (·.type) = some 102 := by kernel_rfl
theorem cT0 : Tryd.prog.cellsOf 102 = 127 := by kernel_rfl
theorem cE0 : Tryd.prog.cellsOf 5 = 1 := by kernel_rfl
theorem one0 : Rows.fnPredict8Row.laid.filter (fun x => x.1 == "pub-weftwise/pub/image/vp8.lutShift") = [("pub-weftwise/pub/image/vp8.lutShift", Lib.tabData .u8 [7, 6, 6, 5, 5, 5, 5, 4, 4, 4, 4, 4, 4, 4, 4, 3, 3, 3, 3, 3, 3, 3, 3, 3, 3, 3, 3, 3, 3, 3, 3, 2, 2, 2, 2, 2, 2, 2, 2, 2, 2, 2, 2, 2, 2, 2, 2, 2, 2, 2, 2, 2, 2, 2, 2, 2, 2, 2, 2, 2, 2, 2, 2, 1, 1, 1, 1, 1, 1, 1, 1, 1, 1, 1, 1, 1, 1, 1, 1, 1, 1, 1, 1, 1, 1, 1, 1, 1, 1, 1, 1, 1, 1, 1, 1, 1, 1, 1, 1, 1, 1, 1, 1, 1, 1, 1, 1, 1, 1, 1, 1, 1, 1, 1, 1, 1, 1, 1, 1, 1, 1, 1, 1, 1, 1, 1, 1])] := by kernel_rfl
/-- The table's cells, out of the row's list. -/
theorem tab0 {W : World} (h : laidMetH Tryd.prog Rows.fnPredict8Row.laid W) : Lib.TabIs Tryd.prog W "pub-weftwise/pub/image/vp8.lutShift" .u8 [7, 6, 6, 5, 5, 5, 5, 4, 4, 4, 4, 4, 4, 4, 4, 3, 3, 3, 3, 3, 3, 3, 3, 3, 3, 3, 3, 3, 3, 3, 3, 2, 2, 2, 2, 2, 2, 2, 2, 2, 2, 2, 2, 2, 2, 2, 2, 2, 2, 2, 2, 2, 2, 2, 2, 2, 2, 2, 2, 2, 2, 2, 2, 1, 1, 1, 1, 1, 1, 1, 1, 1, 1, 1, 1, 1, 1, 1, 1, 1, 1, 1, 1, 1, 1, 1, 1, 1, 1, 1, 1, 1, 1, 1, 1, 1, 1, 1, 1, 1, 1, 1, 1, 1, 1, 1, 1, 1, 1, 1, 1, 1, 1, 1, 1, 1, 1, 1, 1, 1, 1, 1, 1, 1, 1, 1, 1] := by
  have h1 := h.filter (fun x => x.1 == "pub-weftwise/pub/image/vp8.lutShift")
  rw [one0] at h1
  exact Lib.tabIs_of_head (rest := []) gTab0 gTy0 Tryd.underlying102 Tryd.underlying5 cE0 cT0 h1
theorem gTab1 : Tryd.prog.globalNamed "pub-weftwise/pub/image/vp8.lutRangeM1" = some 1 := by kernel_rfl
theorem gTy1 : (Tryd.prog.globals[1]?).map (·.type) = some 102 := by kernel_rfl
theorem cT1 : Tryd.prog.cellsOf 102 = 127 := by kernel_rfl
theorem cE1 : Tryd.prog.cellsOf 5 = 1 := by kernel_rfl
theorem one1 : Rows.fnPredict8Row.laid.filter (fun x => x.1 == "pub-weftwise/pub/image/vp8.lutRangeM1") = [("pub-weftwise/pub/image/vp8.lutRangeM1", Lib.tabData .u8 [127, 127, 191, 127, 159, 191, 223, 127, 143, 159, 175, 191, 207, 223, 239, 127, 135, 143, 151, 159, 167, 175, 183, 191, 199, 207, 215, 223, 231, 239, 247, 127, 131, 135, 139, 143, 147, 151, 155, 159, 163, 167, 171, 175, 179, 183, 187, 191, 195, 199, 203, 207, 211, 215, 219, 223, 227, 231, 235, 239, 243, 247, 251, 127, 129, 131, 133, 135, 137, 139, 141, 143, 145, 147, 149, 151, 153, 155, 157, 159, 161, 163, 165, 167, 169, 171, 173, 175, 177, 179, 181, 183, 185, 187, 189, 191, 193, 195, 197, 199, 201, 203, 205, 207, 209, 211, 213, 215, 217, 219, 221, 223, 225, 227, 229, 231, 233, 235, 237, 239, 241, 243, 245, 247, 249, 251, 253])] := by kernel_rfl
/-- The table's cells, out of the row's list. -/
theorem tab1 {W : World} (h : laidMetH Tryd.prog Rows.fnPredict8Row.laid W) : Lib.TabIs Tryd.prog W "pub-weftwise/pub/image/vp8.lutRangeM1" .u8 [127, 127, 191, 127, 159, 191, 223, 127, 143, 159, 175, 191, 207, 223, 239, 127, 135, 143, 151, 159, 167, 175, 183, 191, 199, 207, 215, 223, 231, 239, 247, 127, 131, 135, 139, 143, 147, 151, 155, 159, 163, 167, 171, 175, 179, 183, 187, 191, 195, 199, 203, 207, 211, 215, 219, 223, 227, 231, 235, 239, 243, 247, 251, 127, 129, 131, 133, 135, 137, 139, 141, 143, 145, 147, 149, 151, 153, 155, 157, 159, 161, 163, 165, 167, 169, 171, 173, 175, 177, 179, 181, 183, 185, 187, 189, 191, 193, 195, 197, 199, 201, 203, 205, 207, 209, 211, 213, 215, 217, 219, 221, 223, 225, 227, 229, 231, 233, 235, 237, 239, 241, 243, 245, 247, 249, 251, 253] := by
  have h1 := h.filter (fun x => x.1 == "pub-weftwise/pub/image/vp8.lutRangeM1")
  rw [one1] at h1
  exact Lib.tabIs_of_head (rest := []) gTab1 gTy1 Tryd.underlying102 Tryd.underlying5 cE1 cT1 h1

/-- The two tables of the boolean reader. -/
theorem luts {W : World} (h : laidMetH Tryd.prog Rows.fnPredict8Row.laid W) : Luts W := by
  refine ⟨fun k hk => ?_, fun k hk => ?_⟩
  · have e : ∀ k, k < 127 → (([7, 6, 6, 5, 5, 5, 5, 4, 4, 4, 4, 4, 4, 4, 4, 3, 3, 3, 3, 3, 3, 3, 3, 3, 3, 3, 3, 3, 3, 3, 3, 2, 2, 2, 2, 2, 2, 2, 2, 2, 2, 2, 2, 2, 2, 2, 2, 2, 2, 2, 2, 2, 2, 2, 2, 2, 2, 2, 2, 2, 2, 2, 2, 1, 1, 1, 1, 1, 1, 1, 1, 1, 1, 1, 1, 1, 1, 1, 1, 1, 1, 1, 1, 1, 1, 1, 1, 1, 1, 1, 1, 1, 1, 1, 1, 1, 1, 1, 1, 1, 1, 1, 1, 1, 1, 1, 1, 1, 1, 1, 1, 1, 1, 1, 1, 1, 1, 1, 1, 1, 1, 1, 1, 1, 1, 1, 1] : List Int).getD k 0 = ((nk (k + 1) : Nat) : Int)) := by decide +kernel
    have hc := (tab0 h).cell gTab0 k (Nat.lt_of_lt_of_eq hk (by decide +kernel))
    rw [e k hk] at hc
    exact hc
  · have e : ∀ k, k < 127 → (([127, 127, 191, 127, 159, 191, 223, 127, 143, 159, 175, 191, 207, 223, 239, 127, 135, 143, 151, 159, 167, 175, 183, 191, 199, 207, 215, 223, 231, 239, 247, 127, 131, 135, 139, 143, 147, 151, 155, 159, 163, 167, 171, 175, 179, 183, 187, 191, 195, 199, 203, 207, 211, 215, 219, 223, 227, 231, 235, 239, 243, 247, 251, 127, 129, 131, 133, 135, 137, 139, 141, 143, 145, 147, 149, 151, 153, 155, 157, 159, 161, 163, 165, 167, 169, 171, 173, 175, 177, 179, 181, 183, 185, 187, 189, 191, 193, 195, 197, 199, 201, 203, 205, 207, 209, 211, 213, 215, 217, 219, 221, 223, 225, 227, 229, 231, 233, 235, 237, 239, 241, 243, 245, 247, 249, 251, 253] : List Int).getD k 0 = (((k + 1) * 2 ^ nk (k + 1) - 1 : Nat) : Int)) := by decide +kernel
    have hc := (tab1 h).cell gTab1 k (Nat.lt_of_lt_of_eq hk (by decide +kernel))
    rw [e k hk] at hc
    exact hc
/-- What the walk is told of a slice of integers that came in. -/
def IsRow (k : IntKind) (w : World) (a : Option Addr) (len cap : Nat) (zs : List Int) : Prop :=
  (a = none ∧ len = 0 ∧ cap = 0 ∧ zs = []) ∨
  ∃ x, a = some x ∧ len ≤ cap ∧ cap ≤ maxLen ∧ zs.length = cap ∧ (∀ i, i < zs.length → w.cell? (x.add i) = some (.int k (zs.getD i 0))) ∧ ∀ n ∈ zs, (Lit.int k n).wf = true

set_option maxRecDepth 100000 in
/-- What the walk gives, for every argument and every world that holds the tables. -/
theorem contract (H : Type) (enc : TypeId × Value → H) (W : World) (base : Nat) (args : Array Value) (ds gs : List (DataW H)) (before : List MemPlace)
    (hval0 : ∀ (j : Nat) t v, Tryd.f3.params[j]? = some t → args[j]? = some v → Value.okWide Tryd.prog W .any base t v)
    (hW : DataW.Whole enc Tryd.prog Tryd.f3.params.toList Rows.fnPredict8Spec.vars false W args.toList ds gs before) (hL : laidMetH Tryd.prog Rows.fnPredict8Row.laid W) :
    Calls Tryd.prog 3 args W fun e W' => ∃ v, e = .returned v ∧ Rows.fnPredict8Spec.post enc Tryd.prog Tryd.f3 false true false false W args v W' := by
  have hval : ∀ (j : Nat) t v, Tryd.f3.params[j]? = some t → args[j]? = some v → Value.okWide Tryd.prog W .any base t v := hval0
  have hW' := hW
  obtain ⟨p, q, hA0, hV, rfl, hfz, hnd⟩ := hW
  have hA : DataW.TrodAll enc Tryd.prog W 0 (fun _ => true) true Tryd.f3.params.toList args.toList ds p := hA0
  rw [Tryd.params3] at hA hval
  obtain ⟨v0, vs0, d0, ds0, p0, q0, hargs, rfl, rfl, h0, r0⟩ := trodAll_cons hA
  obtain ⟨v1, vs1, d1, ds1, p1, q1, rfl, rfl, rfl, h1, r1⟩ := trodAll_cons r0
  obtain ⟨v2, vs2, d2, ds2, p2, q2, rfl, rfl, rfl, h2, r2⟩ := trodAll_cons r1
  obtain ⟨v3, vs3, d3, ds3, p3, q3, rfl, rfl, rfl, h3, r3⟩ := trodAll_cons r2
  obtain ⟨rfl, rfl, rfl⟩ := trodAll_nil r3
  obtain rfl : args = #[v0, v1, v2, v3] := by cases args; simp_all
  obtain ⟨rfl, rfl⟩ := trodVars_none hV
  obtain ⟨a0, rfl, rfl, rfl, w0⟩ := open_int Tryd.underlying3 (hval 0 3 v0 rfl rfl) h0
  obtain ⟨a1, rfl, rfl, rfl, w1⟩ := open_int Tryd.underlying3 (hval 1 3 v1 rfl rfl) h1
  obtain ⟨A2, len2, c2, rfl⟩ := okWide_slice Tryd.underlying22 (hval 2 22 v2 rfl rfl)
  have k2 := h2
  have lt2 : ∀ x ∈ p2, x.block < W.heap.size := by obtain ⟨m, hm⟩ := k2; exact DataW.trod_lt m _ _ _ hm
  obtain ⟨z2, y2⟩ : ∃ zs, IsRow .u8 W A2 len2 c2 zs := by
    obtain ⟨fuel, hf⟩ := h2
    rcases open_ints Tryd.underlying22 Tryd.underlying5 (by kernel_rfl) hf with ⟨hcs, _⟩ | ⟨x, l, c, zs, hcs, _, hl, hm, hz, _, hcell, hwz⟩
    · simp [Value.cells] at hcs
      obtain ⟨rfl, rfl, rfl⟩ := hcs
      exact ⟨[], .inl ⟨rfl, rfl, rfl, rfl⟩⟩
    · simp [Value.cells] at hcs
      obtain ⟨rfl, rfl, rfl⟩ := hcs
      exact ⟨zs, .inr ⟨_, rfl, hl, hm, by simpa using hz, hcell, hwz⟩⟩
  obtain ⟨l2, hl2, hr2, hw2, hm2⟩ := row_rd y2
  subst hl2
  obtain ⟨A3, len3, c3, rfl⟩ := okWide_slice Tryd.underlying22 (hval 3 22 v3 rfl rfl)
  have k3 := h3
  have lt3 : ∀ x ∈ p3, x.block < W.heap.size := by obtain ⟨m, hm⟩ := k3; exact DataW.trod_lt m _ _ _ hm
  obtain ⟨z3, y3⟩ : ∃ zs, IsRow .u8 W A3 len3 c3 zs := by
    obtain ⟨fuel, hf⟩ := h3
    rcases open_ints Tryd.underlying22 Tryd.underlying5 (by kernel_rfl) hf with ⟨hcs, _⟩ | ⟨x, l, c, zs, hcs, _, hl, hm, hz, _, hcell, hwz⟩
    · simp [Value.cells] at hcs
      obtain ⟨rfl, rfl, rfl⟩ := hcs
      exact ⟨[], .inl ⟨rfl, rfl, rfl, rfl⟩⟩
    · simp [Value.cells] at hcs
      obtain ⟨rfl, rfl, rfl⟩ := hcs
      exact ⟨zs, .inr ⟨_, rfl, hl, hm, by simpa using hz, hcell, hwz⟩⟩
  obtain ⟨l3, hl3, hr3, hw3, hm3⟩ := row_rd y3
  subst hl3
  clear hA0 hval0
  have walk : Calls Tryd.prog 3 #[.int .i64 a0, .int .i64 a1, .slice A2 l2.length c2, .slice A3 l3.length c3] W fun e w' => e = .returned (.bool true) ∧ Below W.heap.size W w' := by
    exact pred8Law_any a0 a1 l2 l3 A2 A3 c2 c3 W (luts hL) hw2 hw3 hm2 hm3 hr2 hr3
  refine walk.mono fun e W' ⟨he, bel⟩ => ?_
  subst he
  exact ⟨_, rfl, _, _, _, [], _, [], hW', trodAll_mk1 (shut_bool Tryd.underlying4 _), (trodAll_cons_mk (shut_int Tryd.underlying3 w0) (trodAll_cons_mk (shut_int Tryd.underlying3 w1) (trodAll_cons_mk (Below.trod laidOut (by kernel_rfl) (of_decide_eq_true (by kernel_rfl)) k2 bel lt2) (trodAll_cons_mk (Below.trod laidOut (by kernel_rfl) (of_decide_eq_true (by kernel_rfl)) k3 bel lt3) trodAll_mk0)))), rfl, bel.frame _, fun h => by cases h⟩

/-- A world for the witness: the settled one, the tables holding what their initialisers lay. -/
noncomputable def laidWorld (os : Os) : World :=
  { World.holding Tryd.prog os ⟨#[], #[], []⟩ with heap := (((World.holding Tryd.prog os ⟨#[], #[], []⟩).heap.modify 0 fun | .cells _ t frozen => .cells #[.int .u8 7, .int .u8 6, .int .u8 6, .int .u8 5, .int .u8 5, .int .u8 5, .int .u8 5, .int .u8 4, .int .u8 4, .int .u8 4, .int .u8 4, .int .u8 4, .int .u8 4, .int .u8 4, .int .u8 4, .int .u8 3, .int .u8 3, .int .u8 3, .int .u8 3, .int .u8 3, .int .u8 3, .int .u8 3, .int .u8 3, .int .u8 3, .int .u8 3, .int .u8 3, .int .u8 3, .int .u8 3, .int .u8 3, .int .u8 3, .int .u8 3, .int .u8 2, .int .u8 2, .int .u8 2, .int .u8 2, .int .u8 2, .int .u8 2, .int .u8 2, .int .u8 2, .int .u8 2, .int .u8 2, .int .u8 2, .int .u8 2, .int .u8 2, .int .u8 2, .int .u8 2, .int .u8 2, .int .u8 2, .int .u8 2, .int .u8 2, .int .u8 2, .int .u8 2, .int .u8 2, .int .u8 2, .int .u8 2, .int .u8 2, .int .u8 2, .int .u8 2, .int .u8 2, .int .u8 2, .int .u8 2, .int .u8 2, .int .u8 2, .int .u8 1, .int .u8 1, .int .u8 1, .int .u8 1, .int .u8 1, .int .u8 1, .int .u8 1, .int .u8 1, .int .u8 1, .int .u8 1, .int .u8 1, .int .u8 1, .int .u8 1, .int .u8 1, .int .u8 1, .int .u8 1, .int .u8 1, .int .u8 1, .int .u8 1, .int .u8 1, .int .u8 1, .int .u8 1, .int .u8 1, .int .u8 1, .int .u8 1, .int .u8 1, .int .u8 1, .int .u8 1, .int .u8 1, .int .u8 1, .int .u8 1, .int .u8 1, .int .u8 1, .int .u8 1, .int .u8 1, .int .u8 1, .int .u8 1, .int .u8 1, .int .u8 1, .int .u8 1, .int .u8 1, .int .u8 1, .int .u8 1, .int .u8 1, .int .u8 1, .int .u8 1, .int .u8 1, .int .u8 1, .int .u8 1, .int .u8 1, .int .u8 1, .int .u8 1, .int .u8 1, .int .u8 1, .int .u8 1, .int .u8 1, .int .u8 1, .int .u8 1, .int .u8 1, .int .u8 1, .int .u8 1, .int .u8 1, .int .u8 1, .int .u8 1] t frozen | o => o).modify 1 fun | .cells _ t frozen => .cells #[.int .u8 127, .int .u8 127, .int .u8 191, .int .u8 127, .int .u8 159, .int .u8 191, .int .u8 223, .int .u8 127, .int .u8 143, .int .u8 159, .int .u8 175, .int .u8 191, .int .u8 207, .int .u8 223, .int .u8 239, .int .u8 127, .int .u8 135, .int .u8 143, .int .u8 151, .int .u8 159, .int .u8 167, .int .u8 175, .int .u8 183, .int .u8 191, .int .u8 199, .int .u8 207, .int .u8 215, .int .u8 223, .int .u8 231, .int .u8 239, .int .u8 247, .int .u8 127, .int .u8 131, .int .u8 135, .int .u8 139, .int .u8 143, .int .u8 147, .int .u8 151, .int .u8 155, .int .u8 159, .int .u8 163, .int .u8 167, .int .u8 171, .int .u8 175, .int .u8 179, .int .u8 183, .int .u8 187, .int .u8 191, .int .u8 195, .int .u8 199, .int .u8 203, .int .u8 207, .int .u8 211, .int .u8 215, .int .u8 219, .int .u8 223, .int .u8 227, .int .u8 231, .int .u8 235, .int .u8 239, .int .u8 243, .int .u8 247, .int .u8 251, .int .u8 127, .int .u8 129, .int .u8 131, .int .u8 133, .int .u8 135, .int .u8 137, .int .u8 139, .int .u8 141, .int .u8 143, .int .u8 145, .int .u8 147, .int .u8 149, .int .u8 151, .int .u8 153, .int .u8 155, .int .u8 157, .int .u8 159, .int .u8 161, .int .u8 163, .int .u8 165, .int .u8 167, .int .u8 169, .int .u8 171, .int .u8 173, .int .u8 175, .int .u8 177, .int .u8 179, .int .u8 181, .int .u8 183, .int .u8 185, .int .u8 187, .int .u8 189, .int .u8 191, .int .u8 193, .int .u8 195, .int .u8 197, .int .u8 199, .int .u8 201, .int .u8 203, .int .u8 205, .int .u8 207, .int .u8 209, .int .u8 211, .int .u8 213, .int .u8 215, .int .u8 217, .int .u8 219, .int .u8 221, .int .u8 223, .int .u8 225, .int .u8 227, .int .u8 229, .int .u8 231, .int .u8 233, .int .u8 235, .int .u8 237, .int .u8 239, .int .u8 241, .int .u8 243, .int .u8 245, .int .u8 247, .int .u8 249, .int .u8 251, .int .u8 253] t frozen | o => o) }
theorem laid_met (os : Os) : laidMet Tryd.prog Rows.fnPredict8Row.laid ((laidWorld os).forCall (fun _ _ => 0) ⟨#[], #[.int .i64 0, .int .i64 0, .slice none 0 0, .slice none 0 0], []⟩).memory :=
  laidMet_of_run' 8 (by kernel_rfl) (by kernel_rfl)
theorem reads (os : Os) {H : Type} (enc : TypeId × Value → H) : ∃ places, DataW.whole enc Tryd.prog ((laidWorld os).forCall (fun _ _ => 0) ⟨#[], #[.int .i64 0, .int .i64 0, .slice none 0 0, .slice none 0 0], []⟩).memory Tryd.f3.params.toList Rows.fnPredict8Spec.vars false (#[.int .i64 0, .int .i64 0, .slice none 0 0, .slice none 0 0] : Array Value).toList 8 = some ([.lit (.int .i64 0), .lit (.int .i64 0), .nil, .nil], [], places) :=
  ⟨[], by kernel_rfl⟩
set_option maxRecDepth 100000 in
theorem lifted (os : Os) (started : os.Started) (H : Type) (enc : TypeId × Value → H) (F : Stop.Interp) :
    ReturnsInHanded {} Tryd.checked os 3 .any ((OpenSpec.ofChange Rows.fnPredict8Spec).preRow enc Tryd.prog Tryd.f3 Rows.fnPredict8Row.domain false Rows.fnPredict8Row.laid) (((OpenSpec.ofChange Rows.fnPredict8Spec).at F).post enc Tryd.prog Tryd.f3 false true false false) := by
  obtain ⟨places, hx⟩ := reads os enc
  refine returnsInHanded_of_row (C := Tryd.checked) (s := OpenSpec.ofChange Rows.fnPredict8Spec) own started (by kernel_rfl) Tryd.func3
    (witness_row_at (enc := enc) (C := Tryd.checked) false (laidWorld os) #[.int .i64 0, .int .i64 0, .slice none 0 0, .slice none 0 0] rfl (by kernel_rfl) (by kernel_rfl) (by kernel_rfl)
      (OpenSpec.preRow_of_cond 8 hx (by kernel_rfl) (fun k hk => by cases hk) (by kernel_rfl) (laid_met os))) ?_
  intro W base args ds gs before hval hW _ _ _ hL _ _
  exact contract H enc W base args ds gs before hval hW hL
theorem said : Rows.FnPredict8Said :=
  OpenClaim.holds_of_cond 3 Tryd.f3 rfl rfl rfl rfl rfl rfl rfl ⟨rfl, rfl, rfl, rfl, rfl⟩ rfl rfl rfl rfl rfl (by kernel_rfl) Tryd.func3 (by kernel_rfl)
    (of_decide_eq_true (by kernel_rfl)) (by unfold Func.isWrapper; first | (rw [if_pos (by decide +kernel)]; kernel_rfl) | (rw [if_neg (by decide +kernel)]; exact ⟨rfl, rfl⟩))
    (fun os started H enc _ F => by rw [OpenClaim.pre_eq_preRow]; exact lifted os started H enc F)
/-- No parameter wants a stand-in; the program's own looks are the card's. -/
theorem plain (f : FuncId) (fn : Func) (hf : Tryd.pinned.checked.prog.funcNamed "pub-weftwise/laws.FnPredict8" = some f) (hfn : Tryd.pinned.checked.prog.funcs[f]? = some fn) :
    false = Tryd.pinned.checked.prog.looks [] ∧ ∀ (j : Nat) t, fn.params[j]? = some t → Tryd.pinned.checked.prog.wantsStandIn t = false := by
  obtain rfl : f = 3 := Option.some.inj ((show Tryd.prog.funcNamed "pub-weftwise/laws.FnPredict8" = some 3 by kernel_rfl).symm.trans hf) |>.symm
  obtain rfl : fn = Tryd.f3 := (Option.some.inj (Tryd.func3.symm.trans hfn)).symm
  refine ⟨by kernel_rfl, fun j t ht => ?_⟩
  rw [Tryd.params3] at ht
  have hm : t ∈ #[3, 3, 22, 22] := Array.mem_of_getElem? ht
  have hc : t = 3 ∨ t = 3 ∨ t = 22 ∨ t = 22 := by simpa using hm
  rcases hc with rfl | rfl | rfl | rfl
  · exact (show Tryd.prog.wantsStandIn 3 = false by kernel_rfl)
  · exact (show Tryd.prog.wantsStandIn 3 = false by kernel_rfl)
  · exact (show Tryd.prog.wantsStandIn 22 = false by kernel_rfl)
  · exact (show Tryd.prog.wantsStandIn 22 = false by kernel_rfl)
/-- The card. -/
theorem proved : Rows.FnPredict8CardSaid :=
  Claim7.holds_tied_plain_at .later [] _ _ _ _ said (fun _ h => by cases h) (by kernel_rfl) (fun _ h => by cases h) fnPredict8_row_tie rfl ⟨rfl, rfl⟩ (by kernel_rfl) rfl plain (by kernel_rfl)
#print axioms proved
end Go.Proofs.YtleiehiabcgalaaDoor.fnPredict8
