/- For every number the law FnNear returns true: the near distances are 120 unlike places to the left or above, at most 8 columns and 7 rows away, none of them behind. The table of distances is listed by the row and tied to the program's text by the card. No condition. -/
import Derived.Test.YtldilncpenellaaDoorCards
import Derived.Test.YtldilncpenellaaDoorTie
import Derived.WalkKit
import Derived.ProofKit
import Derived.OpenShut
import Derived.ShutString
import Derived.ChangeOld
import Derived.Below
import Derived.Deep.DeepHandedRow
import Derived.Lib.LaidTab
import Derived.Deep.Grids
import Derived.LaidSub
import Derived.Test.YtldilncpenellaaDoorNearLaw
import Derived.Test.YtldilncpenellaaDoorMem
namespace Go.Proofs.YtldilncpenellaaDoor.fnNear
open Go.ChangeShapes Go.WideShapes Go.ChangeAt Go.RowKit
set_option linter.unusedVariables false
set_option linter.unusedSimpArgs false

theorem own : ownKnob Tryd.prog.godebug = none := by kernel_rfl
theorem laidOut : laidOutB Tryd.prog = true := by kernel_rfl
theorem gTab0 : Tryd.prog.globalNamed "pub-weftwise/pub/image/vp8l.distanceMapTable" = some 0 := by kernel_rfl
theorem gTy0 : (Tryd.prog.globals[0]?).map (·.type) = some 49 := by kernel_rfl
theorem cT0 : Tryd.prog.cellsOf 49 = 120 := by kernel_rfl
theorem cE0 : Tryd.prog.cellsOf 5 = 1 := by kernel_rfl
theorem one0 : Rows.fnNearRow.laid.filter (fun x => x.1 == "pub-weftwise/pub/image/vp8l.distanceMapTable") = [("pub-weftwise/pub/image/vp8l.distanceMapTable", Lib.tabData .u8 [24, 7, 23, 25, 40, 6, 39, 41, 22, 26, 38, 42, 56, 5, 55, 57, 21, 27, 54, 58, 37, 43, 72, 4, 71, 73, 20, 28, 53, 59, 70, 74, 36, 44, 88, 69, 75, 52, 60, 3, 87, 89, 19, 29, 86, 90, 35, 45, 68, 76, 85, 91, 51, 61, 104, 2, 103, 105, 18, 30, 102, 106, 34, 46, 84, 92, 67, 77, 101, 107, 50, 62, 120, 1, 119, 121, 83, 93, 17, 31, 100, 108, 66, 78, 118, 122, 33, 47, 117, 123, 49, 63, 99, 109, 82, 94, 0, 116, 124, 65, 79, 16, 32, 98, 110, 48, 115, 125, 81, 95, 64, 114, 126, 97, 111, 80, 113, 127, 96, 112])] := by kernel_rfl
/-- The table's cells, out of the row's list. -/
theorem tab0 {W : World} (h : laidMetH Tryd.prog Rows.fnNearRow.laid W) : Lib.TabIs Tryd.prog W "pub-weftwise/pub/image/vp8l.distanceMapTable" .u8 [24, 7, 23, 25, 40, 6, 39, 41, 22, 26, 38, 42, 56, 5, 55, 57, 21, 27, 54, 58, 37, 43, 72, 4, 71, 73, 20, 28, 53, 59, 70, 74, 36, 44, 88, 69, 75, 52, 60, 3, 87, 89, 19, 29, 86, 90, 35, 45, 68, 76, 85, 91, 51, 61, 104, 2, 103, 105, 18, 30, 102, 106, 34, 46, 84, 92, 67, 77, 101, 107, 50, 62, 120, 1, 119, 121, 83, 93, 17, 31, 100, 108, 66, 78, 118, 122, 33, 47, 117, 123, 49, 63, 99, 109, 82, 94, 0, 116, 124, 65, 79, 16, 32, 98, 110, 48, 115, 125, 81, 95, 64, 114, 126, 97, 111, 80, 113, 127, 96, 112] := by
  have h1 := h.filter (fun x => x.1 == "pub-weftwise/pub/image/vp8l.distanceMapTable")
  rw [one0] at h1
  exact Lib.tabIs_of_head (rest := []) gTab0 gTy0 Tryd.underlying49 Tryd.underlying5 cE0 cT0 h1

/-- What the walk is told of a slice of integers that came in. -/
def IsRow (k : IntKind) (w : World) (a : Option Addr) (len cap : Nat) (zs : List Int) : Prop :=
  (a = none ∧ len = 0 ∧ cap = 0 ∧ zs = []) ∨
  ∃ x, a = some x ∧ len ≤ cap ∧ cap ≤ maxLen ∧ zs.length = cap ∧ (∀ i, i < zs.length → w.cell? (x.add i) = some (.int k (zs.getD i 0))) ∧ ∀ n ∈ zs, (Lit.int k n).wf = true

/-- What the walk gives, for every argument and every world that holds the tables. -/
theorem contract (H : Type) (enc : TypeId × Value → H) (W : World) (base : Nat) (args : Array Value) (ds gs : List (DataW H)) (before : List MemPlace)
    (hval0 : ∀ (j : Nat) t v, Tryd.f3.params[j]? = some t → args[j]? = some v → Value.okWide Tryd.prog W .any base t v)
    (hW : DataW.Whole enc Tryd.prog Tryd.f3.params.toList Rows.fnNearSpec.vars false W args.toList ds gs before) (hL : laidMetH Tryd.prog Rows.fnNearRow.laid W) :
    Calls Tryd.prog 3 args W fun e W' => ∃ v, e = .returned v ∧ Rows.fnNearSpec.post enc Tryd.prog Tryd.f3 false true false false W args v W' := by
  have hval : ∀ (j : Nat) t v, Tryd.f3.params[j]? = some t → args[j]? = some v → Value.okWide Tryd.prog W .any base t v := hval0
  have hW' := hW
  obtain ⟨p, q, hA0, hV, rfl, hfz, hnd⟩ := hW
  have hA : DataW.TrodAll enc Tryd.prog W 0 (fun _ => true) true Tryd.f3.params.toList args.toList ds p := hA0
  rw [Tryd.params3] at hA hval
  obtain ⟨v0, vs0, d0, ds0, p0, q0, hargs, rfl, rfl, h0, r0⟩ := trodAll_cons hA
  obtain ⟨rfl, rfl, rfl⟩ := trodAll_nil r0
  obtain rfl : args = #[v0] := by cases args; simp_all
  obtain ⟨rfl, rfl⟩ := trodVars_none hV
  obtain ⟨a0, rfl, rfl, rfl, w0⟩ := open_int Tryd.underlying3 (hval 0 3 v0 rfl rfl) h0
  have T0 := fun k hk => (tab0 hL).cell gTab0 k hk
  clear hA0 hval0
  have walk : Calls Tryd.prog 3 #[.int .i64 a0] W fun e w' => e = .returned (.bool true) ∧ Below W.heap.size W w' := by
    have ht : HasNear W := fun k hk => T0 k hk
    exact fnNear_any a0 W ht (World.block_lt_of_cell? _ _ (T0 0 (by decide)))
  refine walk.mono fun e W' ⟨he, bel⟩ => ?_
  subst he
  exact ⟨_, rfl, _, _, _, [], _, [], hW', trodAll_mk1 (shut_bool Tryd.underlying4 _), (trodAll_cons_mk (shut_int Tryd.underlying3 w0) trodAll_mk0), rfl, bel.frame _, fun h => by cases h⟩

/-- A world for the witness: the settled one, the tables holding what their initialisers lay. -/
noncomputable def laidWorld (os : Os) : World :=
  { World.holding Tryd.prog os ⟨#[], #[], []⟩ with heap := ((World.holding Tryd.prog os ⟨#[], #[], []⟩).heap.modify 0 fun | .cells _ t frozen => .cells #[.int .u8 24, .int .u8 7, .int .u8 23, .int .u8 25, .int .u8 40, .int .u8 6, .int .u8 39, .int .u8 41, .int .u8 22, .int .u8 26, .int .u8 38, .int .u8 42, .int .u8 56, .int .u8 5, .int .u8 55, .int .u8 57, .int .u8 21, .int .u8 27, .int .u8 54, .int .u8 58, .int .u8 37, .int .u8 43, .int .u8 72, .int .u8 4, .int .u8 71, .int .u8 73, .int .u8 20, .int .u8 28, .int .u8 53, .int .u8 59, .int .u8 70, .int .u8 74, .int .u8 36, .int .u8 44, .int .u8 88, .int .u8 69, .int .u8 75, .int .u8 52, .int .u8 60, .int .u8 3, .int .u8 87, .int .u8 89, .int .u8 19, .int .u8 29, .int .u8 86, .int .u8 90, .int .u8 35, .int .u8 45, .int .u8 68, .int .u8 76, .int .u8 85, .int .u8 91, .int .u8 51, .int .u8 61, .int .u8 104, .int .u8 2, .int .u8 103, .int .u8 105, .int .u8 18, .int .u8 30, .int .u8 102, .int .u8 106, .int .u8 34, .int .u8 46, .int .u8 84, .int .u8 92, .int .u8 67, .int .u8 77, .int .u8 101, .int .u8 107, .int .u8 50, .int .u8 62, .int .u8 120, .int .u8 1, .int .u8 119, .int .u8 121, .int .u8 83, .int .u8 93, .int .u8 17, .int .u8 31, .int .u8 100, .int .u8 108, .int .u8 66, .int .u8 78, .int .u8 118, .int .u8 122, .int .u8 33, .int .u8 47, .int .u8 117, .int .u8 123, .int .u8 49, .int .u8 63, .int .u8 99, .int .u8 109, .int .u8 82, .int .u8 94, .int .u8 0, .int .u8 116, .int .u8 124, .int .u8 65, .int .u8 79, .int .u8 16, .int .u8 32, .int .u8 98, .int .u8 110, .int .u8 48, .int .u8 115, .int .u8 125, .int .u8 81, .int .u8 95, .int .u8 64, .int .u8 114, .int .u8 126, .int .u8 97, .int .u8 111, .int .u8 80, .int .u8 113, .int .u8 127, .int .u8 96, .int .u8 112] t frozen | o => o) }
theorem laid_met (os : Os) : laidMet Tryd.prog Rows.fnNearRow.laid ((laidWorld os).forCall (fun _ _ => 0) ⟨#[], #[.int .i64 0], []⟩).memory :=
  laidMet_of_run' 8 (by kernel_rfl) (by kernel_rfl)
theorem reads (os : Os) {H : Type} (enc : TypeId × Value → H) : ∃ places, DataW.whole enc Tryd.prog ((laidWorld os).forCall (fun _ _ => 0) ⟨#[], #[.int .i64 0], []⟩).memory Tryd.f3.params.toList Rows.fnNearSpec.vars false (#[.int .i64 0] : Array Value).toList 8 = some ([.lit (.int .i64 0)], [], places) :=
  ⟨[], by kernel_rfl⟩
set_option maxRecDepth 100000 in
theorem lifted (os : Os) (started : os.Started) (H : Type) (enc : TypeId × Value → H) (F : Stop.Interp) :
    ReturnsInHanded {} Tryd.checked os 3 .any ((OpenSpec.ofChange Rows.fnNearSpec).preRow enc Tryd.prog Tryd.f3 Rows.fnNearRow.domain false Rows.fnNearRow.laid) (((OpenSpec.ofChange Rows.fnNearSpec).at F).post enc Tryd.prog Tryd.f3 false true false false) := by
  obtain ⟨places, hx⟩ := reads os enc
  refine returnsInHanded_of_row (C := Tryd.checked) (s := OpenSpec.ofChange Rows.fnNearSpec) own started (by kernel_rfl) Tryd.func3
    (witness_row_at (enc := enc) (C := Tryd.checked) false (laidWorld os) #[.int .i64 0] rfl (by kernel_rfl) (by kernel_rfl) (by kernel_rfl)
      (OpenSpec.preRow_of_cond 8 hx (by kernel_rfl) (fun k hk => by cases hk) (by kernel_rfl) (laid_met os))) ?_
  intro W base args ds gs before hval hW _ _ _ hL _ _
  exact contract H enc W base args ds gs before hval hW hL
theorem said : Rows.FnNearSaid :=
  OpenClaim.holds_of_cond 3 Tryd.f3 rfl rfl rfl rfl rfl rfl rfl ⟨rfl, rfl, rfl, rfl, rfl⟩ rfl rfl rfl rfl rfl (by kernel_rfl) Tryd.func3 (by kernel_rfl)
    (of_decide_eq_true (by kernel_rfl)) (by unfold Func.isWrapper; first | (rw [if_pos (by decide +kernel)]; kernel_rfl) | (rw [if_neg (by decide +kernel)]; exact ⟨rfl, rfl⟩))
    (fun os started H enc _ F => by rw [OpenClaim.pre_eq_preRow]; exact lifted os started H enc F)
/-- No parameter wants a stand-in; the program's own looks are off. -/
theorem plain (f : FuncId) (fn : Func) (hf : Tryd.pinned.checked.prog.funcNamed "pub-weftwise/laws.FnNear" = some f) (hfn : Tryd.pinned.checked.prog.funcs[f]? = some fn) :
    false = Tryd.pinned.checked.prog.looks [] ∧ ∀ (j : Nat) t, fn.params[j]? = some t → Tryd.pinned.checked.prog.wantsStandIn t = false := by
  obtain rfl : f = 3 := Option.some.inj ((show Tryd.prog.funcNamed "pub-weftwise/laws.FnNear" = some 3 by kernel_rfl).symm.trans hf) |>.symm
  obtain rfl : fn = Tryd.f3 := (Option.some.inj (Tryd.func3.symm.trans hfn)).symm
  refine ⟨by kernel_rfl, fun j t ht => ?_⟩
  rw [Tryd.params3] at ht
  have hm : t ∈ #[3] := Array.mem_of_getElem? ht
  have hc : t = 3 := by simp at hm; omega
  rcases hc with rfl
  · exact (show Tryd.prog.wantsStandIn 3 = false by kernel_rfl)
/-- The card. -/
theorem proved : Rows.FnNearCardSaid :=
  Claim7.holds_tied_plain_at .later [] _ _ _ _ said (fun _ h => by cases h) (by kernel_rfl) (fun _ h => by cases h) fnNear_row_tie rfl ⟨rfl, rfl⟩ (by kernel_rfl) rfl plain (by kernel_rfl)
#print axioms proved
end Go.Proofs.YtldilncpenellaaDoor.fnNear
