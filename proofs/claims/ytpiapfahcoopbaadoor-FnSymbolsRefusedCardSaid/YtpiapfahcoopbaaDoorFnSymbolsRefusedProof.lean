/- The law FnSymbolsRefused returns true at every input: of lengths of at least two symbols whose tree has gaps there is no code, for all lists of lengths and bytes; where the listed errors and the table of reversed bytes hold what their initialisers lay. The arguments read behind the call as they read before. -/
import Derived.Test.YtpiapfahcoopbaaDoorCards
import Derived.Test.YtpiapfahcoopbaaDoorTie
import Derived.WalkKit
import Derived.ProofKit
import Derived.OpenShut
import Derived.ShutString
import Derived.ChangeOld
import Derived.Below
import Derived.Deep.DeepHandedRow
import Derived.Lib.LaidTab
import Derived.Deep.Grids
import Derived.LaidSub
import Derived.Stop.LaidErr
import Derived.MakeChecks
import Derived.LaidMore
import Derived.Deep.DeepWitnessRowRef
import Derived.Test.YtpiapfahcoopbaaDoorSymRefused
namespace Go.Proofs.YtpiapfahcoopbaaDoor.fnSymbolsRefused
open Go.ChangeShapes Go.WideShapes Go.ChangeAt Go.RowKit
set_option linter.unusedVariables false
set_option linter.unusedSimpArgs false
set_option maxHeartbeats 1000000

theorem own : ownKnob Tryd.prog.godebug = none := by kernel_rfl
theorem laidOut : laidOutB Tryd.prog = true := by kernel_rfl
theorem star : "*errors.errorString" = "*" ++ "errors.errorString" := by decide
theorem rowE (u : TypeId) (h : Tryd.prog.typeName? 3 u = some "*errors.errorString") : u = 127 :=
  typeName_ptr_named (nm := "errors.errorString") (by rw [← star]; kernel_rfl) (by kernel_rfl) (by decide) u (by rw [← star]; exact h)
theorem cellsE : Tryd.prog.cellsOf 146 = 1 := by kernel_rfl
theorem cellsS : Tryd.prog.cellsOf 9 = 1 := by kernel_rfl
theorem gTab0 : Tryd.prog.globalNamed "io.EOF" = some 0 := by kernel_rfl
theorem gTy0 : (Tryd.prog.globals[0]?).map (·.type) = some 61 := by kernel_rfl
theorem one0 : Rows.fnSymbolsRefusedRow.laid.filter (fun x => x.1 == "io.EOF") = [("io.EOF", .iface "*errors.errorString" (.ptr (.agg [.lit (.string [69, 79, 70])])))] := by kernel_rfl
/-- What the variable holds: an error, not nil. -/
theorem sent0 {W : World} (h : laidMetH Tryd.prog Rows.fnSymbolsRefusedRow.laid W) : ∃ a : Addr, W.cell? ⟨0, 0, none⟩ = some (.iface 127 (.pointer (some a))) := by
  have h1 := h.filter (fun x => x.1 == "io.EOF")
  rw [one0, MakeChecks.laidMetH_plain _ _ _ (by kernel_rfl)] at h1
  obtain ⟨a, s, hv, _, _, _⟩ := laid_sentinel h1 gTab0 gTy0 Tryd.underlying61 rowE Tryd.underlying127 Tryd.underlying146 rfl rfl Tryd.underlying9 cellsE cellsS
  exact ⟨a, by simpa using World.var?_cell gTab0 hv 0⟩
theorem gTab1 : Tryd.prog.globalNamed "io.ErrUnexpectedEOF" = some 1 := by kernel_rfl
theorem gTy1 : (Tryd.prog.globals[1]?).map (·.type) = some 61 := by kernel_rfl
theorem one1 : Rows.fnSymbolsRefusedRow.laid.filter (fun x => x.1 == "io.ErrUnexpectedEOF") = [("io.ErrUnexpectedEOF", .iface "*errors.errorString" (.ptr (.agg [.lit (.string [117, 110, 101, 120, 112, 101, 99, 116, 101, 100, 32, 69, 79, 70])])))] := by kernel_rfl
/-- What the variable holds: an error, not nil. -/
theorem sent1 {W : World} (h : laidMetH Tryd.prog Rows.fnSymbolsRefusedRow.laid W) : ∃ a : Addr, W.cell? ⟨1, 0, none⟩ = some (.iface 127 (.pointer (some a))) := by
  have h1 := h.filter (fun x => x.1 == "io.ErrUnexpectedEOF")
  rw [one1, MakeChecks.laidMetH_plain _ _ _ (by kernel_rfl)] at h1
  obtain ⟨a, s, hv, _, _, _⟩ := laid_sentinel h1 gTab1 gTy1 Tryd.underlying61 rowE Tryd.underlying127 Tryd.underlying146 rfl rfl Tryd.underlying9 cellsE cellsS
  exact ⟨a, by simpa using World.var?_cell gTab1 hv 0⟩
theorem gTab2 : Tryd.prog.globalNamed "pub-weftwise/pub/image/vp8l.errInvalidHuffmanTree" = some 2 := by kernel_rfl
theorem gTy2 : (Tryd.prog.globals[2]?).map (·.type) = some 61 := by kernel_rfl
theorem one2 : Rows.fnSymbolsRefusedRow.laid.filter (fun x => x.1 == "pub-weftwise/pub/image/vp8l.errInvalidHuffmanTree") = [("pub-weftwise/pub/image/vp8l.errInvalidHuffmanTree", .iface "*errors.errorString" (.ptr (.agg [.lit (.string [118, 112, 56, 108, 58, 32, 105, 110, 118, 97, 108, 105, 100, 32, 72, 117, 102, 102, 109, 97, 110, 32, 116, 114, 101, 101])])))] := by kernel_rfl
/-- What the variable holds: an error, not nil. -/
theorem sent2 {W : World} (h : laidMetH Tryd.prog Rows.fnSymbolsRefusedRow.laid W) : ∃ a : Addr, W.cell? ⟨2, 0, none⟩ = some (.iface 127 (.pointer (some a))) := by
  have h1 := h.filter (fun x => x.1 == "pub-weftwise/pub/image/vp8l.errInvalidHuffmanTree")
  rw [one2, MakeChecks.laidMetH_plain _ _ _ (by kernel_rfl)] at h1
  obtain ⟨a, s, hv, _, _, _⟩ := laid_sentinel h1 gTab2 gTy2 Tryd.underlying61 rowE Tryd.underlying127 Tryd.underlying146 rfl rfl Tryd.underlying9 cellsE cellsS
  exact ⟨a, by simpa using World.var?_cell gTab2 hv 0⟩
theorem gTab3 : Tryd.prog.globalNamed "pub-weftwise/pub/image/vp8l.reverseBits" = some 4 := by kernel_rfl
theorem gTy3 : (Tryd.prog.globals[4]?).map (·.type) = some 123 := by kernel_rfl
theorem cT3 : Tryd.prog.cellsOf 123 = 256 := by kernel_rfl
theorem cE3 : Tryd.prog.cellsOf 5 = 1 := by kernel_rfl
theorem one3 : Rows.fnSymbolsRefusedRow.laid.filter (fun x => x.1 == "pub-weftwise/pub/image/vp8l.reverseBits") = [("pub-weftwise/pub/image/vp8l.reverseBits", Lib.tabData .u8 [0, 128, 64, 192, 32, 160, 96, 224, 16, 144, 80, 208, 48, 176, 112, 240, 8, 136, 72, 200, 40, 168, 104, 232, 24, 152, 88, 216, 56, 184, 120, 248, 4, 132, 68, 196, 36, 164, 100, 228, 20, 148, 84, 212, 52, 180, 116, 244, 12, 140, 76, 204, 44, 172, 108, 236, 28, 156, 92, 220, 60, 188, 124, 252, 2, 130, 66, 194, 34, 162, 98, 226, 18, 146, 82, 210, 50, 178, 114, 242, 10, 138, 74, 202, 42, 170, 106, 234, 26, 154, 90, 218, 58, 186, 122, 250, 6, 134, 70, 198, 38, 166, 102, 230, 22, 150, 86, 214, 54, 182, 118, 246, 14, 142, 78, 206, 46, 174, 110, 238, 30, 158, 94, 222, 62, 190, 126, 254, 1, 129, 65, 193, 33, 161, 97, 225, 17, 145, 81, 209, 49, 177, 113, 241, 9, 137, 73, 201, 41, 169, 105, 233, 25, 153, 89, 217, 57, 185, 121, 249, 5, 133, 69, 197, 37, 165, 101, 229, 21, 149, 85, 213, 53, 181, 117, 245, 13, 141, 77, 205, 45, 173, 109, 237, 29, 157, 93, 221, 61, 189, 125, 253, 3, 131, 67, 195, 35, 163, 99, 227, 19, 147, 83, 211, 51, 179, 115, 243, 11, 139, 75, 203, 43, 171, 107, 235, 27, 155, 91, 219, 59, 187, 123, 251, 7, 135, 71, 199, 39, 167, 103, 231, 23, 151, 87, 215, 55, 183, 119, 247, 15, 143, 79, 207, 47, 175, 111, 239, 31, 159, 95, 223, 63, 191, 127, 255])] := by kernel_rfl
/-- The table's cells, out of the row's list. -/
theorem tab3 {W : World} (h : laidMetH Tryd.prog Rows.fnSymbolsRefusedRow.laid W) : Lib.TabIs Tryd.prog W "pub-weftwise/pub/image/vp8l.reverseBits" .u8 [0, 128, 64, 192, 32, 160, 96, 224, 16, 144, 80, 208, 48, 176, 112, 240, 8, 136, 72, 200, 40, 168, 104, 232, 24, 152, 88, 216, 56, 184, 120, 248, 4, 132, 68, 196, 36, 164, 100, 228, 20, 148, 84, 212, 52, 180, 116, 244, 12, 140, 76, 204, 44, 172, 108, 236, 28, 156, 92, 220, 60, 188, 124, 252, 2, 130, 66, 194, 34, 162, 98, 226, 18, 146, 82, 210, 50, 178, 114, 242, 10, 138, 74, 202, 42, 170, 106, 234, 26, 154, 90, 218, 58, 186, 122, 250, 6, 134, 70, 198, 38, 166, 102, 230, 22, 150, 86, 214, 54, 182, 118, 246, 14, 142, 78, 206, 46, 174, 110, 238, 30, 158, 94, 222, 62, 190, 126, 254, 1, 129, 65, 193, 33, 161, 97, 225, 17, 145, 81, 209, 49, 177, 113, 241, 9, 137, 73, 201, 41, 169, 105, 233, 25, 153, 89, 217, 57, 185, 121, 249, 5, 133, 69, 197, 37, 165, 101, 229, 21, 149, 85, 213, 53, 181, 117, 245, 13, 141, 77, 205, 45, 173, 109, 237, 29, 157, 93, 221, 61, 189, 125, 253, 3, 131, 67, 195, 35, 163, 99, 227, 19, 147, 83, 211, 51, 179, 115, 243, 11, 139, 75, 203, 43, 171, 107, 235, 27, 155, 91, 219, 59, 187, 123, 251, 7, 135, 71, 199, 39, 167, 103, 231, 23, 151, 87, 215, 55, 183, 119, 247, 15, 143, 79, 207, 47, 175, 111, 239, 31, 159, 95, 223, 63, 191, 127, 255] := by
  have h1 := h.filter (fun x => x.1 == "pub-weftwise/pub/image/vp8l.reverseBits")
  rw [one3] at h1
  exact Lib.tabIs_of_head (rest := []) gTab3 gTy3 Tryd.underlying123 Tryd.underlying5 cE3 cT3 h1

/-- What the walk is told of a slice of integers that came in. -/
def IsRow (k : IntKind) (w : World) (a : Option Addr) (len cap : Nat) (zs : List Int) : Prop :=
  (a = none ∧ len = 0 ∧ cap = 0 ∧ zs = []) ∨
  ∃ x, a = some x ∧ len ≤ cap ∧ cap ≤ maxLen ∧ zs.length = cap ∧ (∀ i, i < zs.length → w.cell? (x.add i) = some (.int k (zs.getD i 0))) ∧ ∀ n ∈ zs, (Lit.int k n).wf = true

set_option maxRecDepth 100000 in
/-- What the walk gives, for every argument and every world that holds the tables. -/
theorem contract (H : Type) (enc : TypeId × Value → H) (W : World) (base : Nat) (args : Array Value) (ds gs : List (DataW H)) (before : List MemPlace)
    (hval0 : ∀ (j : Nat) t v, Tryd.f7.params[j]? = some t → args[j]? = some v → Value.okWide Tryd.prog W .any base t v)
    (hW : DataW.Whole enc Tryd.prog Tryd.f7.params.toList Rows.fnSymbolsRefusedSpec.vars false W args.toList ds gs before) (hL : laidMetH Tryd.prog Rows.fnSymbolsRefusedRow.laid W) :
    Calls Tryd.prog 7 args W fun e W' => ∃ v, e = .returned v ∧ Rows.fnSymbolsRefusedSpec.post enc Tryd.prog Tryd.f7 false true false false W args v W' := by
  have hval : ∀ (j : Nat) t v, Tryd.f7.params[j]? = some t → args[j]? = some v → Value.okWide Tryd.prog W .any base t v := hval0
  have hW' := hW
  obtain ⟨p, q, hA0, hV, rfl, hfz, hnd⟩ := hW
  have hA : DataW.TrodAll enc Tryd.prog W 0 (fun _ => true) true Tryd.f7.params.toList args.toList ds p := hA0
  rw [Tryd.params7] at hA hval
  obtain ⟨v0, vs0, d0, ds0, p0, q0, hargs, rfl, rfl, h0, r0⟩ := trodAll_cons hA
  obtain ⟨v1, vs1, d1, ds1, p1, q1, rfl, rfl, rfl, h1, r1⟩ := trodAll_cons r0
  obtain ⟨rfl, rfl, rfl⟩ := trodAll_nil r1
  obtain rfl : args = #[v0, v1] := by cases args; simp_all
  obtain ⟨rfl, rfl⟩ := trodVars_none hV
  obtain ⟨A0, len0, c0, rfl⟩ := okWide_slice Tryd.underlying23 (hval 0 23 v0 rfl rfl)
  have k0 := h0
  have lt0 : ∀ x ∈ p0, x.block < W.heap.size := by obtain ⟨m, hm⟩ := k0; exact DataW.trod_lt m _ _ _ hm
  obtain ⟨z0, y0⟩ : ∃ zs, IsRow .i64 W A0 len0 c0 zs := by
    obtain ⟨fuel, hf⟩ := h0
    rcases open_ints Tryd.underlying23 Tryd.underlying3 (by kernel_rfl) hf with ⟨hcs, _⟩ | ⟨x, l, c, zs, hcs, _, hl, hm, hz, _, hcell, hwz⟩
    · simp [Value.cells] at hcs
      obtain ⟨rfl, rfl, rfl⟩ := hcs
      exact ⟨[], .inl ⟨rfl, rfl, rfl, rfl⟩⟩
    · simp [Value.cells] at hcs
      obtain ⟨rfl, rfl, rfl⟩ := hcs
      exact ⟨zs, .inr ⟨_, rfl, hl, hm, by simpa using hz, hcell, hwz⟩⟩
  obtain ⟨l0, hl0, hr0, hw0, hm0⟩ := row_rd y0
  subst hl0
  obtain ⟨A1, len1, c1, rfl⟩ := okWide_slice Tryd.underlying22 (hval 1 22 v1 rfl rfl)
  have k1 := h1
  have lt1 : ∀ x ∈ p1, x.block < W.heap.size := by obtain ⟨m, hm⟩ := k1; exact DataW.trod_lt m _ _ _ hm
  obtain ⟨z1, y1⟩ : ∃ zs, IsRow .u8 W A1 len1 c1 zs := by
    obtain ⟨fuel, hf⟩ := h1
    rcases open_ints Tryd.underlying22 Tryd.underlying5 (by kernel_rfl) hf with ⟨hcs, _⟩ | ⟨x, l, c, zs, hcs, _, hl, hm, hz, _, hcell, hwz⟩
    · simp [Value.cells] at hcs
      obtain ⟨rfl, rfl, rfl⟩ := hcs
      exact ⟨[], .inl ⟨rfl, rfl, rfl, rfl⟩⟩
    · simp [Value.cells] at hcs
      obtain ⟨rfl, rfl, rfl⟩ := hcs
      exact ⟨zs, .inr ⟨_, rfl, hl, hm, by simpa using hz, hcell, hwz⟩⟩
  obtain ⟨l1, hl1, hr1, hw1, hm1⟩ := row_rd y1
  subst hl1
  have T3 := fun k hk => (tab3 hL).cell gTab3 k hk
  clear hA0 hval0
  have walk : Calls Tryd.prog 7 #[.slice A0 l0.length c0, .slice A1 l1.length c1] W fun e w' => e = .returned (.bool true) ∧ Below W.heap.size W w' := by
    obtain ⟨ae, he⟩ := sent0 hL
    obtain ⟨au, hu⟩ := sent1 hL
    obtain ⟨ar, hr⟩ := sent2 hL
    have hrev : ∀ j, j < 256 → W.cell? ⟨_, j, none⟩ = some (.int .u8 ((revN j 8 : Nat) : Int)) := fun j hj => (T3 j (Nat.lt_of_lt_of_eq hj (by decide +kernel))).trans (congrArg (fun z => some (Value.int .u8 z)) (rev_tab j hj))
    exact refusedLaw_any A0 A1 c0 c1 l0 l1 ar ae au W (fun x hx => Go.bounds_u8 (hw1 x hx)) hr0 hr1 hm0 hm1 ⟨hrev, hr⟩ ⟨he, hu⟩
  refine walk.mono fun e W' ⟨he, bel⟩ => ?_
  subst he
  exact ⟨_, rfl, _, _, _, [], _, [], hW', trodAll_mk1 (shut_bool Tryd.underlying4 _), (trodAll_cons_mk (Below.trod laidOut (by kernel_rfl) (of_decide_eq_true (by kernel_rfl)) k0 bel lt0) (trodAll_cons_mk (Below.trod laidOut (by kernel_rfl) (of_decide_eq_true (by kernel_rfl)) k1 bel lt1) trodAll_mk0)), rfl, bel.frame _, fun h => by cases h⟩

/-- A world for the witness: the one that the door's own run leaves. -/
noncomputable def laidWorld (os : Os) : World := World.doorLaid Tryd.prog 105 os
theorem laid_met (os : Os) : laidMet Tryd.prog Rows.fnSymbolsRefusedRow.laid ((laidWorld os).forCall (fun _ _ => 0) ⟨#[], #[.slice none 0 0, .slice none 0 0], []⟩).memory :=
  laidMet_of_run' 8 (by kernel_rfl) (by kernel_rfl)
theorem reads (os : Os) {H : Type} (enc : TypeId × Value → H) : ∃ places, DataW.whole enc Tryd.prog ((laidWorld os).forCall (fun _ _ => 0) ⟨#[], #[.slice none 0 0, .slice none 0 0], []⟩).memory Tryd.f7.params.toList Rows.fnSymbolsRefusedSpec.vars false (#[.slice none 0 0, .slice none 0 0] : Array Value).toList 8 = some ([.nil, .nil], [], places) :=
  ⟨[], by kernel_rfl⟩
set_option maxRecDepth 100000 in
theorem lifted (os : Os) (started : os.Started) (H : Type) (enc : TypeId × Value → H) (F : Stop.Interp) :
    ReturnsInHanded {} Tryd.checked os 7 .any ((OpenSpec.ofChange Rows.fnSymbolsRefusedSpec).preRow enc Tryd.prog Tryd.f7 Rows.fnSymbolsRefusedRow.domain false Rows.fnSymbolsRefusedRow.laid) (((OpenSpec.ofChange Rows.fnSymbolsRefusedSpec).at F).post enc Tryd.prog Tryd.f7 false true false false) := by
  obtain ⟨places, hx⟩ := reads os enc
  refine returnsInHanded_of_row (C := Tryd.checked) (s := OpenSpec.ofChange Rows.fnSymbolsRefusedSpec) own started (by kernel_rfl) Tryd.func7
    (witness_row_atRef (enc := enc) (C := Tryd.checked) false (laidWorld os) #[.slice none 0 0, .slice none 0 0] rfl (by kernel_rfl) (by kernel_rfl) (by kernel_rfl)
      (OpenSpec.preRow_of_cond 8 hx (by kernel_rfl) (fun k hk => by cases hk) (by kernel_rfl) (laid_met os))) ?_
  intro W base args ds gs before hval hW _ _ _ hL _ _
  exact contract H enc W base args ds gs before hval hW hL
theorem said : Rows.FnSymbolsRefusedSaid :=
  OpenClaim.holds_of_cond 7 Tryd.f7 rfl rfl rfl rfl rfl rfl rfl ⟨rfl, rfl, rfl, rfl, rfl⟩ rfl rfl rfl rfl rfl (by kernel_rfl) Tryd.func7 (by kernel_rfl)
    (of_decide_eq_true (by kernel_rfl)) (by unfold Func.isWrapper; first | (rw [if_pos (by decide +kernel)]; kernel_rfl) | (rw [if_neg (by decide +kernel)]; exact ⟨rfl, rfl⟩))
    (fun os started H enc _ F => by rw [OpenClaim.pre_eq_preRow]; exact lifted os started H enc F)
/-- No parameter wants a stand-in; the program's own looks are the card's. -/
theorem plain (f : FuncId) (fn : Func) (hf : Tryd.pinned.checked.prog.funcNamed "pub-weftwise/laws.FnSymbolsRefused" = some f) (hfn : Tryd.pinned.checked.prog.funcs[f]? = some fn) :
    true = Tryd.pinned.checked.prog.looks [] ∧ ∀ (j : Nat) t, fn.params[j]? = some t → Tryd.pinned.checked.prog.wantsStandIn t = false := by
  obtain rfl : f = 7 := Option.some.inj ((show Tryd.prog.funcNamed "pub-weftwise/laws.FnSymbolsRefused" = some 7 by kernel_rfl).symm.trans hf) |>.symm
  obtain rfl : fn = Tryd.f7 := (Option.some.inj (Tryd.func7.symm.trans hfn)).symm
  refine ⟨by kernel_rfl, fun j t ht => ?_⟩
  rw [Tryd.params7] at ht
  have hm : t ∈ #[23, 22] := Array.mem_of_getElem? ht
  have hc : t = 23 ∨ t = 22 := by simpa using hm
  rcases hc with rfl | rfl
  · exact (show Tryd.prog.wantsStandIn 23 = false by kernel_rfl)
  · exact (show Tryd.prog.wantsStandIn 22 = false by kernel_rfl)
/-- The card. -/
theorem proved : Rows.FnSymbolsRefusedCardSaid :=
  Claim7.holds_tied_plain_at .later [] _ _ _ _ said (fun _ h => by cases h) (by kernel_rfl) (fun _ h => by cases h) fnSymbolsRefused_row_tie rfl ⟨rfl, rfl⟩ (by kernel_rfl) rfl plain (by kernel_rfl)
#print axioms proved
end Go.Proofs.YtpiapfahcoopbaaDoor.fnSymbolsRefused
