/- The law FnPrefixWritten returns true at every input: a code that the law's own writer wrote for the used symbols, by whichever choices, is read again in its form, and the symbols behind it by it, for all sizes, lists of symbols and bytes of choices; where the listed errors and tables hold what their initialisers lay. The arguments read behind the call as they read before. -/
import Derived.Test.YtpiapfahcoopbaaDoorCards
import Derived.Test.YtpiapfahcoopbaaDoorTie
import Derived.WalkKit
import Derived.ProofKit
import Derived.OpenShut
import Derived.ShutString
import Derived.ChangeOld
import Derived.Below
import Derived.Deep.DeepHandedRow
import Derived.Lib.LaidTab
import Derived.Deep.Grids
import Derived.LaidSub
import Derived.Stop.LaidErr
import Derived.MakeChecks
import Derived.LaidMore
import Derived.Deep.DeepWitnessRowRef
import Derived.Test.YtpiapfahcoopbaaDoorPsG
namespace Go.Proofs.YtpiapfahcoopbaaDoor.fnPrefixWritten
open Go.ChangeShapes Go.WideShapes Go.ChangeAt Go.RowKit
set_option linter.unusedVariables false
set_option linter.unusedSimpArgs false
set_option maxHeartbeats 1000000

theorem own : ownKnob Tryd.prog.godebug = none := by kernel_rfl
theorem laidOut : laidOutB Tryd.prog = true := by kernel_rfl
theorem star : "*errors.errorString" = "*" ++ "errors.errorString" := by decide
theorem rowE (u : TypeId) (h : Tryd.prog.typeName? 3 u = some "*errors.errorString") : u = 127 :=
  typeName_ptr_named (nm := "errors.errorString") (by rw [← star]; kernel_rfl) (by kernel_rfl) (by decide) u (by rw [← star]; exact h)
theorem cellsE : Tryd.prog.cellsOf 146 = 1 := by kernel_rfl
theorem cellsS : Tryd.prog.cellsOf 9 = 1 := by kernel_rfl
theorem gTab0 : Tryd.prog.globalNamed "io.EOF" = some 0 := by kernel_rfl
theorem gTy0 : (Tryd.prog.globals[0]?).map (·.type) = some 61 := by kernel_rfl
theorem one0 : Rows.fnPrefixWrittenRow.laid.filter (fun x => x.1 == "io.EOF") = [("io.EOF", .iface "*errors.errorString" (.ptr (.agg [.lit (.string [69, 79, 70])])))] := by kernel_rfl
/-- What the variable holds: an error, not nil. -/
theorem sent0 {W : World} (h : laidMetH Tryd.prog Rows.fnPrefixWrittenRow.laid W) : ∃ a : Addr, W.cell? ⟨0, 0, none⟩ = some (.iface 127 (.pointer (some a))) := by
  have h1 := h.filter (fun x => x.1 == "io.EOF")
  rw [one0, MakeChecks.laidMetH_plain _ _ _ (by kernel_rfl)] at h1
  obtain ⟨a, s, hv, _, _, _⟩ := laid_sentinel h1 gTab0 gTy0 Tryd.underlying61 rowE Tryd.underlying127 Tryd.underlying146 rfl rfl Tryd.underlying9 cellsE cellsS
  exact ⟨a, by simpa using World.var?_cell gTab0 hv 0⟩
theorem gTab1 : Tryd.prog.globalNamed "io.ErrUnexpectedEOF" = some 1 := by kernel_rfl
theorem gTy1 : (Tryd.prog.globals[1]?).map (·.type) = some 61 := by kernel_rfl
theorem one1 : Rows.fnPrefixWrittenRow.laid.filter (fun x => x.1 == "io.ErrUnexpectedEOF") = [("io.ErrUnexpectedEOF", .iface "*errors.errorString" (.ptr (.agg [.lit (.string [117, 110, 101, 120, 112, 101, 99, 116, 101, 100, 32, 69, 79, 70])])))] := by kernel_rfl
/-- What the variable holds: an error, not nil. -/
theorem sent1 {W : World} (h : laidMetH Tryd.prog Rows.fnPrefixWrittenRow.laid W) : ∃ a : Addr, W.cell? ⟨1, 0, none⟩ = some (.iface 127 (.pointer (some a))) := by
  have h1 := h.filter (fun x => x.1 == "io.ErrUnexpectedEOF")
  rw [one1, MakeChecks.laidMetH_plain _ _ _ (by kernel_rfl)] at h1
  obtain ⟨a, s, hv, _, _, _⟩ := laid_sentinel h1 gTab1 gTy1 Tryd.underlying61 rowE Tryd.underlying127 Tryd.underlying146 rfl rfl Tryd.underlying9 cellsE cellsS
  exact ⟨a, by simpa using World.var?_cell gTab1 hv 0⟩
theorem gTab2 : Tryd.prog.globalNamed "pub-weftwise/pub/image/vp8l.errInvalidCodeLengths" = some 5 := by kernel_rfl
theorem gTy2 : (Tryd.prog.globals[5]?).map (·.type) = some 61 := by kernel_rfl
theorem one2 : Rows.fnPrefixWrittenRow.laid.filter (fun x => x.1 == "pub-weftwise/pub/image/vp8l.errInvalidCodeLengths") = [("pub-weftwise/pub/image/vp8l.errInvalidCodeLengths", .iface "*errors.errorString" (.ptr (.agg [.lit (.string [118, 112, 56, 108, 58, 32, 105, 110, 118, 97, 108, 105, 100, 32, 99, 111, 100, 101, 32, 108, 101, 110, 103, 116, 104, 115])])))] := by kernel_rfl
/-- What the variable holds: an error, not nil. -/
theorem sent2 {W : World} (h : laidMetH Tryd.prog Rows.fnPrefixWrittenRow.laid W) : ∃ a : Addr, W.cell? ⟨5, 0, none⟩ = some (.iface 127 (.pointer (some a))) := by
  have h1 := h.filter (fun x => x.1 == "pub-weftwise/pub/image/vp8l.errInvalidCodeLengths")
  rw [one2, MakeChecks.laidMetH_plain _ _ _ (by kernel_rfl)] at h1
  obtain ⟨a, s, hv, _, _, _⟩ := laid_sentinel h1 gTab2 gTy2 Tryd.underlying61 rowE Tryd.underlying127 Tryd.underlying146 rfl rfl Tryd.underlying9 cellsE cellsS
  exact ⟨a, by simpa using World.var?_cell gTab2 hv 0⟩
theorem gTab3 : Tryd.prog.globalNamed "pub-weftwise/pub/image/vp8l.errInvalidHuffmanTree" = some 2 := by kernel_rfl
theorem gTy3 : (Tryd.prog.globals[2]?).map (·.type) = some 61 := by kernel_rfl
theorem one3 : Rows.fnPrefixWrittenRow.laid.filter (fun x => x.1 == "pub-weftwise/pub/image/vp8l.errInvalidHuffmanTree") = [("pub-weftwise/pub/image/vp8l.errInvalidHuffmanTree", .iface "*errors.errorString" (.ptr (.agg [.lit (.string [118, 112, 56, 108, 58, 32, 105, 110, 118, 97, 108, 105, 100, 32, 72, 117, 102, 102, 109, 97, 110, 32, 116, 114, 101, 101])])))] := by kernel_rfl
/-- What the variable holds: an error, not nil. -/
theorem sent3 {W : World} (h : laidMetH Tryd.prog Rows.fnPrefixWrittenRow.laid W) : ∃ a : Addr, W.cell? ⟨2, 0, none⟩ = some (.iface 127 (.pointer (some a))) := by
  have h1 := h.filter (fun x => x.1 == "pub-weftwise/pub/image/vp8l.errInvalidHuffmanTree")
  rw [one3, MakeChecks.laidMetH_plain _ _ _ (by kernel_rfl)] at h1
  obtain ⟨a, s, hv, _, _, _⟩ := laid_sentinel h1 gTab3 gTy3 Tryd.underlying61 rowE Tryd.underlying127 Tryd.underlying146 rfl rfl Tryd.underlying9 cellsE cellsS
  exact ⟨a, by simpa using World.var?_cell gTab3 hv 0⟩
theorem gTab4 : Tryd.prog.globalNamed "pub-weftwise/pub/image/vp8l.codeLengthCodeOrder" = some 3 := by kernel_rfl
theorem gTy4 : (Tryd.prog.globals[3]?).map (·.type) = some 121 := by kernel_rfl
theorem cT4 : Tryd.prog.cellsOf 121 = 19 := by kernel_rfl
theorem cE4 : Tryd.prog.cellsOf 5 = 1 := by kernel_rfl
theorem one4 : Rows.fnPrefixWrittenRow.laid.filter (fun x => x.1 == "pub-weftwise/pub/image/vp8l.codeLengthCodeOrder") = [("pub-weftwise/pub/image/vp8l.codeLengthCodeOrder", Lib.tabData .u8 [17, 18, 0, 1, 2, 3, 4, 5, 16, 6, 7, 8, 9, 10, 11, 12, 13, 14, 15])] := by kernel_rfl
/-- The table's cells, out of the row's list. -/
theorem tab4 {W : World} (h : laidMetH Tryd.prog Rows.fnPrefixWrittenRow.laid W) : Lib.TabIs Tryd.prog W "pub-weftwise/pub/image/vp8l.codeLengthCodeOrder" .u8 [17, 18, 0, 1, 2, 3, 4, 5, 16, 6, 7, 8, 9, 10, 11, 12, 13, 14, 15] := by
  have h1 := h.filter (fun x => x.1 == "pub-weftwise/pub/image/vp8l.codeLengthCodeOrder")
  rw [one4] at h1
  exact Lib.tabIs_of_head (rest := []) gTab4 gTy4 Tryd.underlying121 Tryd.underlying5 cE4 cT4 h1
theorem gTab5 : Tryd.prog.globalNamed "pub-weftwise/pub/image/vp8l.repeatBits" = some 6 := by kernel_rfl
theorem gTy5 : (Tryd.prog.globals[6]?).map (·.type) = some 126 := by kernel_rfl
theorem cT5 : Tryd.prog.cellsOf 126 = 3 := by kernel_rfl
theorem cE5 : Tryd.prog.cellsOf 5 = 1 := by kernel_rfl
theorem one5 : Rows.fnPrefixWrittenRow.laid.filter (fun x => x.1 == "pub-weftwise/pub/image/vp8l.repeatBits") = [("pub-weftwise/pub/image/vp8l.repeatBits", Lib.tabData .u8 [2, 3, 7])] := by kernel_rfl
/-- The table's cells, out of the row's list. -/
theorem tab5 {W : World} (h : laidMetH Tryd.prog Rows.fnPrefixWrittenRow.laid W) : Lib.TabIs Tryd.prog W "pub-weftwise/pub/image/vp8l.repeatBits" .u8 [2, 3, 7] := by
  have h1 := h.filter (fun x => x.1 == "pub-weftwise/pub/image/vp8l.repeatBits")
  rw [one5] at h1
  exact Lib.tabIs_of_head (rest := []) gTab5 gTy5 Tryd.underlying126 Tryd.underlying5 cE5 cT5 h1
theorem gTab6 : Tryd.prog.globalNamed "pub-weftwise/pub/image/vp8l.repeatOffsets" = some 7 := by kernel_rfl
theorem gTy6 : (Tryd.prog.globals[7]?).map (·.type) = some 126 := by kernel_rfl
theorem cT6 : Tryd.prog.cellsOf 126 = 3 := by kernel_rfl
theorem cE6 : Tryd.prog.cellsOf 5 = 1 := by kernel_rfl
theorem one6 : Rows.fnPrefixWrittenRow.laid.filter (fun x => x.1 == "pub-weftwise/pub/image/vp8l.repeatOffsets") = [("pub-weftwise/pub/image/vp8l.repeatOffsets", Lib.tabData .u8 [3, 3, 11])] := by kernel_rfl
/-- The table's cells, out of the row's list. -/
theorem tab6 {W : World} (h : laidMetH Tryd.prog Rows.fnPrefixWrittenRow.laid W) : Lib.TabIs Tryd.prog W "pub-weftwise/pub/image/vp8l.repeatOffsets" .u8 [3, 3, 11] := by
  have h1 := h.filter (fun x => x.1 == "pub-weftwise/pub/image/vp8l.repeatOffsets")
  rw [one6] at h1
  exact Lib.tabIs_of_head (rest := []) gTab6 gTy6 Tryd.underlying126 Tryd.underlying5 cE6 cT6 h1
theorem gTab7 : Tryd.prog.globalNamed "pub-weftwise/pub/image/vp8l.reverseBits" = some 4 := by kernel_rfl
theorem gTy7 : (Tryd.prog.globals[4]?).map (·.type) = some 123 := by kernel_rfl
theorem cT7 : Tryd.prog.cellsOf 123 = 256 := by kernel_rfl
theorem cE7 : Tryd.prog.cellsOf 5 = 1 := by kernel_rfl
theorem one7 : Rows.fnPrefixWrittenRow.laid.filter (fun x => x.1 == "pub-weftwise/pub/image/vp8l.reverseBits") = [("pub-weftwise/pub/image/vp8l.reverseBits", Lib.tabData .u8 [0, 128, 64, 192, 32, 160, 96, 224, 16, 144, 80, 208, 48, 176, 112, 240, 8, 136, 72, 200, 40, 168, 104, 232, 24, 152, 88, 216, 56, 184, 120, 248, 4, 132, 68, 196, 36, 164, 100, 228, 20, 148, 84, 212, 52, 180, 116, 244, 12, 140, 76, 204, 44, 172, 108, 236, 28, 156, 92, 220, 60, 188, 124, 252, 2, 130, 66, 194, 34, 162, 98, 226, 18, 146, 82, 210, 50, 178, 114, 242, 10, 138, 74, 202, 42, 170, 106, 234, 26, 154, 90, 218, 58, 186, 122, 250, 6, 134, 70, 198, 38, 166, 102, 230, 22, 150, 86, 214, 54, 182, 118, 246, 14, 142, 78, 206, 46, 174, 110, 238, 30, 158, 94, 222, 62, 190, 126, 254, 1, 129, 65, 193, 33, 161, 97, 225, 17, 145, 81, 209, 49, 177, 113, 241, 9, 137, 73, 201, 41, 169, 105, 233, 25, 153, 89, 217, 57, 185, 121, 249, 5, 133, 69, 197, 37, 165, 101, 229, 21, 149, 85, 213, 53, 181, 117, 245, 13, 141, 77, 205, 45, 173, 109, 237, 29, 157, 93, 221, 61, 189, 125, 253, 3, 131, 67, 195, 35, 163, 99, 227, 19, 147, 83, 211, 51, 179, 115, 243, 11, 139, 75, 203, 43, 171, 107, 235, 27, 155, 91, 219, 59, 187, 123, 251, 7, 135, 71, 199, 39, 167, 103, 231, 23, 151, 87, 215, 55, 183, 119, 247, 15, 143, 79, 207, 47, 175, 111, 239, 31, 159, 95, 223, 63, 191, 127, 255])] := by kernel_rfl
/-- The table's cells, out of the row's list. -/
theorem tab7 {W : World} (h : laidMetH Tryd.prog Rows.fnPrefixWrittenRow.laid W) : Lib.TabIs Tryd.prog W "pub-weftwise/pub/image/vp8l.reverseBits" .u8 [0, 128, 64, 192, 32, 160, 96, 224, 16, 144, 80, 208, 48, 176, 112, 240, 8, 136, 72, 200, 40, 168, 104, 232, 24, 152, 88, 216, 56, 184, 120, 248, 4, 132, 68, 196, 36, 164, 100, 228, 20, 148, 84, 212, 52, 180, 116, 244, 12, 140, 76, 204, 44, 172, 108, 236, 28, 156, 92, 220, 60, 188, 124, 252, 2, 130, 66, 194, 34, 162, 98, 226, 18, 146, 82, 210, 50, 178, 114, 242, 10, 138, 74, 202, 42, 170, 106, 234, 26, 154, 90, 218, 58, 186, 122, 250, 6, 134, 70, 198, 38, 166, 102, 230, 22, 150, 86, 214, 54, 182, 118, 246, 14, 142, 78, 206, 46, 174, 110, 238, 30, 158, 94, 222, 62, 190, 126, 254, 1, 129, 65, 193, 33, 161, 97, 225, 17, 145, 81, 209, 49, 177, 113, 241, 9, 137, 73, 201, 41, 169, 105, 233, 25, 153, 89, 217, 57, 185, 121, 249, 5, 133, 69, 197, 37, 165, 101, 229, 21, 149, 85, 213, 53, 181, 117, 245, 13, 141, 77, 205, 45, 173, 109, 237, 29, 157, 93, 221, 61, 189, 125, 253, 3, 131, 67, 195, 35, 163, 99, 227, 19, 147, 83, 211, 51, 179, 115, 243, 11, 139, 75, 203, 43, 171, 107, 235, 27, 155, 91, 219, 59, 187, 123, 251, 7, 135, 71, 199, 39, 167, 103, 231, 23, 151, 87, 215, 55, 183, 119, 247, 15, 143, 79, 207, 47, 175, 111, 239, 31, 159, 95, 223, 63, 191, 127, 255] := by
  have h1 := h.filter (fun x => x.1 == "pub-weftwise/pub/image/vp8l.reverseBits")
  rw [one7] at h1
  exact Lib.tabIs_of_head (rest := []) gTab7 gTy7 Tryd.underlying123 Tryd.underlying5 cE7 cT7 h1

/-- What the walk is told of a slice of integers that came in. -/
def IsRow (k : IntKind) (w : World) (a : Option Addr) (len cap : Nat) (zs : List Int) : Prop :=
  (a = none ∧ len = 0 ∧ cap = 0 ∧ zs = []) ∨
  ∃ x, a = some x ∧ len ≤ cap ∧ cap ≤ maxLen ∧ zs.length = cap ∧ (∀ i, i < zs.length → w.cell? (x.add i) = some (.int k (zs.getD i 0))) ∧ ∀ n ∈ zs, (Lit.int k n).wf = true

set_option maxRecDepth 100000 in
/-- What the walk gives, for every argument and every world that holds the tables. -/
theorem contract (H : Type) (enc : TypeId × Value → H) (W : World) (base : Nat) (args : Array Value) (ds gs : List (DataW H)) (before : List MemPlace)
    (hval0 : ∀ (j : Nat) t v, Tryd.f8.params[j]? = some t → args[j]? = some v → Value.okWide Tryd.prog W .any base t v)
    (hW : DataW.Whole enc Tryd.prog Tryd.f8.params.toList Rows.fnPrefixWrittenSpec.vars false W args.toList ds gs before) (hL : laidMetH Tryd.prog Rows.fnPrefixWrittenRow.laid W) :
    Calls Tryd.prog 8 args W fun e W' => ∃ v, e = .returned v ∧ Rows.fnPrefixWrittenSpec.post enc Tryd.prog Tryd.f8 false true false false W args v W' := by
  have hval : ∀ (j : Nat) t v, Tryd.f8.params[j]? = some t → args[j]? = some v → Value.okWide Tryd.prog W .any base t v := hval0
  have hW' := hW
  obtain ⟨p, q, hA0, hV, rfl, hfz, hnd⟩ := hW
  have hA : DataW.TrodAll enc Tryd.prog W 0 (fun _ => true) true Tryd.f8.params.toList args.toList ds p := hA0
  rw [Tryd.params8] at hA hval
  obtain ⟨v0, vs0, d0, ds0, p0, q0, hargs, rfl, rfl, h0, r0⟩ := trodAll_cons hA
  obtain ⟨v1, vs1, d1, ds1, p1, q1, rfl, rfl, rfl, h1, r1⟩ := trodAll_cons r0
  obtain ⟨v2, vs2, d2, ds2, p2, q2, rfl, rfl, rfl, h2, r2⟩ := trodAll_cons r1
  obtain ⟨rfl, rfl, rfl⟩ := trodAll_nil r2
  obtain rfl : args = #[v0, v1, v2] := by cases args; simp_all
  obtain ⟨rfl, rfl⟩ := trodVars_none hV
  obtain ⟨a0, rfl, rfl, rfl, w0⟩ := open_int Tryd.underlying3 (hval 0 3 v0 rfl rfl) h0
  obtain ⟨A1, len1, c1, rfl⟩ := okWide_slice Tryd.underlying23 (hval 1 23 v1 rfl rfl)
  have k1 := h1
  have lt1 : ∀ x ∈ p1, x.block < W.heap.size := by obtain ⟨m, hm⟩ := k1; exact DataW.trod_lt m _ _ _ hm
  obtain ⟨z1, y1⟩ : ∃ zs, IsRow .i64 W A1 len1 c1 zs := by
    obtain ⟨fuel, hf⟩ := h1
    rcases open_ints Tryd.underlying23 Tryd.underlying3 (by kernel_rfl) hf with ⟨hcs, _⟩ | ⟨x, l, c, zs, hcs, _, hl, hm, hz, _, hcell, hwz⟩
    · simp [Value.cells] at hcs
      obtain ⟨rfl, rfl, rfl⟩ := hcs
      exact ⟨[], .inl ⟨rfl, rfl, rfl, rfl⟩⟩
    · simp [Value.cells] at hcs
      obtain ⟨rfl, rfl, rfl⟩ := hcs
      exact ⟨zs, .inr ⟨_, rfl, hl, hm, by simpa using hz, hcell, hwz⟩⟩
  obtain ⟨l1, hl1, hr1, hw1, hm1⟩ := row_rd y1
  subst hl1
  obtain ⟨A2, len2, c2, rfl⟩ := okWide_slice Tryd.underlying22 (hval 2 22 v2 rfl rfl)
  have k2 := h2
  have lt2 : ∀ x ∈ p2, x.block < W.heap.size := by obtain ⟨m, hm⟩ := k2; exact DataW.trod_lt m _ _ _ hm
  obtain ⟨z2, y2⟩ : ∃ zs, IsRow .u8 W A2 len2 c2 zs := by
    obtain ⟨fuel, hf⟩ := h2
    rcases open_ints Tryd.underlying22 Tryd.underlying5 (by kernel_rfl) hf with ⟨hcs, _⟩ | ⟨x, l, c, zs, hcs, _, hl, hm, hz, _, hcell, hwz⟩
    · simp [Value.cells] at hcs
      obtain ⟨rfl, rfl, rfl⟩ := hcs
      exact ⟨[], .inl ⟨rfl, rfl, rfl, rfl⟩⟩
    · simp [Value.cells] at hcs
      obtain ⟨rfl, rfl, rfl⟩ := hcs
      exact ⟨zs, .inr ⟨_, rfl, hl, hm, by simpa using hz, hcell, hwz⟩⟩
  obtain ⟨l2, hl2, hr2, hw2, hm2⟩ := row_rd y2
  subst hl2
  have T4 := fun k hk => (tab4 hL).cell gTab4 k hk
  have T5 := fun k hk => (tab5 hL).cell gTab5 k hk
  have T6 := fun k hk => (tab6 hL).cell gTab6 k hk
  have T7 := fun k hk => (tab7 hL).cell gTab7 k hk
  clear hA0 hval0
  have walk : Calls Tryd.prog 8 #[.int .i64 a0, .slice A1 l1.length c1, .slice A2 l2.length c2] W fun e w' => e = .returned (.bool true) ∧ Below W.heap.size W w' := by
    obtain ⟨ae, he⟩ := sent0 hL
    obtain ⟨au, hu⟩ := sent1 hL
    obtain ⟨ar, hr⟩ := sent3 hL
    have hrev : ∀ j, j < 256 → W.cell? ⟨_, j, none⟩ = some (.int .u8 ((revN j 8 : Nat) : Int)) := fun j hj => (T7 j (Nat.lt_of_lt_of_eq hj (by decide +kernel))).trans (congrArg (fun z => some (Value.int .u8 z)) (rev_tabP j hj))
    have hord : ∀ j, j < 19 → W.cell? ⟨_, j, none⟩ = some (.int .u8 ((ord.getD j 0 : Nat) : Int)) := fun j hj => (T4 j (Nat.lt_of_lt_of_eq hj (by decide +kernel))).trans (congrArg (fun z => some (Value.int .u8 z)) (ord_tabP j hj))
    have hbit : ∀ j, j < 3 → W.cell? ⟨_, j, none⟩ = some (.int .u8 (([2, 3, 7].getD j 0 : Nat) : Int)) := fun j hj => (T5 j (Nat.lt_of_lt_of_eq hj (by decide +kernel))).trans (congrArg (fun z => some (Value.int .u8 z)) (bit_tabP j hj))
    have hoff : ∀ j, j < 3 → W.cell? ⟨_, j, none⟩ = some (.int .u8 (([3, 3, 11].getD j 0 : Nat) : Int)) := fun j hj => (T6 j (Nat.lt_of_lt_of_eq hj (by decide +kernel))).trans (congrArg (fun z => some (Value.int .u8 z)) (off_tabP j hj))
    exact prefLaw_any A1 A2 c1 c2 a0 l1 l2 ar ae au W (fun x hx => Go.bounds_u8 (hw2 x hx)) hr1 hr2 hm1 hm2 ⟨hrev, hr⟩ ⟨he, hu⟩ ⟨hbit, hoff, hord⟩
  refine walk.mono fun e W' ⟨he, bel⟩ => ?_
  subst he
  exact ⟨_, rfl, _, _, _, [], _, [], hW', trodAll_mk1 (shut_bool Tryd.underlying4 _), (trodAll_cons_mk (shut_int Tryd.underlying3 w0) (trodAll_cons_mk (Below.trod laidOut (by kernel_rfl) (of_decide_eq_true (by kernel_rfl)) k1 bel lt1) (trodAll_cons_mk (Below.trod laidOut (by kernel_rfl) (of_decide_eq_true (by kernel_rfl)) k2 bel lt2) trodAll_mk0))), rfl, bel.frame _, fun h => by cases h⟩

/-- A world for the witness: the one that the door's own run leaves. -/
noncomputable def laidWorld (os : Os) : World := World.doorLaid Tryd.prog 105 os
theorem laid_met (os : Os) : laidMet Tryd.prog Rows.fnPrefixWrittenRow.laid ((laidWorld os).forCall (fun _ _ => 0) ⟨#[], #[.int .i64 0, .slice none 0 0, .slice none 0 0], []⟩).memory :=
  laidMet_of_run' 8 (by kernel_rfl) (by kernel_rfl)
theorem reads (os : Os) {H : Type} (enc : TypeId × Value → H) : ∃ places, DataW.whole enc Tryd.prog ((laidWorld os).forCall (fun _ _ => 0) ⟨#[], #[.int .i64 0, .slice none 0 0, .slice none 0 0], []⟩).memory Tryd.f8.params.toList Rows.fnPrefixWrittenSpec.vars false (#[.int .i64 0, .slice none 0 0, .slice none 0 0] : Array Value).toList 8 = some ([.lit (.int .i64 0), .nil, .nil], [], places) :=
  ⟨[], by kernel_rfl⟩
set_option maxRecDepth 100000 in
theorem lifted (os : Os) (started : os.Started) (H : Type) (enc : TypeId × Value → H) (F : Stop.Interp) :
    ReturnsInHanded {} Tryd.checked os 8 .any ((OpenSpec.ofChange Rows.fnPrefixWrittenSpec).preRow enc Tryd.prog Tryd.f8 Rows.fnPrefixWrittenRow.domain false Rows.fnPrefixWrittenRow.laid) (((OpenSpec.ofChange Rows.fnPrefixWrittenSpec).at F).post enc Tryd.prog Tryd.f8 false true false false) := by
  obtain ⟨places, hx⟩ := reads os enc
  refine returnsInHanded_of_row (C := Tryd.checked) (s := OpenSpec.ofChange Rows.fnPrefixWrittenSpec) own started (by kernel_rfl) Tryd.func8
    (witness_row_atRef (enc := enc) (C := Tryd.checked) false (laidWorld os) #[.int .i64 0, .slice none 0 0, .slice none 0 0] rfl (by kernel_rfl) (by kernel_rfl) (by kernel_rfl)
      (OpenSpec.preRow_of_cond 8 hx (by kernel_rfl) (fun k hk => by cases hk) (by kernel_rfl) (laid_met os))) ?_
  intro W base args ds gs before hval hW _ _ _ hL _ _
  exact contract H enc W base args ds gs before hval hW hL
theorem said : Rows.FnPrefixWrittenSaid :=
  OpenClaim.holds_of_cond 8 Tryd.f8 rfl rfl rfl rfl rfl rfl rfl ⟨rfl, rfl, rfl, rfl, rfl⟩ rfl rfl rfl rfl rfl (by kernel_rfl) Tryd.func8 (by kernel_rfl)
    (of_decide_eq_true (by kernel_rfl)) (by unfold Func.isWrapper; first | (rw [if_pos (by decide +kernel)]; kernel_rfl) | (rw [if_neg (by decide +kernel)]; exact ⟨rfl, rfl⟩))
    (fun os started H enc _ F => by rw [OpenClaim.pre_eq_preRow]; exact lifted os started H enc F)
/-- No parameter wants a stand-in; the program's own looks are the card's. -/
theorem plain (f : FuncId) (fn : Func) (hf : Tryd.pinned.checked.prog.funcNamed "pub-weftwise/laws.FnPrefixWritten" = some f) (hfn : Tryd.pinned.checked.prog.funcs[f]? = some fn) :
    true = Tryd.pinned.checked.prog.looks [] ∧ ∀ (j : Nat) t, fn.params[j]? = some t → Tryd.pinned.checked.prog.wantsStandIn t = false := by
  obtain rfl : f = 8 := Option.some.inj ((show Tryd.prog.funcNamed "pub-weftwise/laws.FnPrefixWritten" = some 8 by kernel_rfl).symm.trans hf) |>.symm
  obtain rfl : fn = Tryd.f8 := (Option.some.inj (Tryd.func8.symm.trans hfn)).symm
  refine ⟨by kernel_rfl, fun j t ht => ?_⟩
  rw [Tryd.params8] at ht
  have hm : t ∈ #[3, 23, 22] := Array.mem_of_getElem? ht
  have hc : t = 3 ∨ t = 23 ∨ t = 22 := by simpa using hm
  rcases hc with rfl | rfl | rfl
  · exact (show Tryd.prog.wantsStandIn 3 = false by kernel_rfl)
  · exact (show Tryd.prog.wantsStandIn 23 = false by kernel_rfl)
  · exact (show Tryd.prog.wantsStandIn 22 = false by kernel_rfl)
/-- The card. -/
theorem proved : Rows.FnPrefixWrittenCardSaid :=
  Claim7.holds_tied_plain_at .later [] _ _ _ _ said (fun _ h => by cases h) (by kernel_rfl) (fun _ h => by cases h) fnPrefixWritten_row_tie rfl ⟨rfl, rfl⟩ (by kernel_rfl) rfl plain (by kernel_rfl)
#print axioms proved
end Go.Proofs.YtpiapfahcoopbaaDoor.fnPrefixWritten
