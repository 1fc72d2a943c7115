/- The law FnRiffReads returns true at every input: what steps tell of a file is what the reference tells, for all bytes, cuts and steps where no reading of the format is open; where the listed errors hold what their initialisers lay. The arguments read behind the call as they read before. -/
import Derived.Test.YthkpoidnhgcjhaaDoorCards
import Derived.Test.YthkpoidnhgcjhaaDoorTie
import Derived.WalkKit
import Derived.ProofKit
import Derived.OpenShut
import Derived.ShutString
import Derived.ChangeOld
import Derived.Below
import Derived.Deep.DeepHandedRow
import Derived.Lib.LaidTab
import Derived.Deep.Grids
import Derived.LaidSub
import Derived.Stop.LaidErr
import Derived.MakeChecks
import Derived.Stop.LaidTwo
import Derived.LaidMore
import Derived.Deep.DeepWitnessRowRef
import Derived.Test.YthkpoidnhgcjhaaDoorRsG
namespace Go.Proofs.YthkpoidnhgcjhaaDoor.fnRiffReads
open Go.ChangeShapes Go.WideShapes Go.ChangeAt Go.RowKit
set_option linter.unusedVariables false
set_option linter.unusedSimpArgs false
set_option maxHeartbeats 1000000

theorem own : ownKnob Tryd.prog.godebug = none := by kernel_rfl
theorem laidOut : laidOutB Tryd.prog = true := by kernel_rfl
theorem star : "*errors.errorString" = "*" ++ "errors.errorString" := by decide
theorem rowE (u : TypeId) (h : Tryd.prog.typeName? 3 u = some "*errors.errorString") : u = 122 :=
  typeName_ptr_named (nm := "errors.errorString") (by rw [← star]; kernel_rfl) (by kernel_rfl) (by decide) u (by rw [← star]; exact h)
theorem cellsE : Tryd.prog.cellsOf 138 = 1 := by kernel_rfl
theorem cellsS : Tryd.prog.cellsOf 9 = 1 := by kernel_rfl
theorem gTab0 : Tryd.prog.globalNamed "io.ErrShortWrite" = some 9 := by kernel_rfl
theorem gTy0 : (Tryd.prog.globals[9]?).map (·.type) = some 57 := by kernel_rfl
theorem one0 : Rows.fnRiffReadsRow.laid.filter (fun x => x.1 == "io.ErrShortWrite") = [("io.ErrShortWrite", .iface "*errors.errorString" (.ptr (.agg [.lit (.string [115, 104, 111, 114, 116, 32, 119, 114, 105, 116, 101])])))] := by kernel_rfl
/-- What the variable holds: an error, not nil. -/
theorem sent0 {W : World} (h : laidMetH Tryd.prog Rows.fnRiffReadsRow.laid W) : ∃ a : Addr, W.cell? ⟨9, 0, none⟩ = some (.iface 122 (.pointer (some a))) := by
  have h1 := h.filter (fun x => x.1 == "io.ErrShortWrite")
  rw [one0, MakeChecks.laidMetH_plain _ _ _ (by kernel_rfl)] at h1
  obtain ⟨a, s, hv, _, _, _⟩ := laid_sentinel h1 gTab0 gTy0 Tryd.underlying57 rowE Tryd.underlying122 Tryd.underlying138 rfl rfl Tryd.underlying9 cellsE cellsS
  exact ⟨a, by simpa using World.var?_cell gTab0 hv 0⟩
theorem gTab1 : Tryd.prog.globalNamed "io.errInvalidWrite" = some 8 := by kernel_rfl
theorem gTy1 : (Tryd.prog.globals[8]?).map (·.type) = some 57 := by kernel_rfl
theorem one1 : Rows.fnRiffReadsRow.laid.filter (fun x => x.1 == "io.errInvalidWrite") = [("io.errInvalidWrite", .iface "*errors.errorString" (.ptr (.agg [.lit (.string [105, 110, 118, 97, 108, 105, 100, 32, 119, 114, 105, 116, 101, 32, 114, 101, 115, 117, 108, 116])])))] := by kernel_rfl
/-- What the variable holds: an error, not nil. -/
theorem sent1 {W : World} (h : laidMetH Tryd.prog Rows.fnRiffReadsRow.laid W) : ∃ a : Addr, W.cell? ⟨8, 0, none⟩ = some (.iface 122 (.pointer (some a))) := by
  have h1 := h.filter (fun x => x.1 == "io.errInvalidWrite")
  rw [one1, MakeChecks.laidMetH_plain _ _ _ (by kernel_rfl)] at h1
  obtain ⟨a, s, hv, _, _, _⟩ := laid_sentinel h1 gTab1 gTy1 Tryd.underlying57 rowE Tryd.underlying122 Tryd.underlying138 rfl rfl Tryd.underlying9 cellsE cellsS
  exact ⟨a, by simpa using World.var?_cell gTab1 hv 0⟩
theorem gTab2 : Tryd.prog.globalNamed "io.ErrShortBuffer" = some 7 := by kernel_rfl
theorem gTy2 : (Tryd.prog.globals[7]?).map (·.type) = some 57 := by kernel_rfl
theorem one2 : Rows.fnRiffReadsRow.laid.filter (fun x => x.1 == "io.ErrShortBuffer") = [("io.ErrShortBuffer", .iface "*errors.errorString" (.ptr (.agg [.lit (.string [115, 104, 111, 114, 116, 32, 98, 117, 102, 102, 101, 114])])))] := by kernel_rfl
/-- What the variable holds: an error, not nil. -/
theorem sent2 {W : World} (h : laidMetH Tryd.prog Rows.fnRiffReadsRow.laid W) : ∃ a : Addr, W.cell? ⟨7, 0, none⟩ = some (.iface 122 (.pointer (some a))) := by
  have h1 := h.filter (fun x => x.1 == "io.ErrShortBuffer")
  rw [one2, MakeChecks.laidMetH_plain _ _ _ (by kernel_rfl)] at h1
  obtain ⟨a, s, hv, _, _, _⟩ := laid_sentinel h1 gTab2 gTy2 Tryd.underlying57 rowE Tryd.underlying122 Tryd.underlying138 rfl rfl Tryd.underlying9 cellsE cellsS
  exact ⟨a, by simpa using World.var?_cell gTab2 hv 0⟩
theorem gTab3 : Tryd.prog.globalNamed "io.EOF" = some 0 := by kernel_rfl
theorem gTy3 : (Tryd.prog.globals[0]?).map (·.type) = some 57 := by kernel_rfl
theorem one3 : Rows.fnRiffReadsRow.laid.filter (fun x => x.1 == "io.EOF") = [("io.EOF", .iface "*errors.errorString" (.ptr (.agg [.lit (.string [69, 79, 70])])))] := by kernel_rfl
/-- What the variable holds: an error, not nil. -/
theorem sent3 {W : World} (h : laidMetH Tryd.prog Rows.fnRiffReadsRow.laid W) : ∃ a : Addr, W.cell? ⟨0, 0, none⟩ = some (.iface 122 (.pointer (some a))) := by
  have h1 := h.filter (fun x => x.1 == "io.EOF")
  rw [one3, MakeChecks.laidMetH_plain _ _ _ (by kernel_rfl)] at h1
  obtain ⟨a, s, hv, _, _, _⟩ := laid_sentinel h1 gTab3 gTy3 Tryd.underlying57 rowE Tryd.underlying122 Tryd.underlying138 rfl rfl Tryd.underlying9 cellsE cellsS
  exact ⟨a, by simpa using World.var?_cell gTab3 hv 0⟩
theorem gTab4 : Tryd.prog.globalNamed "io.ErrUnexpectedEOF" = some 1 := by kernel_rfl
theorem gTy4 : (Tryd.prog.globals[1]?).map (·.type) = some 57 := by kernel_rfl
theorem one4 : Rows.fnRiffReadsRow.laid.filter (fun x => x.1 == "io.ErrUnexpectedEOF") = [("io.ErrUnexpectedEOF", .iface "*errors.errorString" (.ptr (.agg [.lit (.string [117, 110, 101, 120, 112, 101, 99, 116, 101, 100, 32, 69, 79, 70])])))] := by kernel_rfl
/-- What the variable holds: an error, not nil. -/
theorem sent4 {W : World} (h : laidMetH Tryd.prog Rows.fnRiffReadsRow.laid W) : ∃ a : Addr, W.cell? ⟨1, 0, none⟩ = some (.iface 122 (.pointer (some a))) := by
  have h1 := h.filter (fun x => x.1 == "io.ErrUnexpectedEOF")
  rw [one4, MakeChecks.laidMetH_plain _ _ _ (by kernel_rfl)] at h1
  obtain ⟨a, s, hv, _, _, _⟩ := laid_sentinel h1 gTab4 gTy4 Tryd.underlying57 rowE Tryd.underlying122 Tryd.underlying138 rfl rfl Tryd.underlying9 cellsE cellsS
  exact ⟨a, by simpa using World.var?_cell gTab4 hv 0⟩
theorem gTab5 : Tryd.prog.globalNamed "pub-weftwise/pub/image/riff.errMissingPaddingByte" = some 5 := by kernel_rfl
theorem gTy5 : (Tryd.prog.globals[5]?).map (·.type) = some 57 := by kernel_rfl
theorem one5 : Rows.fnRiffReadsRow.laid.filter (fun x => x.1 == "pub-weftwise/pub/image/riff.errMissingPaddingByte") = [("pub-weftwise/pub/image/riff.errMissingPaddingByte", .iface "*errors.errorString" (.ptr (.agg [.lit (.string [114, 105, 102, 102, 58, 32, 109, 105, 115, 115, 105, 110, 103, 32, 112, 97, 100, 100, 105, 110, 103, 32, 98, 121, 116, 101])])))] := by kernel_rfl
/-- What the variable holds: an error, not nil. -/
theorem sent5 {W : World} (h : laidMetH Tryd.prog Rows.fnRiffReadsRow.laid W) : ∃ a : Addr, W.cell? ⟨5, 0, none⟩ = some (.iface 122 (.pointer (some a))) := by
  have h1 := h.filter (fun x => x.1 == "pub-weftwise/pub/image/riff.errMissingPaddingByte")
  rw [one5, MakeChecks.laidMetH_plain _ _ _ (by kernel_rfl)] at h1
  obtain ⟨a, s, hv, _, _, _⟩ := laid_sentinel h1 gTab5 gTy5 Tryd.underlying57 rowE Tryd.underlying122 Tryd.underlying138 rfl rfl Tryd.underlying9 cellsE cellsS
  exact ⟨a, by simpa using World.var?_cell gTab5 hv 0⟩
theorem gTab6 : Tryd.prog.globalNamed "pub-weftwise/pub/image/riff.errMissingRIFFChunkHeader" = some 2 := by kernel_rfl
theorem gTy6 : (Tryd.prog.globals[2]?).map (·.type) = some 57 := by kernel_rfl
theorem one6 : Rows.fnRiffReadsRow.laid.filter (fun x => x.1 == "pub-weftwise/pub/image/riff.errMissingRIFFChunkHeader") = [("pub-weftwise/pub/image/riff.errMissingRIFFChunkHeader", .iface "*errors.errorString" (.ptr (.agg [.lit (.string [114, 105, 102, 102, 58, 32, 109, 105, 115, 115, 105, 110, 103, 32, 82, 73, 70, 70, 32, 99, 104, 117, 110, 107, 32, 104, 101, 97, 100, 101, 114])])))] := by kernel_rfl
/-- What the variable holds: an error, not nil. -/
theorem sent6 {W : World} (h : laidMetH Tryd.prog Rows.fnRiffReadsRow.laid W) : ∃ a : Addr, W.cell? ⟨2, 0, none⟩ = some (.iface 122 (.pointer (some a))) := by
  have h1 := h.filter (fun x => x.1 == "pub-weftwise/pub/image/riff.errMissingRIFFChunkHeader")
  rw [one6, MakeChecks.laidMetH_plain _ _ _ (by kernel_rfl)] at h1
  obtain ⟨a, s, hv, _, _, _⟩ := laid_sentinel h1 gTab6 gTy6 Tryd.underlying57 rowE Tryd.underlying122 Tryd.underlying138 rfl rfl Tryd.underlying9 cellsE cellsS
  exact ⟨a, by simpa using World.var?_cell gTab6 hv 0⟩
theorem gTab7 : Tryd.prog.globalNamed "pub-weftwise/pub/image/riff.errListSubchunkTooLong" = some 4 := by kernel_rfl
theorem gTy7 : (Tryd.prog.globals[4]?).map (·.type) = some 57 := by kernel_rfl
theorem one7 : Rows.fnRiffReadsRow.laid.filter (fun x => x.1 == "pub-weftwise/pub/image/riff.errListSubchunkTooLong") = [("pub-weftwise/pub/image/riff.errListSubchunkTooLong", .iface "*errors.errorString" (.ptr (.agg [.lit (.string [114, 105, 102, 102, 58, 32, 108, 105, 115, 116, 32, 115, 117, 98, 99, 104, 117, 110, 107, 32, 116, 111, 111, 32, 108, 111, 110, 103])])))] := by kernel_rfl
/-- What the variable holds: an error, not nil. -/
theorem sent7 {W : World} (h : laidMetH Tryd.prog Rows.fnRiffReadsRow.laid W) : ∃ a : Addr, W.cell? ⟨4, 0, none⟩ = some (.iface 122 (.pointer (some a))) := by
  have h1 := h.filter (fun x => x.1 == "pub-weftwise/pub/image/riff.errListSubchunkTooLong")
  rw [one7, MakeChecks.laidMetH_plain _ _ _ (by kernel_rfl)] at h1
  obtain ⟨a, s, hv, _, _, _⟩ := laid_sentinel h1 gTab7 gTy7 Tryd.underlying57 rowE Tryd.underlying122 Tryd.underlying138 rfl rfl Tryd.underlying9 cellsE cellsS
  exact ⟨a, by simpa using World.var?_cell gTab7 hv 0⟩
theorem gTab8 : Tryd.prog.globalNamed "pub-weftwise/pub/image/riff.errShortChunkData" = some 3 := by kernel_rfl
theorem gTy8 : (Tryd.prog.globals[3]?).map (·.type) = some 57 := by kernel_rfl
theorem one8 : Rows.fnRiffReadsRow.laid.filter (fun x => x.1 == "pub-weftwise/pub/image/riff.errShortChunkData") = [("pub-weftwise/pub/image/riff.errShortChunkData", .iface "*errors.errorString" (.ptr (.agg [.lit (.string [114, 105, 102, 102, 58, 32, 115, 104, 111, 114, 116, 32, 99, 104, 117, 110, 107, 32, 100, 97, 116, 97])])))] := by kernel_rfl
/-- What the variable holds: an error, not nil. -/
theorem sent8 {W : World} (h : laidMetH Tryd.prog Rows.fnRiffReadsRow.laid W) : ∃ a : Addr, W.cell? ⟨3, 0, none⟩ = some (.iface 122 (.pointer (some a))) := by
  have h1 := h.filter (fun x => x.1 == "pub-weftwise/pub/image/riff.errShortChunkData")
  rw [one8, MakeChecks.laidMetH_plain _ _ _ (by kernel_rfl)] at h1
  obtain ⟨a, s, hv, _, _, _⟩ := laid_sentinel h1 gTab8 gTy8 Tryd.underlying57 rowE Tryd.underlying122 Tryd.underlying138 rfl rfl Tryd.underlying9 cellsE cellsS
  exact ⟨a, by simpa using World.var?_cell gTab8 hv 0⟩
theorem gTab9 : Tryd.prog.globalNamed "pub-weftwise/pub/image/riff.errShortChunkHeader" = some 6 := by kernel_rfl
theorem gTy9 : (Tryd.prog.globals[6]?).map (·.type) = some 57 := by kernel_rfl
theorem one9 : Rows.fnRiffReadsRow.laid.filter (fun x => x.1 == "pub-weftwise/pub/image/riff.errShortChunkHeader") = [("pub-weftwise/pub/image/riff.errShortChunkHeader", .iface "*errors.errorString" (.ptr (.agg [.lit (.string [114, 105, 102, 102, 58, 32, 115, 104, 111, 114, 116, 32, 99, 104, 117, 110, 107, 32, 104, 101, 97, 100, 101, 114])])))] := by kernel_rfl
/-- What the variable holds: an error, not nil. -/
theorem sent9 {W : World} (h : laidMetH Tryd.prog Rows.fnRiffReadsRow.laid W) : ∃ a : Addr, W.cell? ⟨6, 0, none⟩ = some (.iface 122 (.pointer (some a))) := by
  have h1 := h.filter (fun x => x.1 == "pub-weftwise/pub/image/riff.errShortChunkHeader")
  rw [one9, MakeChecks.laidMetH_plain _ _ _ (by kernel_rfl)] at h1
  obtain ⟨a, s, hv, _, _, _⟩ := laid_sentinel h1 gTab9 gTy9 Tryd.underlying57 rowE Tryd.underlying122 Tryd.underlying138 rfl rfl Tryd.underlying9 cellsE cellsS
  exact ⟨a, by simpa using World.var?_cell gTab9 hv 0⟩

theorem onep0 : Rows.fnRiffReadsRow.laid.filter (fun x => x.1 == "io.EOF" || x.1 == "io.ErrUnexpectedEOF") = [("io.EOF", .iface "*errors.errorString" (.ptr (.agg [.lit (.string [69, 79, 70])]))), ("io.ErrUnexpectedEOF", .iface "*errors.errorString" (.ptr (.agg [.lit (.string [117, 110, 101, 120, 112, 101, 99, 116, 101, 100, 32, 69, 79, 70])])))] := by kernel_rfl
/-- Two of the variables: errors, and two of them. -/
theorem pair0 {W : World} (h : laidMetH Tryd.prog Rows.fnRiffReadsRow.laid W) : ∃ a b : Addr, Sent W W.heap.size 0 a ∧ Sent W W.heap.size 1 b ∧ b ≠ a := by
  have h1 := h.filter (fun x => x.1 == "io.EOF" || x.1 == "io.ErrUnexpectedEOF")
  rw [onep0, MakeChecks.laidMetH_plain _ _ _ (by kernel_rfl)] at h1
  obtain ⟨a, b, s0, s1, c0, c1, t0, t1, hv0, hv1, _, _, _, _, _, _, hne, hb0, hb1⟩ := laid_sentinels2 h1 gTab3 gTy3 gTab4 gTy4 Tryd.underlying57 rowE Tryd.underlying122 Tryd.underlying138 rfl rfl Tryd.underlying9 cellsE cellsS
  have k0 : W.cell? ⟨0, 0, none⟩ = some (.iface 122 (.pointer (some a))) := by simpa using World.var?_cell gTab3 hv0 0
  have k1 : W.cell? ⟨1, 0, none⟩ = some (.iface 122 (.pointer (some b))) := by simpa using World.var?_cell gTab4 hv1 0
  exact ⟨a, b, ⟨k0, ⟨c0, t0, hb0⟩, (Array.getElem?_eq_some_iff.1 hb0).1, World.block_lt_of_cell? _ _ k0⟩, ⟨k1, ⟨c1, t1, hb1⟩, (Array.getElem?_eq_some_iff.1 hb1).1, World.block_lt_of_cell? _ _ k1⟩, fun e => hne e.symm⟩
theorem onep1 : Rows.fnRiffReadsRow.laid.filter (fun x => x.1 == "io.EOF" || x.1 == "pub-weftwise/pub/image/riff.errMissingRIFFChunkHeader") = [("io.EOF", .iface "*errors.errorString" (.ptr (.agg [.lit (.string [69, 79, 70])]))), ("pub-weftwise/pub/image/riff.errMissingRIFFChunkHeader", .iface "*errors.errorString" (.ptr (.agg [.lit (.string [114, 105, 102, 102, 58, 32, 109, 105, 115, 115, 105, 110, 103, 32, 82, 73, 70, 70, 32, 99, 104, 117, 110, 107, 32, 104, 101, 97, 100, 101, 114])])))] := by kernel_rfl
/-- Two of the variables: errors, and two of them. -/
theorem pair1 {W : World} (h : laidMetH Tryd.prog Rows.fnRiffReadsRow.laid W) : ∃ a b : Addr, Sent W W.heap.size 0 a ∧ Sent W W.heap.size 2 b ∧ b ≠ a := by
  have h1 := h.filter (fun x => x.1 == "io.EOF" || x.1 == "pub-weftwise/pub/image/riff.errMissingRIFFChunkHeader")
  rw [onep1, MakeChecks.laidMetH_plain _ _ _ (by kernel_rfl)] at h1
  obtain ⟨a, b, s0, s1, c0, c1, t0, t1, hv0, hv1, _, _, _, _, _, _, hne, hb0, hb1⟩ := laid_sentinels2 h1 gTab3 gTy3 gTab6 gTy6 Tryd.underlying57 rowE Tryd.underlying122 Tryd.underlying138 rfl rfl Tryd.underlying9 cellsE cellsS
  have k0 : W.cell? ⟨0, 0, none⟩ = some (.iface 122 (.pointer (some a))) := by simpa using World.var?_cell gTab3 hv0 0
  have k1 : W.cell? ⟨2, 0, none⟩ = some (.iface 122 (.pointer (some b))) := by simpa using World.var?_cell gTab6 hv1 0
  exact ⟨a, b, ⟨k0, ⟨c0, t0, hb0⟩, (Array.getElem?_eq_some_iff.1 hb0).1, World.block_lt_of_cell? _ _ k0⟩, ⟨k1, ⟨c1, t1, hb1⟩, (Array.getElem?_eq_some_iff.1 hb1).1, World.block_lt_of_cell? _ _ k1⟩, fun e => hne e.symm⟩
theorem onep2 : Rows.fnRiffReadsRow.laid.filter (fun x => x.1 == "io.EOF" || x.1 == "pub-weftwise/pub/image/riff.errShortChunkData") = [("io.EOF", .iface "*errors.errorString" (.ptr (.agg [.lit (.string [69, 79, 70])]))), ("pub-weftwise/pub/image/riff.errShortChunkData", .iface "*errors.errorString" (.ptr (.agg [.lit (.string [114, 105, 102, 102, 58, 32, 115, 104, 111, 114, 116, 32, 99, 104, 117, 110, 107, 32, 100, 97, 116, 97])])))] := by kernel_rfl
/-- Two of the variables: errors, and two of them. -/
theorem pair2 {W : World} (h : laidMetH Tryd.prog Rows.fnRiffReadsRow.laid W) : ∃ a b : Addr, Sent W W.heap.size 0 a ∧ Sent W W.heap.size 3 b ∧ b ≠ a := by
  have h1 := h.filter (fun x => x.1 == "io.EOF" || x.1 == "pub-weftwise/pub/image/riff.errShortChunkData")
  rw [onep2, MakeChecks.laidMetH_plain _ _ _ (by kernel_rfl)] at h1
  obtain ⟨a, b, s0, s1, c0, c1, t0, t1, hv0, hv1, _, _, _, _, _, _, hne, hb0, hb1⟩ := laid_sentinels2 h1 gTab3 gTy3 gTab8 gTy8 Tryd.underlying57 rowE Tryd.underlying122 Tryd.underlying138 rfl rfl Tryd.underlying9 cellsE cellsS
  have k0 : W.cell? ⟨0, 0, none⟩ = some (.iface 122 (.pointer (some a))) := by simpa using World.var?_cell gTab3 hv0 0
  have k1 : W.cell? ⟨3, 0, none⟩ = some (.iface 122 (.pointer (some b))) := by simpa using World.var?_cell gTab8 hv1 0
  exact ⟨a, b, ⟨k0, ⟨c0, t0, hb0⟩, (Array.getElem?_eq_some_iff.1 hb0).1, World.block_lt_of_cell? _ _ k0⟩, ⟨k1, ⟨c1, t1, hb1⟩, (Array.getElem?_eq_some_iff.1 hb1).1, World.block_lt_of_cell? _ _ k1⟩, fun e => hne e.symm⟩
theorem onep3 : Rows.fnRiffReadsRow.laid.filter (fun x => x.1 == "io.EOF" || x.1 == "pub-weftwise/pub/image/riff.errListSubchunkTooLong") = [("io.EOF", .iface "*errors.errorString" (.ptr (.agg [.lit (.string [69, 79, 70])]))), ("pub-weftwise/pub/image/riff.errListSubchunkTooLong", .iface "*errors.errorString" (.ptr (.agg [.lit (.string [114, 105, 102, 102, 58, 32, 108, 105, 115, 116, 32, 115, 117, 98, 99, 104, 117, 110, 107, 32, 116, 111, 111, 32, 108, 111, 110, 103])])))] := by kernel_rfl
/-- Two of the variables: errors, and two of them. -/
theorem pair3 {W : World} (h : laidMetH Tryd.prog Rows.fnRiffReadsRow.laid W) : ∃ a b : Addr, Sent W W.heap.size 0 a ∧ Sent W W.heap.size 4 b ∧ b ≠ a := by
  have h1 := h.filter (fun x => x.1 == "io.EOF" || x.1 == "pub-weftwise/pub/image/riff.errListSubchunkTooLong")
  rw [onep3, MakeChecks.laidMetH_plain _ _ _ (by kernel_rfl)] at h1
  obtain ⟨a, b, s0, s1, c0, c1, t0, t1, hv0, hv1, _, _, _, _, _, _, hne, hb0, hb1⟩ := laid_sentinels2 h1 gTab3 gTy3 gTab7 gTy7 Tryd.underlying57 rowE Tryd.underlying122 Tryd.underlying138 rfl rfl Tryd.underlying9 cellsE cellsS
  have k0 : W.cell? ⟨0, 0, none⟩ = some (.iface 122 (.pointer (some a))) := by simpa using World.var?_cell gTab3 hv0 0
  have k1 : W.cell? ⟨4, 0, none⟩ = some (.iface 122 (.pointer (some b))) := by simpa using World.var?_cell gTab7 hv1 0
  exact ⟨a, b, ⟨k0, ⟨c0, t0, hb0⟩, (Array.getElem?_eq_some_iff.1 hb0).1, World.block_lt_of_cell? _ _ k0⟩, ⟨k1, ⟨c1, t1, hb1⟩, (Array.getElem?_eq_some_iff.1 hb1).1, World.block_lt_of_cell? _ _ k1⟩, fun e => hne e.symm⟩
theorem onep4 : Rows.fnRiffReadsRow.laid.filter (fun x => x.1 == "io.EOF" || x.1 == "pub-weftwise/pub/image/riff.errMissingPaddingByte") = [("io.EOF", .iface "*errors.errorString" (.ptr (.agg [.lit (.string [69, 79, 70])]))), ("pub-weftwise/pub/image/riff.errMissingPaddingByte", .iface "*errors.errorString" (.ptr (.agg [.lit (.string [114, 105, 102, 102, 58, 32, 109, 105, 115, 115, 105, 110, 103, 32, 112, 97, 100, 100, 105, 110, 103, 32, 98, 121, 116, 101])])))] := by kernel_rfl
/-- Two of the variables: errors, and two of them. -/
theorem pair4 {W : World} (h : laidMetH Tryd.prog Rows.fnRiffReadsRow.laid W) : ∃ a b : Addr, Sent W W.heap.size 0 a ∧ Sent W W.heap.size 5 b ∧ b ≠ a := by
  have h1 := h.filter (fun x => x.1 == "io.EOF" || x.1 == "pub-weftwise/pub/image/riff.errMissingPaddingByte")
  rw [onep4, MakeChecks.laidMetH_plain _ _ _ (by kernel_rfl)] at h1
  obtain ⟨a, b, s0, s1, c0, c1, t0, t1, hv0, hv1, _, _, _, _, _, _, hne, hb0, hb1⟩ := laid_sentinels2 h1 gTab3 gTy3 gTab5 gTy5 Tryd.underlying57 rowE Tryd.underlying122 Tryd.underlying138 rfl rfl Tryd.underlying9 cellsE cellsS
  have k0 : W.cell? ⟨0, 0, none⟩ = some (.iface 122 (.pointer (some a))) := by simpa using World.var?_cell gTab3 hv0 0
  have k1 : W.cell? ⟨5, 0, none⟩ = some (.iface 122 (.pointer (some b))) := by simpa using World.var?_cell gTab5 hv1 0
  exact ⟨a, b, ⟨k0, ⟨c0, t0, hb0⟩, (Array.getElem?_eq_some_iff.1 hb0).1, World.block_lt_of_cell? _ _ k0⟩, ⟨k1, ⟨c1, t1, hb1⟩, (Array.getElem?_eq_some_iff.1 hb1).1, World.block_lt_of_cell? _ _ k1⟩, fun e => hne e.symm⟩
theorem onep5 : Rows.fnRiffReadsRow.laid.filter (fun x => x.1 == "io.EOF" || x.1 == "pub-weftwise/pub/image/riff.errShortChunkHeader") = [("io.EOF", .iface "*errors.errorString" (.ptr (.agg [.lit (.string [69, 79, 70])]))), ("pub-weftwise/pub/image/riff.errShortChunkHeader", .iface "*errors.errorString" (.ptr (.agg [.lit (.string [114, 105, 102, 102, 58, 32, 115, 104, 111, 114, 116, 32, 99, 104, 117, 110, 107, 32, 104, 101, 97, 100, 101, 114])])))] := by kernel_rfl
/-- Two of the variables: errors, and two of them. -/
theorem pair5 {W : World} (h : laidMetH Tryd.prog Rows.fnRiffReadsRow.laid W) : ∃ a b : Addr, Sent W W.heap.size 0 a ∧ Sent W W.heap.size 6 b ∧ b ≠ a := by
  have h1 := h.filter (fun x => x.1 == "io.EOF" || x.1 == "pub-weftwise/pub/image/riff.errShortChunkHeader")
  rw [onep5, MakeChecks.laidMetH_plain _ _ _ (by kernel_rfl)] at h1
  obtain ⟨a, b, s0, s1, c0, c1, t0, t1, hv0, hv1, _, _, _, _, _, _, hne, hb0, hb1⟩ := laid_sentinels2 h1 gTab3 gTy3 gTab9 gTy9 Tryd.underlying57 rowE Tryd.underlying122 Tryd.underlying138 rfl rfl Tryd.underlying9 cellsE cellsS
  have k0 : W.cell? ⟨0, 0, none⟩ = some (.iface 122 (.pointer (some a))) := by simpa using World.var?_cell gTab3 hv0 0
  have k1 : W.cell? ⟨6, 0, none⟩ = some (.iface 122 (.pointer (some b))) := by simpa using World.var?_cell gTab9 hv1 0
  exact ⟨a, b, ⟨k0, ⟨c0, t0, hb0⟩, (Array.getElem?_eq_some_iff.1 hb0).1, World.block_lt_of_cell? _ _ k0⟩, ⟨k1, ⟨c1, t1, hb1⟩, (Array.getElem?_eq_some_iff.1 hb1).1, World.block_lt_of_cell? _ _ k1⟩, fun e => hne e.symm⟩
theorem same {W : World} {a b : Addr} (h : Sent W W.heap.size 0 a) (h' : Sent W W.heap.size 0 b) : b = a := by
  have e := h.cell.symm.trans h'.cell
  injection e with e
  injection e with _ e
  injection e with e
  injection e with e
  exact e.symm
/-- All of the errors. -/
theorem errs {W : World} (h : laidMetH Tryd.prog Rows.fnRiffReadsRow.laid W) : ∃ ae au ar ad al ap ah, Errs W W.heap.size ae au ar ad al ap ah := by
  obtain ⟨e0, x0, s0, p0, n0⟩ := pair0 h
  obtain ⟨e1, x1, s1, p1, n1⟩ := pair1 h
  obtain ⟨e2, x2, s2, p2, n2⟩ := pair2 h
  obtain ⟨e3, x3, s3, p3, n3⟩ := pair3 h
  obtain ⟨e4, x4, s4, p4, n4⟩ := pair4 h
  obtain ⟨e5, x5, s5, p5, n5⟩ := pair5 h
  obtain rfl := same s0 s1
  obtain rfl := same s0 s2
  obtain rfl := same s0 s3
  obtain rfl := same s0 s4
  obtain rfl := same s0 s5
  exact ⟨_, x0, x1, x2, x3, x4, x5, ⟨s0, p0, p1, p2, p3, p4, p5, n0, n1, n2, n3, n4, n5⟩⟩

/-- What the walk is told of a slice of integers that came in. -/
def IsRow (k : IntKind) (w : World) (a : Option Addr) (len cap : Nat) (zs : List Int) : Prop :=
  (a = none ∧ len = 0 ∧ cap = 0 ∧ zs = []) ∨
  ∃ x, a = some x ∧ len ≤ cap ∧ cap ≤ maxLen ∧ zs.length = cap ∧ (∀ i, i < zs.length → w.cell? (x.add i) = some (.int k (zs.getD i 0))) ∧ ∀ n ∈ zs, (Lit.int k n).wf = true

set_option maxRecDepth 100000 in
/-- What the walk gives, for every argument and every world that holds the tables. -/
theorem contract (H : Type) (enc : TypeId × Value → H) (W : World) (base : Nat) (args : Array Value) (ds gs : List (DataW H)) (before : List MemPlace)
    (hval0 : ∀ (j : Nat) t v, Tryd.f5.params[j]? = some t → args[j]? = some v → Value.okWide Tryd.prog W .any base t v)
    (hW : DataW.Whole enc Tryd.prog Tryd.f5.params.toList Rows.fnRiffReadsSpec.vars false W args.toList ds gs before) (hL : laidMetH Tryd.prog Rows.fnRiffReadsRow.laid W) :
    Calls Tryd.prog 5 args W fun e W' => ∃ v, e = .returned v ∧ Rows.fnRiffReadsSpec.post enc Tryd.prog Tryd.f5 false true false false W args v W' := by
  have hval : ∀ (j : Nat) t v, Tryd.f5.params[j]? = some t → args[j]? = some v → Value.okWide Tryd.prog W .any base t v := hval0
  have hW' := hW
  obtain ⟨p, q, hA0, hV, rfl, hfz, hnd⟩ := hW
  have hA : DataW.TrodAll enc Tryd.prog W 0 (fun _ => true) true Tryd.f5.params.toList args.toList ds p := hA0
  rw [Tryd.params5] at hA hval
  obtain ⟨v0, vs0, d0, ds0, p0, q0, hargs, rfl, rfl, h0, r0⟩ := trodAll_cons hA
  obtain ⟨v1, vs1, d1, ds1, p1, q1, rfl, rfl, rfl, h1, r1⟩ := trodAll_cons r0
  obtain ⟨v2, vs2, d2, ds2, p2, q2, rfl, rfl, rfl, h2, r2⟩ := trodAll_cons r1
  obtain ⟨rfl, rfl, rfl⟩ := trodAll_nil r2
  obtain rfl : args = #[v0, v1, v2] := by cases args; simp_all
  obtain ⟨rfl, rfl⟩ := trodVars_none hV
  obtain ⟨A0, len0, c0, rfl⟩ := okWide_slice Tryd.underlying25 (hval 0 25 v0 rfl rfl)
  have k0 := h0
  have lt0 : ∀ x ∈ p0, x.block < W.heap.size := by obtain ⟨m, hm⟩ := k0; exact DataW.trod_lt m _ _ _ hm
  obtain ⟨z0, y0⟩ : ∃ zs, IsRow .u8 W A0 len0 c0 zs := by
    obtain ⟨fuel, hf⟩ := h0
    rcases open_ints Tryd.underlying25 Tryd.underlying5 (by kernel_rfl) hf with ⟨hcs, _⟩ | ⟨x, l, c, zs, hcs, _, hl, hm, hz, _, hcell, hwz⟩
    · simp [Value.cells] at hcs
      obtain ⟨rfl, rfl, rfl⟩ := hcs
      exact ⟨[], .inl ⟨rfl, rfl, rfl, rfl⟩⟩
    · simp [Value.cells] at hcs
      obtain ⟨rfl, rfl, rfl⟩ := hcs
      exact ⟨zs, .inr ⟨_, rfl, hl, hm, by simpa using hz, hcell, hwz⟩⟩
  obtain ⟨l0, hl0, hr0, hw0, hm0⟩ := row_rd y0
  subst hl0
  obtain ⟨A1, len1, c1, rfl⟩ := okWide_slice Tryd.underlying36 (hval 1 36 v1 rfl rfl)
  have k1 := h1
  have lt1 : ∀ x ∈ p1, x.block < W.heap.size := by obtain ⟨m, hm⟩ := k1; exact DataW.trod_lt m _ _ _ hm
  obtain ⟨z1, y1⟩ : ∃ zs, IsRow .i64 W A1 len1 c1 zs := by
    obtain ⟨fuel, hf⟩ := h1
    rcases open_ints Tryd.underlying36 Tryd.underlying3 (by kernel_rfl) hf with ⟨hcs, _⟩ | ⟨x, l, c, zs, hcs, _, hl, hm, hz, _, hcell, hwz⟩
    · simp [Value.cells] at hcs
      obtain ⟨rfl, rfl, rfl⟩ := hcs
      exact ⟨[], .inl ⟨rfl, rfl, rfl, rfl⟩⟩
    · simp [Value.cells] at hcs
      obtain ⟨rfl, rfl, rfl⟩ := hcs
      exact ⟨zs, .inr ⟨_, rfl, hl, hm, by simpa using hz, hcell, hwz⟩⟩
  obtain ⟨l1, hl1, hr1, hw1, hm1⟩ := row_rd y1
  subst hl1
  obtain ⟨A2, len2, c2, rfl⟩ := okWide_slice Tryd.underlying33 (hval 2 33 v2 rfl rfl)
  have k2 := h2
  have lt2 : ∀ x ∈ p2, x.block < W.heap.size := by obtain ⟨m, hm⟩ := k2; exact DataW.trod_lt m _ _ _ hm
  obtain ⟨L2, hl2, hr2, hw2, hm2⟩ : ∃ L : List (Int × Int), L.length = len2 ∧ RdS W W.heap.size A2 L ∧ (∀ x ∈ L, (-9223372036854775808 ≤ x.1 ∧ x.1 ≤ 9223372036854775807) ∧ -9223372036854775808 ≤ x.2 ∧ x.2 ≤ 9223372036854775807) ∧ (len2 : Int) ≤ 9223372036854775807 := by
    obtain ⟨fuel, hf⟩ := h2
    exact open_steps Tryd.underlying33 Tryd.underlying35 (by kernel_rfl) rfl rfl rfl rfl (by kernel_rfl) Tryd.underlying3 hf
  subst hl2
  clear hA0 hval0
  have walk : Calls Tryd.prog 5 #[.slice A0 l0.length c0, .slice A1 l1.length c1, .slice A2 L2.length c2] W fun e w' => e = .returned (.bool true) ∧ Below W.heap.size W w' := by
    have hc0 : l0.length ≤ c0 := by
      rcases y0 with ⟨_, h, _, _⟩ | ⟨_, _, h, _⟩
      · omega
      · exact h
    exact reads_card l0 l1 A0 A1 A2 c0 c1 c2 L2 W hr0 hw0 hm0 hc0 hr1 hw1 hm1 hr2 hw2 hm2 (errs hL)
  refine walk.mono fun e W' ⟨he, bel⟩ => ?_
  subst he
  exact ⟨_, rfl, _, _, _, [], _, [], hW', trodAll_mk1 (shut_bool Tryd.underlying4 _), (trodAll_cons_mk (Below.trod laidOut (by kernel_rfl) (of_decide_eq_true (by kernel_rfl)) k0 bel lt0) (trodAll_cons_mk (Below.trod laidOut (by kernel_rfl) (of_decide_eq_true (by kernel_rfl)) k1 bel lt1) (trodAll_cons_mk (Below.trod laidOut (by kernel_rfl) (of_decide_eq_true (by kernel_rfl)) k2 bel lt2) trodAll_mk0))), rfl, bel.frame _, fun h => by cases h⟩

/-- A world for the witness: the one that the door's own run leaves. -/
noncomputable def laidWorld (os : Os) : World := World.doorLaid Tryd.prog 218 os
theorem laid_met (os : Os) : laidMet Tryd.prog Rows.fnRiffReadsRow.laid ((laidWorld os).forCall (fun _ _ => 0) ⟨#[], #[.slice none 0 0, .slice none 0 0, .slice none 0 0], []⟩).memory :=
  laidMet_of_run' 8 (by kernel_rfl) (by kernel_rfl)
theorem reads (os : Os) {H : Type} (enc : TypeId × Value → H) : ∃ places, DataW.whole enc Tryd.prog ((laidWorld os).forCall (fun _ _ => 0) ⟨#[], #[.slice none 0 0, .slice none 0 0, .slice none 0 0], []⟩).memory Tryd.f5.params.toList Rows.fnRiffReadsSpec.vars false (#[.slice none 0 0, .slice none 0 0, .slice none 0 0] : Array Value).toList 8 = some ([.nil, .nil, .nil], [], places) :=
  ⟨[], by kernel_rfl⟩
set_option maxRecDepth 100000 in
theorem lifted (os : Os) (started : os.Started) (H : Type) (enc : TypeId × Value → H) (F : Stop.Interp) :
    ReturnsInHanded {} Tryd.checked os 5 .any ((OpenSpec.ofChange Rows.fnRiffReadsSpec).preRow enc Tryd.prog Tryd.f5 Rows.fnRiffReadsRow.domain false Rows.fnRiffReadsRow.laid) (((OpenSpec.ofChange Rows.fnRiffReadsSpec).at F).post enc Tryd.prog Tryd.f5 false true false false) := by
  obtain ⟨places, hx⟩ := reads os enc
  refine returnsInHanded_of_row (C := Tryd.checked) (s := OpenSpec.ofChange Rows.fnRiffReadsSpec) own started (by kernel_rfl) Tryd.func5
    (witness_row_atRef (enc := enc) (C := Tryd.checked) false (laidWorld os) #[.slice none 0 0, .slice none 0 0, .slice none 0 0] rfl (by kernel_rfl) (by kernel_rfl) (by kernel_rfl)
      (OpenSpec.preRow_of_cond 8 hx (by kernel_rfl) (fun k hk => by cases hk) (by kernel_rfl) (laid_met os))) ?_
  intro W base args ds gs before hval hW _ _ _ hL _ _
  exact contract H enc W base args ds gs before hval hW hL
theorem said : Rows.FnRiffReadsSaid :=
  OpenClaim.holds_of_cond 5 Tryd.f5 rfl rfl rfl rfl rfl rfl rfl ⟨rfl, rfl, rfl, rfl, rfl⟩ rfl rfl rfl rfl rfl (by kernel_rfl) Tryd.func5 (by kernel_rfl)
    (of_decide_eq_true (by kernel_rfl)) (by unfold Func.isWrapper; first | (rw [if_pos (by decide +kernel)]; kernel_rfl) | (rw [if_neg (by decide +kernel)]; exact ⟨rfl, rfl⟩))
    (fun os started H enc _ F => by rw [OpenClaim.pre_eq_preRow]; exact lifted os started H enc F)
/-- No parameter wants a stand-in; the program's own looks are the card's. -/
theorem plain (f : FuncId) (fn : Func) (hf : Tryd.pinned.checked.prog.funcNamed "pub-weftwise/laws.FnRiffReads" = some f) (hfn : Tryd.pinned.checked.prog.funcs[f]? = some fn) :
    true = Tryd.pinned.checked.prog.looks [] ∧ ∀ (j : Nat) t, fn.params[j]? = some t → Tryd.pinned.checked.prog.wantsStandIn t = false := by
  obtain rfl : f = 5 := Option.some.inj ((show Tryd.prog.funcNamed "pub-weftwise/laws.FnRiffReads" = some 5 by kernel_rfl).symm.trans hf) |>.symm
  obtain rfl : fn = Tryd.f5 := (Option.some.inj (Tryd.func5.symm.trans hfn)).symm
  refine ⟨by kernel_rfl, fun j t ht => ?_⟩
  rw [Tryd.params5] at ht
  have hm : t ∈ #[25, 36, 33] := Array.mem_of_getElem? ht
  have hc : t = 25 ∨ t = 36 ∨ t = 33 := by simpa using hm
  rcases hc with rfl | rfl | rfl
  · exact (show Tryd.prog.wantsStandIn 25 = false by kernel_rfl)
  · exact (show Tryd.prog.wantsStandIn 36 = false by kernel_rfl)
  · exact (show Tryd.prog.wantsStandIn 33 = false by kernel_rfl)
/-- The card. -/
theorem proved : Rows.FnRiffReadsCardSaid :=
  Claim7.holds_tied_plain_at .later [] _ _ _ _ said (fun _ h => by cases h) (by kernel_rfl) (fun _ h => by cases h) fnRiffReads_row_tie rfl ⟨rfl, rfl⟩ (by kernel_rfl) rfl plain (by kernel_rfl)
#print axioms proved
end Go.Proofs.YthkpoidnhgcjhaaDoor.fnRiffReads
