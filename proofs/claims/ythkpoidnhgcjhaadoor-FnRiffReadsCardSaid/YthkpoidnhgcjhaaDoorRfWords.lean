/- Readers of chunks: the chain of levels one call later; pointers that are the same. No walk. -/
import Derived.Test.YthkpoidnhgcjhaaDoorRfPieces
import Derived.Deep.RegionWith
import Derived.LaidEqlPtr
import Derived.Lib.EndianBits
import Derived.Stop.IfaceNil
namespace Go.Proofs.YthkpoidnhgcjhaaDoor
set_option linter.unusedSimpArgs false
set_option linter.unusedVariables false
open Go.RowKit Plain

theorem run_neq_ptr_same {P : Program} (w : World) {tp te : TypeId} {j : TypeInfo} (a : Addr) (hp : P.underlying tp = some (.pointer te)) (hte : P.info? te = some j) :
    (binOp .neq tp (.pointer (some a)) (.pointer (some a))).run P w = .ok (.bool false) w := by
  have h : ∀ d : Nat, (Op.equalIn (d + 1) tp (.pointer (some a)) (.pointer (some a))).run P w = .ok true w := fun d => by
    simp [Op.equalIn, run_underlying hp, sizeOf, typeInfo, hte, run_sameAddr_same]
  simp only [binOp]
  simp [Op.equal, Op.maxDepth, h 9999]
theorem comp_er : (Tryd.prog.info? 122).map (·.comparable) = some true := by kernel_rfl
theorem size_er : (Tryd.prog.info? 138).map (·.size) = some 1 := by kernel_rfl
theorem run_neq_iface_ptr_same {P : Program} (w : World) {ti tp te : TypeId} {ms : Array (String × TypeId)} {i j : TypeInfo} (a : Addr)
    (hi : P.underlying ti = some (.interface ms)) (hp : P.underlying tp = some (.pointer te)) (hinfo : P.info? tp = some i) (hcomp : i.comparable = true) (hte : P.info? te = some j) :
    (binOp .neq ti (.iface tp (.pointer (some a))) (.iface tp (.pointer (some a)))).run P w = .ok (.bool false) w := by
  simp only [binOp]
  simp [Op.equal, Op.maxDepth, run_equalIn_iface_ptr_same w 9998 a hi hp hinfo hcomp hte]
theorem run_neq_iface_nil_left {P : Program} (w : World) {ti : TypeId} {ms : Array (String × TypeId)} (tp : TypeId) (v : Value) (hi : P.underlying ti = some (.interface ms)) :
    (binOp .neq ti .nilIface (.iface tp v)).run P w = .ok (.bool true) w := by
  have h : ∀ d : Nat, (Op.equalIn (d + 1) ti .nilIface (.iface tp v)).run P w = .ok false w := fun d => by simp [Op.equalIn, run_underlying hi]
  simp only [binOp]
  simp [Op.equal, Op.maxDepth, h 9999]
theorem neq_es (a : Addr) (w : World) : (binOp .neq 57 (.iface 122 (.pointer (some a))) (.iface 122 (.pointer (some a)))).run Tryd.prog w = .ok (.bool false) w := by
  obtain ⟨i, hi, hc⟩ := Option.map_eq_some_iff.1 comp_er
  obtain ⟨j, hj, _⟩ := Option.map_eq_some_iff.1 size_er
  exact run_neq_iface_ptr_same w a Tryd.underlying57 Tryd.underlying122 hi hc hj
theorem eql_es (a : Addr) (w : World) : (binOp .eql 57 (.iface 122 (.pointer (some a))) (.iface 122 (.pointer (some a)))).run Tryd.prog w = .ok (.bool true) w := by
  obtain ⟨i, hi, hc⟩ := Option.map_eq_some_iff.1 comp_er
  obtain ⟨j, hj, _⟩ := Option.map_eq_some_iff.1 size_er
  exact run_eql_iface_ptr_same w a Tryd.underlying57 Tryd.underlying122 hi hc hj
theorem neq_nil_es (a : Addr) (w : World) : (binOp .neq 57 .nilIface (.iface 122 (.pointer (some a)))).run Tryd.prog w = .ok (.bool true) w :=
  run_neq_iface_nil_left w _ _ Tryd.underlying57
theorem eql_nil_es (a : Addr) (w : World) : (binOp .eql 57 .nilIface (.iface 122 (.pointer (some a)))).run Tryd.prog w = .ok (.bool false) w :=
  run_eql_iface_nil_left w _ _ Tryd.underlying57
theorem Chain.later : ∀ {ls : List Lv} {w : World} {B p : Nat} {cl : List Int} {bs : List Nat} {T : Nat}, Chain w B p cl ls bs T → Chain w B p cl ls bs (T + 1)
  | [], _, _, _, _, _, _, h => by
    obtain ⟨A, cap, C, capc, turn, h1, h2, h3, h4, h5⟩ := Base.h h
    exact ⟨⟨A, cap, C, capc, turn, h1, h2, h3, h4, by omega⟩, Base.ge h⟩
  | _ :: ls, _, _, _, _, _, _, h => ⟨h.1, h.2.1, Chain.later h.2.2.1, h.2.2.2⟩
theorem size_cr : (Tryd.prog.info? 92).map (·.size) = some 1 := by kernel_rfl
theorem neq_cr (a : Addr) (w : World) : (binOp .neq 84 (.pointer (some a)) (.pointer (some a))).run Tryd.prog w = .ok (.bool false) w := by
  obtain ⟨j, hj, _⟩ := Option.map_eq_some_iff.1 size_cr
  exact run_neq_ptr_same w a Tryd.underlying84 hj

end Go.Proofs.YthkpoidnhgcjhaaDoor
