/- 'kindOf': the walk. -/
import Derived.Test.YthkpoidnhgcjhaaDoorRfMach
namespace Go.Proofs.YthkpoidnhgcjhaaDoor
set_option linter.unusedSimpArgs false
set_option linter.unusedVariables false
open Go.RowKit Plain

set_option maxHeartbeats 1000000 in
theorem kind_nil (w : World) : Calls Tryd.prog 22 #[.nilIface] w fun e w' => e = .returned (.int .i64 0) ∧ w = w' := by
  go_enter Tryd.func22, Tryd.ntmps22
  go_wp2
  go_ret
  exact ⟨rfl, rfl⟩
set_option maxHeartbeats 1000000 in
theorem kind_eof (ae : Addr) (w : World) (hE : w.cell? ⟨0, 0, none⟩ = some (.iface 122 (.pointer (some ae)))) : Calls Tryd.prog 22 #[.iface 122 (.pointer (some ae))] w fun e w' => e = .returned (.int .i64 1) ∧ w = w' := by
  have h1 := eql_es ae w
  go_enter Tryd.func22, Tryd.ntmps22
  go_wp2
  go_ret
  exact ⟨rfl, rfl⟩
set_option maxHeartbeats 1000000 in
theorem kind_wrong (ax ae : Addr) (w : World) (hE : w.cell? ⟨0, 0, none⟩ = some (.iface 122 (.pointer (some ae)))) (h1 : (binOp .eql 57 (.iface 122 (.pointer (some ax))) (.iface 122 (.pointer (some ae)))).run Tryd.prog w = .ok (.bool false) w) : Calls Tryd.prog 22 #[.iface 122 (.pointer (some ax))] w fun e w' => e = .returned (.int .i64 2) ∧ w = w' := by
  go_enter Tryd.func22, Tryd.ntmps22
  go_wp2
  go_ret
  exact ⟨rfl, rfl⟩
set_option maxRecDepth 100000 in
set_option maxHeartbeats 2000000 in
/-- A dead reader tells its error again. -/
theorem next_dead (z : Nat) (ax : Addr) (w : World) (h : Dead w z ax) : Calls Tryd.prog 23 #[.pointer (some ⟨z, 0, none⟩)] w fun e w' => e = .returned (.tuple #[zero4, .int .u32 0, .nilIface, errV ax]) ∧ Upd [] w w' := by
  obtain ⟨r, cr, tot, chl, pad, bf, hz⟩ := h
  have hzw := hz.lt
  have hzw' : ¬ z = w.heap.size := by omega
  have hzw'' : ¬ w.heap.size = z := by omega
  have k1 := hz.c1
  have f1 := hz.fz 1
  unfold errV at k1
  have hb0 := hide (Blk.new w 54 #[.int .u8 0, .int .u8 0, .int .u8 0, .int .u8 0])
  have hu0 := hide (((Upd.refl [] w).alloc (.cells #[.int .u8 0, .int .u8 0, .int .u8 0, .int .u8 0] 54)).drew)
  clear hz
  go_enter Tryd.func23, Tryd.ntmps23
  go_wp2
  go_region
  go_wp2
  exact bodyPost_ret (ret_cell_tmp3 rfl rfl (load_four (Blk.drew hb0.out) rfl) rfl rfl rfl) rfl ⟨rfl, hu0.out⟩
end Go.Proofs.YthkpoidnhgcjhaaDoor
