/- 'chunks': the walk. -/
import Derived.Test.YthkpoidnhgcjhaaDoorRfRows
import Derived.Test.YthkpoidnhgcjhaaDoorRfArr4
namespace Go.Proofs.YthkpoidnhgcjhaaDoor
set_option linter.unusedSimpArgs false
set_option linter.unusedVariables false
open Go.RowKit Plain

theorem quietB_first {P : Program} {f : FuncId} {args : Array Value} {w : World} {n : Nat} {v : Value} (h : Calls P f args (w.drewN n) fun e w' => e = .returned v ∧ ∃ m, (w.drewN n).drewN m = w') :
    Calls P f args (w.drewN n) fun e w'' => e = .returned v ∧ ∃ m, w'' = w.drewN m := h.mono fun _ _ hh => ⟨hh.1, by obtain ⟨m, hm⟩ := hh.2; exact ⟨n + m, by rw [← hm, World.drewN_drewN]⟩⟩
theorem quietB_after {P : Program} {f : FuncId} {args : Array Value} {w : World} {a n : Nat} {v : Value} (h : Calls P f args (w.drewN (a + n)) fun e w' => e = .returned v ∧ ∃ m, (w.drewN (a + n)).drewN m = w') :
    Calls P f args (w.drewN (a + n)) fun e w'' => e = .returned v ∧ ∃ m, w'' = w.drewN (a + m) := h.mono fun _ _ hh => ⟨hh.1, by obtain ⟨m, hm⟩ := hh.2; exact ⟨n + m, by rw [← hm, World.drewN_drewN, Nat.add_assoc]⟩⟩
set_option maxRecDepth 100000 in
set_option maxHeartbeats 4000000 in
theorem chunks_same (A A' : Option Addr) (c c' B B' : Nat) (l : List Ck) (w : World) (hl : (l.length : Int) ≤ 2147483647) (hld : ∀ x ∈ l, (x.data.length : Int) ≤ 2147483647) (h : RdC w B A l) (h' : RdC w B' A' l) :
    Calls Tryd.prog 13 #[.slice A l.length c, .slice A' l.length c'] w fun e w' => e = .returned (.bool true) ∧ ∃ n, w.drewN n = w' := by
  replace hld := hide hld
  go_enter Tryd.func13, Tryd.ntmps13
  go_wp2
  go_loopg [5] l.length (fun k v5 wr => ∃ j n : Nat, k + j = l.length ∧ v5 = .int .i64 (j : Nat) ∧ wr = w.drewN n)
  case atStart => exact ⟨0, 0, by simp, rfl, rfl⟩
  case round =>
    obtain ⟨j, n, hj, rfl, rfl⟩ := hrel
    cases gk with
    | zero =>
      have hj' : j = l.length := by omega
      subst hj'
      go_wp2
      go_ret
      exact ⟨rfl, n, rfl⟩
    | succ k =>
      have hjl : j < l.length := by omega
      have hjI : (j : Int) < (l.length : Int) := by omega
      have hne : l ≠ [] := by rintro rfl; simp at hjl
      obtain ⟨b, off, Af, Cf, rfl, hb, hc⟩ := h hne
      obtain ⟨b', off', Af', Cf', rfl, hb', hc'⟩ := h' hne
      obtain ⟨h1, h2⟩ := hc j hjl
      obtain ⟨h1', h2'⟩ := hc' j hjl
      have hm : l.getD j default ∈ l := by simp [hjl]
      have hdl := hld.out _ hm
      clear hc hc' h h' hm
      generalize hx : l.getD j default = x at *
      generalize Af j = Aj at *
      generalize Cf j = Cj at *
      generalize Af' j = Aj' at *
      generalize Cf' j = Cj' at *
      have cB := fun n => bytes_same Aj Aj' Cj Cj' (ofNr x.data) (w.drewN n) B B' (by rw [ofNr_len]; omega) h2 h2'
      rw [ofNr_len] at cB
      have p0 := h1 0 (by omega)
      have p1 := h1 1 (by omega)
      have p2 := h1 2 (by omega)
      have p3 := h1 3 (by omega)
      have p4 := h1 4 (by omega)
      have p5 := h1 5 (by omega)
      have p6 := h1 6 (by omega)
      have q0 := h1' 0 (by omega)
      have q1 := h1' 1 (by omega)
      have q2 := h1' 2 (by omega)
      have q3 := h1' 3 (by omega)
      have q4 := h1' 4 (by omega)
      have q5 := h1' 5 (by omega)
      have q6 := h1' 6 (by omega)
      simp [ckC] at p0 p1 p2 p3 p4 p5 p6 q0 q1 q2 q3 q4 q5 q6
      clear h1 h1' h2 h2'
      generalize x.id[0]?.getD 0 = a0 at *
      generalize x.id[1]?.getD 0 = a1 at *
      generalize x.id[2]?.getD 0 = a2 at *
      generalize x.id[3]?.getD 0 = a3 at *
      generalize x.len = ln at *
      generalize x.en = en at *
      generalize x.data.length = dl at *
      replace cB := hide cB
      have hN := fun W => arr4_same (a0 : Nat) (a1 : Nat) (a2 : Nat) (a3 : Nat) W
      go_wp2
      go_quiet ((go_at_call 20; first | (with_reducible exact quietB_after (cB.out _)) | (with_reducible exact quietB_first (cB.out _))))
      go_wp2
      go_roundg k
      case measure => omega
      case rel => exact ⟨j + 1, _, by omega, by go_num, rfl⟩
end Go.Proofs.YthkpoidnhgcjhaaDoor
