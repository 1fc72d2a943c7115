/- 'written': the walk. -/
import Derived.Test.YthkpoidnhgcjhaaDoorRfRows
namespace Go.Proofs.YthkpoidnhgcjhaaDoor
set_option linter.unusedSimpArgs false
set_option linter.unusedVariables false
open Go.RowKit Plain

/-- 'append' of one element of several cells, in a region that draws. -/
theorem step_pushC {P : Program} {w : World} {ops : Array Oper} {o : Oper} {a : Act} {K : Act → World → Prop} {Q : Exit → Act → World → Prop} {E : Prop} (s x : Operand) (t : TypeId)
    (base : Nat) (e : TypeId) (z : Value) (size bytes : Nat) (ht : P.underlying t = some (.slice e)) (hi : (P.info? e).map (fun i => (i.zero, i.size, i.bytes)) = some (some z, size, bytes)) (hzs : z.cells.size = size) (hsz : 0 < size)
    (v : Value) (n : Nat) (xs cs : List Value) (hcs : cs.length = size) (hu : ∀ u ∈ cs, u.oneCell' = true) (b : Nat) (h63 : n + 1 ≤ maxLen) (hbytes : (n + 1) * bytes ≤ 140737488355328)
    (h : (o.guard = none ∧ o.op = .call { callee := .builtin .append, args := #[s, x], argTypes := #[t, t] } ∧ a.eval s = v ∧ w.ownsRow base e size v n xs ∧ a.eval x = .slice (some ⟨b, 0, none⟩) 1 1 ∧ (∀ j u, cs[j]? = some u → w.cell? ⟨b, j, none⟩ = some u) ∧ base ≤ w.heap.size) ∧
      ∀ v' w', w'.ownsRow base e size v' (n + 1) (xs ++ cs) → w.grownBy w' v.ownBlock → K (a.put o.dst v') w') :
    if Region.wanted o (yielded ops a.tmps) = true then Oper.wp P o a w K Q else E := by
  obtain ⟨⟨hgd, ho, hs, hown, hx, hb, hbase⟩, h⟩ := h
  obtain ⟨i, hi, hz, h1, h2⟩ := info_parts hi
  have hw : Region.wanted o (yielded ops a.tmps) = true := by simp [Region.wanted, hgd]
  rw [if_pos hw]
  refine wp_append_own w s x t ho base e i z size bytes ht hi hz h1 h2 hzs hsz v n xs hs hown ⟨b, 0, none⟩ 1 1 cs hx (by simp [hcs]) ?_ hu h63 hbytes hbase ?_
  · intro j y hy
    rw [Addr.add_lit, Nat.zero_add]
    exact hb j y hy
  · intro v' w' h1 h2 _
    exact h v' w' h1 h2
def idAt (ids : List Nat) (j : Nat) : List Nat := [ids.getD (j * 4) 0, ids.getD (j * 4 + 1) 0, ids.getD (j * 4 + 2) 0, ids.getD (j * 4 + 3) 0]
def bodyP (ids : List Nat) (D : List (List Nat)) (n : Nat) : List Nat := (List.range n).flatMap fun j => chunkP (idAt ids j) (D.getD j [])
def wantP (ids : List Nat) (D : List (List Nat)) (n : Nat) : List Ck := (List.range n).map fun j => ⟨idAt ids j, (D.getD j []).length, D.getD j [], 0⟩
theorem body_succ (ids : List Nat) (D : List (List Nat)) (n : Nat) : bodyP ids D (n + 1) = bodyP ids D n ++ chunkP (idAt ids n) (D.getD n []) := by simp [bodyP, List.range_succ]
theorem want_succ (ids : List Nat) (D : List (List Nat)) (n : Nat) : wantP ids D (n + 1) = wantP ids D n ++ [⟨idAt ids n, (D.getD n []).length, D.getD n [], 0⟩] := by simp [wantP, List.range_succ]
theorem want_len (ids : List Nat) (D : List (List Nat)) (n : Nat) : (wantP ids D n).length = n := by simp [wantP]
theorem body_len (ids : List Nat) (D : List (List Nat)) : ∀ n, n ≤ D.length → (bodyP ids D n).length ≤ 9 * n + tot (D.take n)
  | 0, _ => by simp [bodyP]
  | n + 1, h => by
    have ih := body_len ids D n (by omega)
    have hc := chunk_len (idAt ids n) (D.getD n []) rfl
    have hp := padP_len (decide ((D.getD n []).length % 2 = 1))
    have ht := tot_take D n (by omega)
    rw [body_succ, List.length_append]
    split at hp <;> omega
theorem tot_mono (D : List (List Nat)) (n : Nat) : tot (D.take n) ≤ tot D := by
  have h : tot (D.take n) + tot (D.drop n) = tot D := by
    unfold tot
    rw [← List.sum_append, ← List.map_append, List.take_append_drop]
  omega
set_option maxRecDepth 100000 in
set_option maxHeartbeats 8000000 in
theorem written_any (m : Nat) (Ai Ad : Option Addr) (ni ci cd : Nat) (ids : List Nat) (D : List (List Nat)) (w : World) (hi : Rd .u8 w w.heap.size Ai (ofNr ids)) (hil : ids.length = ni * 4) (hd : RdR w w.heap.size Ad D) (hni : (ni : Int) ≤ 4096) (hnd : (D.length : Int) + tot D ≤ 1048576) (hm : m = min ni D.length) :
    Calls Tryd.prog 10 #[.slice Ai ni ci, .slice Ad D.length cd] w fun e w' => ∃ v A c, e = .returned (.tuple #[v, .slice A m c]) ∧ w'.ownsRow w.heap.size 5 1 v (bodyP ids D m).length ((ofNr (bodyP ids D m)).map (Value.int .u8)) ∧ RdC w' w'.heap.size A (wantP ids D m) ∧ Upd [] w w' := by
  have hm1 : (m : Int) ≤ (ni : Int) := by omega
  have hm2 : (m : Int) ≤ (D.length : Int) := by omega
  have hm3 : ¬ ((m : Int) < (ni : Int) ∧ (m : Int) < (D.length : Int)) := by omega
  replace hm := hide hm
  go_enter Tryd.func10, Tryd.ntmps10
  go_wp2
  go_loopg [6, 7, 8] m (fun k v6 v7 v8 wr => ∃ j : Nat, k + j = m ∧ v8 = .int .i64 (j : Nat) ∧ wr.ownsRow w.heap.size 5 1 v6 (bodyP ids D j).length ((ofNr (bodyP ids D j)).map (Value.int .u8)) ∧
    (∃ V : Nat → Value, wr.ownsRow w.heap.size 43 7 v7 j (ckCells V 0 (wantP ids D j)) ∧ ∀ i, i < j → ∃ A c, V i = .slice A (D.getD i []).length c ∧ Rd .u8 w w.heap.size A (ofNr (D.getD i []))) ∧ Upd [] w wr)
  case atStart => exact ⟨0, by simp, rfl, ⟨rfl, .inl ⟨rfl, rfl⟩⟩, ⟨fun _ => .nilIface, ⟨rfl, .inl ⟨rfl, rfl⟩⟩, fun i h => by omega⟩, Upd.refl _ _⟩
  case round =>
    obtain ⟨j, hj, rfl, hb, ⟨V, hc, hV⟩, hu⟩ := hrel
    cases gk with
    | zero =>
      have hj' : j = m := by omega
      subst hj'
      obtain ⟨Ab, cb, rfl⟩ := own_shape hb
      obtain ⟨Ac, cc, rfl⟩ := own_shape hc
      have hfin : RdC wr wr.heap.size Ac (wantP ids D j) := by
        have hc' := hc
        rw [← want_len ids D j] at hc'
        simp only [want_len] at hc'
        have hch : ∀ i, ∃ p : Option Addr × Nat, i < j → V i = .slice p.1 (D.getD i []).length p.2 ∧ Rd .u8 w w.heap.size p.1 (ofNr (D.getD i [])) := fun i => by
          by_cases hi : i < j
          · obtain ⟨A, c, e, hr⟩ := hV i hi
            exact ⟨(A, c), fun _ => ⟨e, hr⟩⟩
          · exact ⟨(none, 0), fun h => absurd h hi⟩
        have hg : ∀ i, i < j → (wantP ids D j).getD i default = ⟨idAt ids i, (D.getD i []).length, D.getD i [], 0⟩ := fun i hi => by simp [wantP, hi]
        refine RdC.ofOwn (V := V) (c := cc) (by rw [want_len]; exact hc) (Nat.le_refl _) (fun i => (hch i).choose.1) (fun i => (hch i).choose.2) (fun i hi => ?_)
        rw [want_len] at hi
        obtain ⟨e, hr⟩ := (hch i).choose_spec hi
        rw [hg i hi]
        exact ⟨e, (hr.upd hu (Nat.le_refl _) (by simp)).more hu.size⟩
      replace hfin := hide hfin
      replace hb := hide hb
      replace hu := hide hu
      clear hc hV hi hd
      by_cases hn : (j : Int) < (ni : Int)
      · have hn2 : ¬ (j : Int) < (D.length : Int) := by omega
        go_wp2
        go_ret2
        exact ⟨_, _, ⟨_, rfl⟩, hb.out, hfin.out, hu.out⟩
      · go_wp2
        go_ret2
        exact ⟨_, _, ⟨_, rfl⟩, hb.out, hfin.out, hu.out⟩
    | succ k =>
      have hjn : j < ni := by omega
      have hjd : j < D.length := by omega
      have hjnI : (j : Int) < (ni : Int) := by omega
      have hjdI : (j : Int) < (D.length : Int) := by omega
      obtain ⟨Ab, cb, rfl⟩ := own_shape hb
      obtain ⟨Ac, cc, rfl⟩ := own_shape hc
      obtain ⟨bi, oi, rfl, hbi, hci⟩ := hi (by intro e; have h9 := congrArg List.length e; rw [ofNr_len, List.length_nil] at h9; omega)
      obtain ⟨bd, od, Af, Cf, rfl, hbd, hcd⟩ := hd (by rintro rfl; simp at hjd)
      obtain ⟨h5, hRj⟩ := hcd j hjd
      have q : ∀ i, i < 4 → w.cell? ⟨bi, oi + j * 4 + i, none⟩ = some (.int .u8 ((ids.getD (j * 4 + i) 0 : Nat) : Int)) := fun i hi4 => by
        have := hci (j * 4 + i) (by rw [ofNr_len]; omega)
        rw [ofNr_get, ← Nat.add_assoc] at this
        exact this
      have q0 := q 0 (by omega)
      have q1 := q 1 (by omega)
      have q2 := q 2 (by omega)
      have q3 := q 3 (by omega)
      rw [Nat.add_zero, Nat.add_zero] at q0
      have hbl := body_len ids D j (by omega)
      have htm := tot_mono D j
      have hcl := chunk_len (idAt ids j) (D.getD j []) rfl
      have hpl := padP_len (decide ((D.getD j []).length % 2 = 1))
      have hts := tot_take D j hjd
      have htm2 := tot_mono D (j + 1)
      have hbs := body_succ ids D j
      have hws := want_succ ids D j
      have hidj : idAt ids j = [ids.getD (j * 4) 0, ids.getD (j * 4 + 1) 0, ids.getD (j * 4 + 2) 0, ids.getD (j * 4 + 3) 0] := rfl
      have hbI : ((bodyP ids D j).length : Int) ≤ 10485760 := by omega
      have hdI : ((D.getD j []).length : Int) ≤ 1048576 := by omega
      have hcI : ((chunkP (idAt ids j) (D.getD j [])).length : Int) ≤ 1048585 := by split at hpl <;> omega
      have hsz := hu.size
      clear q hci hcd hi hd hil hbl htm hcl hpl hts htm2
      replace hbs := hide hbs
      replace hws := hide hws
      generalize hDj : D.getD j [] = dj at *
      generalize Af j = Aj at *
      generalize Cf j = Cj at *
      rw [hidj] at hbs hws hcI
      clear hidj
      generalize ids.getD (j * 4) 0 = a0 at *
      generalize ids.getD (j * 4 + 1) 0 = a1 at *
      generalize ids.getD (j * 4 + 2) 0 = a2 at *
      generalize ids.getD (j * 4 + 3) 0 = a3 at *
      have hSW : ∀ W, Upd [] w W → (W.cell? ⟨bi, oi + j * 4, none⟩ = some (.int .u8 (a0 : Nat)) ∧ W.cell? ⟨bi, oi + j * 4 + 1, none⟩ = some (.int .u8 (a1 : Nat)) ∧ W.cell? ⟨bi, oi + j * 4 + 2, none⟩ = some (.int .u8 (a2 : Nat)) ∧ W.cell? ⟨bi, oi + j * 4 + 3, none⟩ = some (.int .u8 (a3 : Nat)) ∧ W.cell? ⟨bd, od + j, none⟩ = some (.slice Aj dj.length Cj)) := fun W u => ⟨(u.cell (p := ⟨bi, oi + j * 4, none⟩) hbi (by simp)).trans q0, (u.cell (p := ⟨bi, oi + j * 4 + 1, none⟩) hbi (by simp)).trans q1, (u.cell (p := ⟨bi, oi + j * 4 + 2, none⟩) hbi (by simp)).trans q2, (u.cell (p := ⟨bi, oi + j * 4 + 3, none⟩) hbi (by simp)).trans q3, (u.cell (p := ⟨bd, od + j, none⟩) hbd (by simp)).trans h5⟩
      have cC := fun (W : World) (u : Upd [] w W) => chunk_any a0 a1 a2 a3 Aj Cj w.heap.size dj W (hRj.upd u (Nat.le_refl _) (by simp)) u.size (by omega)
      have hS0 := hide (hSW _ hu)
      have hS1 := hide (hSW _ hu.drew)
      have hud := hide hu.drew
      generalize hcp : chunkP [a0, a1, a2, a3] dj = cp at *
      have hbiw : bi < wr.heap.size := by omega
      have hbdw : bd < wr.heap.size := by omega
      replace hSW := hide hSW
      replace cC := hide cC
      replace hRj := hide hRj
      replace hb := hide hb
      replace hc := hide hc
      replace hV := hide hV
      replace hu := hide hu
      replace hDj := hide hDj
      replace hcp := hide hcp
      have t1 := hS1.out.1
      clear t1
      obtain ⟨t0, t1, t2, t3, t4⟩ := hS0.out
      clear q0 q1 q2 q3 h5
      go_wp2
      go_region_held3 (fun W => W.cell? ⟨bi, oi + j * 4, none⟩ = some (.int .u8 (a0 : Nat)) ∧ W.cell? ⟨bi, oi + j * 4 + 1, none⟩ = some (.int .u8 (a1 : Nat)) ∧ W.cell? ⟨bi, oi + j * 4 + 2, none⟩ = some (.int .u8 (a2 : Nat)) ∧ W.cell? ⟨bi, oi + j * 4 + 3, none⟩ = some (.int .u8 (a3 : Nat)) ∧ W.cell? ⟨bd, od + j, none⟩ = some (.slice Aj dj.length Cj)) (first | with_reducible exact hS0.out | with_reducible exact hS1.out | with_reducible exact hS2.out | with_reducible exact hS3.out | go_keep) (first
        | (go_at_call 15; (with_reducible refine (cC.out _ hud.out).mono ?_); rintro e w1 ⟨v1, rfl, hk1, hu1⟩; obtain ⟨A1, c1, rfl⟩ := own_shape hk1; have u1 := hide (hud.out.trans hu1); have hS2 := hide (hSW.out _ u1.out); have hR1 := hide (Rd.ofOwn hk1); have hb1 := hide (hu1.own (w := wr.drew) hb.out (by simp)); have hc1 := hide (hu1.own (w := wr.drew) hc.out (by simp)); have hsz1 := u1.out.size; clear hk1 hu1)
        | (refine step_pushR (.tmp 21) (.tmp 30) 25 w.heap.size w1.heap.size 5 .u8 1 Tryd.underlying25 info_u8r (.slice Ab (bodyP ids D j).length cb) (bodyP ids D j).length ((ofNr (bodyP ids D j)).map (Value.int .u8)) A1 cp.length c1 (ofNr cp) (ofNr_len _) (by simp only [maxLen]; omega) (by omega) ?_; refine ⟨⟨rfl, rfl, rfl, hb1.out, rfl, hR1.out, hsz1⟩, ?_⟩; intro v6 w2 hk2 hg2; have u2 := hide (upd_own u1.out hb1.out (Nat.le_refl _) hg2); have hc2 := hide ((grown_typed hb1.out hg2).own hc1.out (by decide)); obtain ⟨A2, c2, rfl⟩ := own_shape hk2; have hS3 := hide (hSW.out _ u2.out); replace hk2 := hide hk2))
      clear hS0 hS1 hS2 t0 t1 t2 t3 t4 hb1 hc1 hR1 u1 hud hb hc hu cC
      have hsz2 := u2.out.size
      have hw2i : bi < w2.heap.size := by omega
      have hw2d : bd < w2.heap.size := by omega
      obtain ⟨t0, t1, t2, t3, t4⟩ := hS3.out
      have hS4 := hide (hSW.out _ u2.out.drew)
      have uB := (u2.out.alloc (.cells #[.int .u8 (a0 : Nat), .int .u8 (a1 : Nat), .int .u8 (a2 : Nat), .int .u8 (a3 : Nat), .int .i64 (dj.length : Nat), .slice Aj dj.length Cj, .int .i64 0] 43))
      have hS5 := hide (hSW.out _ uB)
      have hS6 := hide (hSW.out _ uB.drew)
      have hHC : ∀ i u, ([.int .u8 (a0 : Nat), .int .u8 (a1 : Nat), .int .u8 (a2 : Nat), .int .u8 (a3 : Nat), .int .i64 (dj.length : Nat), .slice Aj dj.length Cj, .int .i64 0] : List Value)[i]? = some u → (w2.alloc (.cells #[.int .u8 (a0 : Nat), .int .u8 (a1 : Nat), .int .u8 (a2 : Nat), .int .u8 (a3 : Nat), .int .i64 (dj.length : Nat), .slice Aj dj.length Cj, .int .i64 0] 43)).drew.cell? ⟨w2.heap.size, i, none⟩ = some u := by
        intro i u hi
        have := World.cell?_alloc_new w2 (#[.int .u8 (a0 : Nat), .int .u8 (a1 : Nat), .int .u8 (a2 : Nat), .int .u8 (a3 : Nat), .int .i64 (dj.length : Nat), .slice Aj dj.length Cj, .int .i64 0] : Array Value) 43 i
        refine Eq.trans (show _ = (w2.alloc (.cells #[.int .u8 (a0 : Nat), .int .u8 (a1 : Nat), .int .u8 (a2 : Nat), .int .u8 (a3 : Nat), .int .i64 (dj.length : Nat), .slice Aj dj.length Cj, .int .i64 0] 43)).cell? ⟨w2.heap.size, i, none⟩ from rfl) (this.trans ?_)
        simpa using hi
      replace hHC := hide hHC
      replace uB := hide uB
      go_wp2
      go_region_held3 (fun W => W.cell? ⟨bi, oi + j * 4, none⟩ = some (.int .u8 (a0 : Nat)) ∧ W.cell? ⟨bi, oi + j * 4 + 1, none⟩ = some (.int .u8 (a1 : Nat)) ∧ W.cell? ⟨bi, oi + j * 4 + 2, none⟩ = some (.int .u8 (a2 : Nat)) ∧ W.cell? ⟨bi, oi + j * 4 + 3, none⟩ = some (.int .u8 (a3 : Nat)) ∧ W.cell? ⟨bd, od + j, none⟩ = some (.slice Aj dj.length Cj)) (first | with_reducible exact hS3.out | with_reducible exact hS4.out | with_reducible exact hS5.out | with_reducible exact hS6.out | with_reducible exact hS7.out | go_keep) (first
        | (refine step_pushC (.tmp 32) (.tmp 47) 29 w.heap.size 43 (.agg #[.int .u8 0, .int .u8 0, .int .u8 0, .int .u8 0, .int .i64 0, .slice none 0 0, .int .i64 0]) 7 48 Tryd.underlying29 info_ck rfl (by decide) (.slice Ac j cc) j (ckCells V 0 (wantP ids D j)) [.int .u8 (a0 : Nat), .int .u8 (a1 : Nat), .int .u8 (a2 : Nat), .int .u8 (a3 : Nat), .int .i64 (dj.length : Nat), .slice Aj dj.length Cj, .int .i64 0] rfl (by simp [Value.oneCell']) w2.heap.size (by simp only [maxLen]; omega) (by omega) ?_; refine ⟨⟨rfl, rfl, rfl, hc2.out.alloc _, rfl, hHC.out, by simp <;> omega⟩, ?_⟩; intro v7 w3 hk3 hg3; have hS7 := hide (hSW.out _ (upd_own uB.out (hc2.out.alloc _) (Nat.le_refl _) ⟨hg3.os, hg3.tape, hg3.output, hg3.size, hg3.block⟩)); obtain ⟨A3, c3, rfl⟩ := own_shape hk3; replace hk3 := hide hk3; replace hg3 := hide hg3))
      have hg4 : (w2.alloc (.cells #[.int .u8 (a0 : Nat), .int .u8 (a1 : Nat), .int .u8 (a2 : Nat), .int .u8 (a3 : Nat), .int .i64 (dj.length : Nat), .slice Aj dj.length Cj, .int .i64 0] 43)).grownBy w3 (Value.slice Ac j cc).ownBlock := ⟨hg3.out.os, hg3.out.tape, hg3.out.output, hg3.out.size, hg3.out.block⟩
      have u3 := upd_own uB.out (hc2.out.alloc (.cells #[.int .u8 (a0 : Nat), .int .u8 (a1 : Nat), .int .u8 (a2 : Nat), .int .u8 (a3 : Nat), .int .i64 (dj.length : Nat), .slice Aj dj.length Cj, .int .i64 0] 43)) (Nat.le_refl _) hg4
      have hb3 := (grown_typed (hc2.out.alloc (.cells #[.int .u8 (a0 : Nat), .int .u8 (a1 : Nat), .int .u8 (a2 : Nat), .int .u8 (a3 : Nat), .int .i64 (dj.length : Nat), .slice Aj dj.length Cj, .int .i64 0] 43)) hg4).own (hk2.out.alloc (.cells #[.int .u8 (a0 : Nat), .int .u8 (a1 : Nat), .int .u8 (a2 : Nat), .int .u8 (a3 : Nat), .int .i64 (dj.length : Nat), .slice Aj dj.length Cj, .int .i64 0] 43)) (by decide)
      clear hS3 hS4 hS5 hS6 hS7 hHC t0 t1 t2 t3 t4 hg3 hg4 hc2 hk2 uB u2
      replace hb3 := hide hb3
      replace u3 := hide u3
      go_wp2
      go_roundg k
      case measure => omega
      case rel =>
        refine ⟨j + 1, by omega, by go_num, ?_, ⟨fun i => if i = j then .slice Aj dj.length Cj else V i, ?_, fun i hi => ?_⟩, u3.out⟩
        · rw [hbs.out, List.length_append]
          have := hb3.out
          simpa [ofNr] using this
        · rw [hws.out, ck_snoc, want_len, Nat.zero_add, ck_congr (V' := V) 0 (wantP ids D j) (fun i _ hi => by rw [want_len] at hi; simp only [(show i ≠ j by omega), if_false])]
          simp only [if_true]
          exact hk3.out
        · by_cases he : i = j
          · subst he
            exact ⟨Aj, Cj, by simp only [if_true]; rw [hDj.out], by rw [hDj.out]; exact hRj.out⟩
          · obtain ⟨A, c, e1, e2⟩ := hV.out i (by omega)
            exact ⟨A, c, by simp only [he, if_false]; exact e1, e2⟩
end Go.Proofs.YthkpoidnhgcjhaaDoor
