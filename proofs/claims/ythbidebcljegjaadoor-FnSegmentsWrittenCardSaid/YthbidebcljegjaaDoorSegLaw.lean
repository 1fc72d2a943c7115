/- What is told of segments is read as it was written: the law. -/
import Derived.Test.YthbidebcljegjaaDoorSegImpl
import Derived.Test.YthbidebcljegjaaDoorEqLaws
import Derived.Test.YthbidebcljegjaaDoorRowf
import Derived.Test.YthbidebcljegjaaDoorReadBool
namespace Go.Proofs.YthbidebcljegjaaDoor
set_option linter.unusedSimpArgs false
set_option linter.unusedVariables false
open Go.RowKit Plain

theorem WObj.alloc' {w : World} {base g : Nat} {s : WS} (h : WObj w base g s) (o : Obj) : WObj (w.alloc o) base g s := by
  obtain ⟨hn, v, hb, ho⟩ := h
  exact ⟨hn, v, hb.alloc o, ((Upd.refl [] w).alloc o).own ho (by simp)⟩
theorem WObj.setFar {w : World} {base g k : Nat} {s : WS} {t : TypeId} {cs : Array Value} (h : WObj w base g s) (hk : Blk w k t cs) (ht : 5 ≠ t) (hkg : g ≠ k) (i : Nat) (u : Value) : WObj (w.setCell ⟨k, i, none⟩ u) base g s := by
  obtain ⟨hn, v, hb, ho⟩ := h
  refine ⟨hn, v, hb.far hkg u, ((Upd.refl [k] w).setCell (p := ⟨k, i, none⟩) (.inl (by simp)) u).own ho (fun g' hg' => ?_)⟩
  simp
  rintro rfl
  exact own_ne ho hk ht hg'
theorem Bl.blk {base g k : Nat} {w w' : World} {t : TypeId} {cs : Array Value} (h : Bl base g w w') (hk : Blk w k t cs) (ht : t ≠ 5) (hkg : k ≠ g) : Blk w' k t cs := h.keep k cs t (0, 0) hk ht hkg
theorem WObj.gt {w : World} {base g : Nat} {s : WS} (h : WObj w base g s) : g < w.heap.size := by
  obtain ⟨_, v, hb, _⟩ := h
  exact hb.lt

theorem hdE_probs (rel : Bool) : Probs (hdE rel) := by intro x hx; simp [hdE] at hx; rcases hx with rfl | rfl <;> exact (show 128 ≤ 255 by decide)
theorem optEv_probs (n s : Nat) (b : Bool) : Probs (optEv n 128 s b) := by
  unfold optEv
  split
  · exact Probs.one _ _ (by decide)
  · exact Probs.append (l := [(true, 128)]) (Probs.one _ _ (by decide)) ((bitsOf_probs _ _ _ (by decide)).append (Probs.one _ _ (by decide)))
theorem optEv_len (n s : Nat) (b : Bool) : (optEv n 128 s b).length ≤ s + 2 := by
  unfold optEv signEv
  split
  · simp
  · simp [bitsOf_len]
theorem optsE_probs (q : Nat → Int) (s : Nat) : ∀ i, Probs (optsE q s i)
  | 0 => Probs.nil
  | i + 1 => (optsE_probs q s i).append (optEv_probs _ _ _)
theorem optsE_len (q : Nat → Int) (s : Nat) : ∀ i, (optsE q s i).length ≤ i * (s + 2)
  | 0 => by simp [optsE]
  | i + 1 => by
    have h := optsE_len q s i
    have h2 := optEv_len (optN (q i) s) s (decide (q i < 0))
    simp only [optsE, List.length_append]
    rw [Nat.add_mul, Nat.one_mul]
    omega
theorem pEv_probs (p : Nat) : Probs (pEv p) := by
  unfold pEv
  split
  · exact Probs.one _ _ (by decide)
  · exact Probs.append (l := [(true, 128)]) (l' := bitsOf p 128 8) (Probs.one _ _ (by decide)) (bitsOf_probs _ _ _ (by decide))
theorem pEv_len (p : Nat) : (pEv p).length ≤ 9 := by
  unfold pEv
  split
  · simp
  · simp [bitsOf_len]
theorem psE_probs (p : Nat → Nat) : ∀ i, Probs (psE p i)
  | 0 => Probs.nil
  | i + 1 => (psE_probs p i).append (pEv_probs _)
theorem psE_len (p : Nat → Nat) : ∀ i, (psE p i).length ≤ i * 9
  | 0 => by simp [psE]
  | i + 1 => by
    have h := psE_len p i
    have h2 := pEv_len (p i)
    simp only [psE, List.length_append]
    omega
theorem segE_probs (rel : Bool) (q s : Nat → Int) (p : Nat → Nat) : Probs (segE rel q s p) := (hdE_probs rel).append ((optsE_probs q 7 4).append ((optsE_probs s 6 4).append (psE_probs p 3)))
theorem segE_len (rel : Bool) (q s : Nat → Int) (p : Nat → Nat) : (segE rel q s p).length ≤ 200 := by
  have h1 := optsE_len q 7 4
  have h2 := optsE_len s 6 4
  have h3 := psE_len p 3
  simp only [segE, hdE, List.length_append, List.length_cons, List.length_nil]
  omega
def pN (f : Nat → Int) (j : Nat) : Nat := (f j % 256).toNat
theorem pN_bd (l : Nat → Int) (j : Nat) : pN l j ≤ 255 := by unfold pN; omega
theorem pN_int (l : Nat → Int) (j : Nat) : ((pN l j : Nat) : Int) = l j % 256 := by unfold pN; omega
theorem low8 (x : Int) : bits .and .i64 x 255 = x % 256 := and_mask .i64 8 (by decide) x
theorem i64_wf {l : List Int} (h : ∀ n ∈ l, (Lit.int .i64 n).wf = true) (j : Nat) : -9223372036854775808 ≤ l.getD j 0 ∧ l.getD j 0 ≤ 9223372036854775807 := by
  rcases Nat.lt_or_ge j l.length with hj | hj
  · have h1 := h l[j] (List.getElem_mem hj)
    simp [Lit.wf, IntKind.min, IntKind.max, IntKind.bits, IntKind.signed] at h1
    simp [hj]
    omega
  · simp [hj]
theorem eql_4 (a b c d : Int) (w : World) : (binOp .eql 46 (.agg #[.int .i64 a, .int .i64 b, .int .i64 c, .int .i64 d]) (.agg #[.int .i64 a, .int .i64 b, .int .i64 c, .int .i64 d])).run Tryd.prog w = .ok (.bool true) w := by
  have h := run_eql_array (P := Tryd.prog) 46 3 4 .i64 Tryd.underlying46 Tryd.underlying3 (by kernel_rfl) (by kernel_rfl) [a, b, c, d] [a, b, c, d] rfl rfl w
  rw [show (([a, b, c, d] : List Int) == [a, b, c, d]) = true by simp] at h
  exact h
theorem eql_3 (a b c : Int) (w : World) : (binOp .eql 28 (.agg #[.int .i64 a, .int .i64 b, .int .i64 c]) (.agg #[.int .i64 a, .int .i64 b, .int .i64 c])).run Tryd.prog w = .ok (.bool true) w := by
  have h := run_eql_array (P := Tryd.prog) 28 3 3 .i64 Tryd.underlying28 Tryd.underlying3 (by kernel_rfl) (by kernel_rfl) [a, b, c] [a, b, c] rfl rfl w
  rw [show (([a, b, c] : List Int) == [a, b, c]) = true by simp] at h
  exact h
theorem rowF_lit (l : List Int) (n : Nat) (h : l.length = n) (k : IntKind) : (l.map (Value.int k)).toArray = rowF k (fun j => l.getD j 0) n := by
  subst h
  unfold rowF
  congr 1
  apply List.ext_getElem
  · simp
  · intro i h1 h2
    simp at h1
    simp [h1]

theorem optional7 (base g : Nat) (dn : List (Bool × Nat)) (v : Int) (w : World) (h0 : -9223372036854775808 ≤ v) (h1 : v ≤ 9223372036854775807) (hd : Probs dn) (hl : dn.length ≤ 300) (hO : WObj w base g (WS.start.puts dn)) :
    Calls Tryd.prog 26 #[.pointer (some ⟨g, 0, none⟩), .int .i64 v, .int .i64 7] w fun e w' => e = .returned (.int .i64 (optV v 7)) ∧ WObj w' base g (WS.start.puts (dn ++ optEv (optN v 7) 128 7 (decide (v < 0)))) ∧ Bl base g w w' :=
  optional_ev base g dn v 7 w h0 h1 (by decide) hd (by omega) hO
theorem optional6 (base g : Nat) (dn : List (Bool × Nat)) (v : Int) (w : World) (h0 : -9223372036854775808 ≤ v) (h1 : v ≤ 9223372036854775807) (hd : Probs dn) (hl : dn.length ≤ 300) (hO : WObj w base g (WS.start.puts dn)) :
    Calls Tryd.prog 26 #[.pointer (some ⟨g, 0, none⟩), .int .i64 v, .int .i64 6] w fun e w' => e = .returned (.int .i64 (optV v 6)) ∧ WObj w' base g (WS.start.puts (dn ++ optEv (optN v 6) 128 6 (decide (v < 0)))) ∧ Bl base g w w' :=
  optional_ev base g dn v 6 w h0 h1 (by decide) hd (by omega) hO
theorem number8 (base g n : Nat) (dn : List (Bool × Nat)) (w : World) (hn : n ≤ 255) (hd : Probs dn) (hl : dn.length ≤ 300) (hO : WObj w base g (WS.start.puts dn)) :
    Calls Tryd.prog 13 #[.pointer (some ⟨g, 0, none⟩), .int .i64 n, .int .i64 8, .int .i64 128] w fun e w' => e = .returned (.tuple #[]) ∧ WObj w' base g (WS.start.puts (dn ++ bitsOf n 128 8)) ∧ Bl base g w w' :=
  number_ev base g n 128 8 dn w (by omega) (by decide) hd (by omega) (by decide) hO

set_option maxRecDepth 100000 in
set_option maxHeartbeats 8000000 in
theorem segLaw_any (lq ls lp : List Int) (rel : Bool) (w : World) (hT : Luts w) (nq : lq.length = 4) (ns : ls.length = 4) (np : lp.length = 3) (wq : ∀ n ∈ lq, (Lit.int .i64 n).wf = true) (ws : ∀ n ∈ ls, (Lit.int .i64 n).wf = true) :
    Calls Tryd.prog 6 #[.agg (lq.map (Value.int .i64)).toArray, .agg (ls.map (Value.int .i64)).toArray, .agg (lp.map (Value.int .i64)).toArray, .bool rel] w fun e w' => e = .returned (.bool true) ∧ Below w.heap.size w w' := by
  have hTl := hT.lt
  rw [rowF_lit lq 4 nq .i64, rowF_lit ls 4 ns .i64, rowF_lit lp 3 np .i64]
  have bq := i64_wf wq
  have bs := i64_wf ws
  clear nq ns np wq ws
  obtain ⟨qf, hqf⟩ : ∃ qf : Nat → Int, qf = fun j => lq.getD j 0 := ⟨_, rfl⟩
  obtain ⟨sf, hsf⟩ : ∃ sf : Nat → Int, sf = fun j => ls.getD j 0 := ⟨_, rfl⟩
  have bq' : ∀ j, -9223372036854775808 ≤ qf j ∧ qf j ≤ 9223372036854775807 := by rw [hqf]; exact bq
  have bs' : ∀ j, -9223372036854775808 ≤ sf j ∧ sf j ≤ 9223372036854775807 := by rw [hsf]; exact bs
  obtain ⟨pf, hpf⟩ : ∃ pf : Nat → Int, pf = fun j => lp.getD j 0 := ⟨_, rfl⟩
  rw [← hqf, ← hsf, ← hpf]
  clear hqf hsf hpf bq bs
  obtain ⟨wa, hwa⟩ : ∃ wa, wa = ((w.alloc (.cells (rowF .i64 qf 4) 46)).alloc (.cells (rowF .i64 sf 4) 46)).alloc (.cells (rowF .i64 pf 3) 28) := ⟨_, rfl⟩
  have hsa : wa.heap.size = w.heap.size + 1 + 1 + 1 := by rw [hwa]; simp
  have hba : Below w.heap.size w wa := by rw [hwa]; exact (((Below.refl w.heap.size w).alloc (Nat.le_refl _) _).alloc (by simp) _).alloc (by simp; omega) _
  have r0 : Blk wa w.heap.size 46 (rowF .i64 qf 4) := by rw [hwa]; exact ((Blk.new w _ _).alloc _).alloc _
  have r1 : Blk wa (w.heap.size + 1) 46 (rowF .i64 sf 4) := by
    have h := Blk.new (w.alloc (.cells (rowF .i64 qf 4) 46)) 46 (rowF .i64 sf 4)
    rw [World.size_alloc] at h
    rw [hwa]
    exact h.alloc _
  have r2 : Blk wa (w.heap.size + 1 + 1) 28 (rowF .i64 pf 3) := by
    have h := Blk.new ((w.alloc (.cells (rowF .i64 qf 4) 46)).alloc (.cells (rowF .i64 sf 4) 46)) 28 (rowF .i64 pf 3)
    rw [World.size_alloc, World.size_alloc] at h
    rw [hwa]
    exact h
  have cN := newBoolWriter_any (w.heap.size + 1 + 1 + 1) wa (by omega)
  replace cN := hide cN
  replace r0 := hide r0
  replace r1 := hide r1
  replace r2 := hide r2
  replace hba := hide hba
  replace hT := hide hT
  replace bq' := hide bq'
  replace bs' := hide bs'
  replace hsa := hide hsa
  go_enter Tryd.func6, Tryd.ntmps6
  go_wp2_with fail
  rw [← hwa]
  clear hwa
  (with_reducible refine (cN.out).mono ?_)
  rintro e w1 ⟨g, rfl, hO1, hB1⟩
  have cF := hide fun (dn : List (Bool × Nat)) (b : Bool) (W : World) (hd : Probs dn) (hl : dn.length ≤ 300) hO => flag_ev (w.heap.size + 1 + 1 + 1) g dn b W hd (by omega) hO
  have hW1 : Hid (WObj w1 (w.heap.size + 1 + 1 + 1) g (WS.start.puts [])) := hide hO1
  replace hB1 := hide hB1
  clear hO1 cN
  go_wp2_with fail
  (with_reducible refine (cF.out _ _ _ Probs.nil (by simp) hW1.out).mono ?_)
  rintro e w2 ⟨rfl, hO2, hBl2⟩
  have hB2 := hide (hB1.out.trans hBl2.toBelow)
  replace hO2 := hide hO2
  clear hB1 hBl2 hW1
  go_wp2_with fail
  (with_reducible refine (cF.out _ _ _ (Probs.nil.append (Probs.one _ _ (by decide))) (by simp) hO2.out).mono ?_)
  rintro e w3 ⟨rfl, hO3, hBl3⟩
  have hB3 := hide (hB2.out.trans hBl3.toBelow)
  replace hO3 := hide hO3
  clear hB2 hBl3 hO2
  go_wp2_with fail
  (with_reducible refine (cF.out _ _ _ ((Probs.nil.append (Probs.one _ _ (by decide))).append (Probs.one _ _ (by decide))) (by simp) hO3.out).mono ?_)
  rintro e w4 ⟨rfl, hO4, hBl4⟩
  have hB4 := hide (hB3.out.trans hBl4.toBelow)
  replace hO4 := hide hO4
  clear hB3 hBl4 hO3
  go_wp2_with fail
  (with_reducible refine (cF.out _ _ _ (((Probs.nil.append (Probs.one _ _ (by decide))).append (Probs.one _ _ (by decide))).append (Probs.one _ _ (by decide))) (by simp) hO4.out).mono ?_)
  rintro e w5 ⟨rfl, hO5, hBl5⟩
  have hB5 := hide (hB4.out.trans hBl5.toBelow)
  have hO6 : Hid (WObj w5 (w.heap.size + 1 + 1 + 1) g (WS.start.puts (hdE rel ++ optsE qf 7 0))) := hide (by simpa [hdE, optsE] using hO5)
  have hg5 := hO5.gt
  have hgb := hO5.new
  clear hB4 hBl5 hO4 hO5
  have hb5 := hide (hba.out.trans (hB5.out.mono (by omega)))
  have hz5 : w.heap.size + 1 + 1 + 1 ≤ w5.heap.size := by omega
  have cZ := hide (optional7 (w.heap.size + 1 + 1 + 1) g)
  have e1 := Blk.new w5 46 (rowF .i64 (fun _ => 0) 4)
  have e2 := Blk.new (w5.alloc (.cells (rowF .i64 (fun _ => 0) 4) 46)) 46 (rowF .i64 (fun _ => 0) 4)
  rw [World.size_alloc] at e2
  have hK := hide (e1.alloc (.cells (rowF .i64 (fun _ => 0) 4) 46))
  replace e2 := hide e2
  have hB6 := hide ((hB5.out.alloc hz5 (.cells (rowF .i64 (fun _ => 0) 4) 46)).alloc (by simp; omega) (.cells (rowF .i64 (fun _ => 0) 4) 46))
  have hO7 := hide ((hO6.out.alloc' (.cells (rowF .i64 (fun _ => 0) 4) 46)).alloc' (.cells (rowF .i64 (fun _ => 0) 4) 46))
  clear e1 hO6 hB5 hb5
  go_wp2
  go_loopg [12] 4 (fun k u12 wr => ∃ i : Nat, k + i = 4 ∧ u12 = .int .i64 i ∧ WObj wr (w.heap.size + 1 + 1 + 1) g (WS.start.puts (hdE rel ++ optsE qf 7 i)) ∧ Below (w.heap.size + 1 + 1 + 1) wa wr ∧
    Blk wr w5.heap.size 46 (rowF .i64 (fun j => if j < i then optV (qf j) 7 else 0) 4) ∧ Blk wr (w5.heap.size + 1) 46 (rowF .i64 (fun _ => 0) 4))
  case atStart =>
    refine ⟨0, rfl, rfl, hO7.out, hB6.out, ?_, e2.out⟩
    exact Blk.to hK.out rfl (rowF_congr .i64 4 (fun i _ => if_neg (by omega)))
  case round =>
    obtain ⟨i, hi, rfl, hO, hB, hQ, hS⟩ := hrel
    clear hO7 hB6 hK e2
    cases gk with
    | zero =>
      have hi4 : i = 4 := by omega
      subst hi4
      obtain ⟨wb, hwb⟩ : ∃ wb, wb = wr := ⟨_, rfl⟩
      subst hwb
      have hQ4 := hide (Blk.to hQ rfl (rowF_congr .i64 (G := fun j => if j < 4 then optV (qf j) 7 else 0) (F := fun j => if j < 4 then optV (qf j) 7 else 0) 4 (fun _ _ => rfl)))
      replace hO := hide hO
      replace hB := hide hB
      replace hS := hide hS
      clear hQ hi cZ
      have cZ := hide (optional6 (w.heap.size + 1 + 1 + 1) g)
      go_wp2
      go_loopg [13] 4 (fun k u13 wr => ∃ i : Nat, k + i = 4 ∧ u13 = .int .i64 i ∧ WObj wr (w.heap.size + 1 + 1 + 1) g (WS.start.puts ((hdE rel ++ optsE qf 7 4) ++ optsE sf 6 i)) ∧ Below (w.heap.size + 1 + 1 + 1) wa wr ∧
        Blk wr w5.heap.size 46 (rowF .i64 (fun j => if j < 4 then optV (qf j) 7 else 0) 4) ∧ Blk wr (w5.heap.size + 1) 46 (rowF .i64 (fun j => if j < i then optV (sf j) 6 else 0) 4))
      case atStart =>
        refine ⟨0, rfl, rfl, by rw [optsE, List.append_nil]; exact hO.out, hB.out, hQ4.out, ?_⟩
        exact Blk.to hS.out rfl (rowF_congr .i64 4 (fun i _ => if_neg (by omega)))
      case round =>
        obtain ⟨i, hi, rfl, hO', hB', hQ, hS'⟩ := hrel
        clear hO hB hS hQ4
        cases gk with
        | zero =>
          have hi4 : i = 4 := by omega
          subst hi4
          obtain ⟨wc, hwc⟩ : ∃ wc, wc = wr := ⟨_, rfl⟩
          subst hwc
          have hgc := hO'.gt
          have hNc := hS'.lt
          have hZ0 := Blk.new wc 28 (rowF .i64 (fun _ => 0) 3)
          have hQc := hQ.alloc (.cells (rowF .i64 (fun _ => 0) 3) 28)
          have hSc := hS'.alloc (.cells (rowF .i64 (fun _ => 0) 3) 28)
          have hOc := hO'.alloc' (.cells (rowF .i64 (fun _ => 0) 3) 28)
          have hBc := hB'.alloc (by omega) (.cells (rowF .i64 (fun _ => 0) 3) 28)
          replace hOc := hide hOc
          replace hBc := hide hBc
          replace hQc := hide hQc
          replace hSc := hide hSc
          replace hZ0 := hide hZ0
          clear hQ hS' hO' hB' hi cZ
          have cU := hide fun (n : Nat) (dn : List (Bool × Nat)) (W : World) (hn : n ≤ 255) (hd : Probs dn) (hl : dn.length ≤ 300) hO => number8 (w.heap.size + 1 + 1 + 1) g n dn W hn hd hl hO
          go_wp2
          generalize hN3 : wc.heap.size = N3 at *
          replace hN3 := hide hN3
          go_loopg [15] 3 (fun k u15 wr => ∃ i : Nat, k + i = 3 ∧ u15 = .int .i64 i ∧ WObj wr (w.heap.size + 1 + 1 + 1) g (WS.start.puts (((hdE rel ++ optsE qf 7 4) ++ optsE sf 6 4) ++ psE (pN pf) i)) ∧ Below (w.heap.size + 1 + 1 + 1) wa wr ∧
            Blk wr w5.heap.size 46 (rowF .i64 (fun j => if j < 4 then optV (qf j) 7 else 0) 4) ∧ Blk wr (w5.heap.size + 1) 46 (rowF .i64 (fun j => if j < 4 then optV (sf j) 6 else 0) 4) ∧
            Blk wr N3 28 (rowF .i64 (fun j => if j < i then (pN pf j : Int) else 0) 3))
          case atStart =>
            refine ⟨0, rfl, rfl, by rw [psE, List.append_nil]; exact hOc.out, hBc.out, hQc.out, hSc.out, ?_⟩
            exact Blk.to hZ0.out rfl (rowF_congr .i64 3 (fun i _ => if_neg (by omega)))
          case round =>
            obtain ⟨i, hi, rfl, hO, hB, hQ, hS, hP⟩ := hrel
            clear hOc hBc hQc hSc hZ0
            cases gk with
            | zero =>
              have hi3 : i = 3 := by omega
              subst hi3
              have eS : ((hdE rel ++ optsE qf 7 4) ++ optsE sf 6 4) ++ psE (pN pf) 3 = segE rel qf sf (pN pf) := by simp [segE]
              rw [eS] at hO
              have hp := segE_probs rel qf sf (pN pf)
              have hl := segE_len rel qf sf (pN pf)
              have hinv := (WS.puts_tells (segE rel qf sf (pN pf)) _ _ WS.start_tells Iv.start_ok hp).inv
              have hlen0 := puts_len' (segE rel qf sf (pN pf)) hp
              obtain ⟨hcod, hby, hdl⟩ := done_codes (segE rel qf sf (pN pf)) hp
              have cD := hide (done_anyK (w.heap.size + 1 + 1 + 1) g _ _ wr hinv (by omega) hO)
              have hQl : Hid (Blk wr w5.heap.size 46 #[.int .i64 (optV (qf 0) 7), .int .i64 (optV (qf 1) 7), .int .i64 (optV (qf 2) 7), .int .i64 (optV (qf 3) 7)]) := hide hQ
              have hSl : Hid (Blk wr (w5.heap.size + 1) 46 #[.int .i64 (optV (sf 0) 6), .int .i64 (optV (sf 1) 6), .int .i64 (optV (sf 2) 6), .int .i64 (optV (sf 3) 6)]) := hide hS
              have hPl : Hid (Blk wr N3 28 #[.int .i64 (pN pf 0), .int .i64 (pN pf 1), .int .i64 (pN pf 2)]) := hide hP
              replace hB := hide hB
              replace hcod := hide hcod
              replace hby := hide hby
              replace hp := hide hp
              have hdl2 : ((WS.start.puts (segE rel qf sf (pN pf))).done.length : Int) ≤ 100000000 := by omega
              clear hinv hlen0 hO eS hQ hS hP hl hdl
              go_wp2_with fail
              (with_reducible refine (cD.out).mono ?_)
              rintro e w6 ⟨v6, rfl, hown6, hBl⟩
              obtain ⟨A6, c6, rfl, _, _⟩ := own_len hown6
              have hQ6 := hide (hBl.blk hQl.out (by decide) (by omega))
              have hS6 := hide (hBl.blk hSl.out (by decide) (by omega))
              have hP6 := hide (hBl.blk hPl.out (by decide) (by omega))
              have hb6 := hide (hba.out.trans ((hB.out.trans hBl.toBelow).mono (by omega)))
              have cS := segmentsOf_any A6 c6 _ rel qf sf (pN pf) w6 hby.out hdl2 (pN_bd pf) hcod.out hp.out (Rd.ofOwn hown6) (hT.out.below hb6.out hTl)
              unfold segCells at cS
              replace cS := hide cS
              clear hBl hown6 hQl hSl hPl hB cD
              go_wp2_with fail
              (with_reducible refine (cS.out).mono ?_)
              rintro e w7 ⟨rfl, hb7⟩
              have hQ7 := hQ6.out.below hb7 hQ6.out.lt
              have hS7 := hS6.out.below hb7 hS6.out.lt
              have hP7 := hP6.out.below hb7 hP6.out.lt
              have hL7 := hide (hb6.out.trans (hb7.mono hb6.out.size))
              clear hQ6 hS6 hP6 hb6 hb7 cS
              generalize optV (qf 0) 7 = q0 at *
              generalize optV (qf 1) 7 = q1 at *
              generalize optV (qf 2) 7 = q2 at *
              generalize optV (qf 3) 7 = q3 at *
              generalize optV (sf 0) 6 = s0 at *
              generalize optV (sf 1) 6 = s1 at *
              generalize optV (sf 2) 6 = s2 at *
              generalize optV (sf 3) 6 = s3 at *
              generalize pN pf 0 = p0 at *
              generalize pN pf 1 = p1 at *
              generalize pN pf 2 = p2 at *
              have z0 := hQ7.cell
              have z1 := hS7.cell
              have z2 := hP7.cell
              have n0 : w5.heap.size < w7.heap.size := hQ7.lt
              have n1 : w5.heap.size + 1 < w7.heap.size := hS7.lt
              have n2 : N3 < w7.heap.size := hP7.lt
              have E0 := eql_4 q0 q1 q2 q3
              have E1 := eql_4 s0 s1 s2 s3
              have E2 := eql_3 p0 p1 p2
              have hT8 := hide fun (W : World) (h : Below w.heap.size w W) => readBool_any W (hT.out.below h hTl)
              go_wp2_with fail
              (with_reducible refine (hT8.out _ (hL7.out.alloc hL7.out.size _)).mono ?_)
              rintro e w8 ⟨rfl, hb8⟩
              have hb9 := hide ((hL7.out.alloc hL7.out.size _).trans (hb8.mono (hL7.out.alloc hL7.out.size _).size))
              clear hb8
              go_wp2
              go_ret
              exact ⟨rfl, hb9.out⟩
            | succ k =>
              have hi3 : i < 3 := by omega
              have hii : (i : Int) < 3 := by omega
              have hi0 : (0 : Int) ≤ (i : Int) := by omega
              have hc := (hB.cell (p := ⟨w.heap.size + 1 + 1, i, none⟩) (by show w.heap.size + 1 + 1 < _; omega)).trans (r2.out.rowCell i hi3)
              have hpr : Probs (((hdE rel ++ optsE qf 7 4) ++ optsE sf 6 4) ++ psE (pN pf) i) := (((hdE_probs rel).append (optsE_probs qf 7 4)).append (optsE_probs sf 6 4)).append (psE_probs _ i)
              have hl : (((hdE rel ++ optsE qf 7 4) ++ optsE sf 6 4) ++ psE (pN pf) i).length ≤ 200 := by
                have := optsE_len qf 7 4
                have := optsE_len sf 6 4
                have := psE_len (pN pf) i
                have := Nat.mul_le_mul_right 9 (Nat.le_of_lt hi3)
                simp only [hdE, List.length_append, List.length_cons, List.length_nil]
                omega
              have hEi : psE (pN pf) (i + 1) = psE (pN pf) i ++ pEv (pN pf i) := rfl
              have hm : bits .and .i64 (pf i) 255 = ((pN pf i : Nat) : Int) := (low8 _).trans (pN_int pf i).symm
              have hy255 := pN_bd pf i
              have hP3 := hP.rowCell i hi3
              have hP3f := hP.frozen i
              unfold pEv at hEi
              generalize hDN : ((hdE rel ++ optsE qf 7 4) ++ optsE sf 6 4) ++ psE (pN pf) i = dn at *
              replace hDN := hide hDN
              have hPs : ∀ y : Int, y = (pN pf i : Int) → Blk (wr.setCell ⟨N3, i, none⟩ (.int .i64 y)) N3 28 (rowF .i64 (fun j => if j < i + 1 then (pN pf j : Int) else 0) 3) := by
                intro y hy
                refine Blk.rowSet hP i y ?_
                intro j hj
                by_cases h : j = i
                · subst h; rw [if_pos (by omega), if_pos rfl, hy]
                · rw [if_neg h]
                  by_cases h2 : j < i
                  · rw [if_pos h2, if_pos (by omega)]
                  · rw [if_neg h2, if_neg (by omega)]
              have hOs := fun y : Int => hO.setFar hP (by decide) (by omega) i (.int .i64 y)
              have hQs := fun y : Int => hQ.far (p := ⟨N3, i, none⟩) (by simp; omega) (.int .i64 y)
              have hSs := fun y : Int => hS.far (p := ⟨N3, i, none⟩) (by simp; omega) (.int .i64 y)
              have hBs := fun y : Int => hB.setCell (p := ⟨N3, i, none⟩) (show w.heap.size + 1 + 1 + 1 ≤ N3 by omega) (.int .i64 y)
              generalize hy : pN pf i = y at *
              replace hPs := hide (hPs y rfl)
              replace hOs := hide (hOs y)
              replace hQs := hide (hQs y)
              replace hSs := hide (hSs y)
              replace hBs := hide (hBs y)
              replace hy := hide hy
              replace hEi := hide hEi
              clear hO hB hQ hS hP
              by_cases h255 : y = 255
              · have hne : ((y : Int) == 255) = true := by simp; omega
                have hne' : ((y : Int) != 255) = false := by simp; omega
                replace h255 := hide h255
                go_wp2_with fail
                (with_reducible refine (cF.out dn false _ hpr (by omega) hOs.out).mono ?_)
                rintro e w6 ⟨rfl, hO6, hBl⟩
                have hQ6 := hide (hBl.blk hQs.out (by decide) (by omega))
                have hS6 := hide (hBl.blk hSs.out (by decide) (by omega))
                have hP6 := hBl.blk hPs.out (by decide) (by omega)
                have hB6 := hide (hBs.out.trans hBl.toBelow)
                have hc6 := Blk.rowCell hP6 i hi3
                rw [if_pos (by omega), hy.out] at hc6
                replace hO6 := hide hO6
                replace hP6 := hide hP6
                clear hBl hOs hQs hSs hPs hBs
                go_wp2
                go_roundg k
                case measure => omega
                case rel =>
                  refine ⟨i + 1, by omega, by go_num, ?_, hB6.out, hQ6.out, hS6.out, hP6.out⟩
                  rw [hEi.out, if_pos h255.out, ← List.append_assoc, hDN.out]
                  exact hO6.out
              · have hne : ((y : Int) == 255) = false := by simp; omega
                have hne' : ((y : Int) != 255) = true := by simp; omega
                go_wp2_with fail
                (with_reducible refine (cF.out dn true _ hpr (by omega) hOs.out).mono ?_)
                rintro e w6 ⟨rfl, hO6, hBl⟩
                have hQ6 := hide (hBl.blk hQs.out (by decide) (by omega))
                have hS6 := hide (hBl.blk hSs.out (by decide) (by omega))
                have hP6 := hBl.blk hPs.out (by decide) (by omega)
                have hB6 := hide (hBs.out.trans hBl.toBelow)
                have hc6 := Blk.rowCell hP6 i hi3
                rw [if_pos (by omega), hy.out] at hc6
                replace hO6 := hide hO6
                replace hP6 := hide hP6
                clear hBl hOs hQs hSs hPs hBs
                go_wp2_with fail
                (with_reducible refine (cU.out y _ _ hy255 (hpr.append (Probs.one _ _ (by decide))) (by simp; omega) hO6.out).mono ?_)
                rintro e w7 ⟨rfl, hO7, hBl⟩
                have hQ7 := hide (hBl.blk hQ6.out (by decide) (by omega))
                have hS7 := hide (hBl.blk hS6.out (by decide) (by omega))
                have hP7 := hide (hBl.blk hP6.out (by decide) (by omega))
                have hB7 := hide (hB6.out.trans hBl.toBelow)
                replace hO7 := hide hO7
                clear hBl hO6 hQ6 hS6 hP6 hB6
                go_wp2
                go_roundg k
                case measure => omega
                case rel =>
                  refine ⟨i + 1, by omega, by go_num, ?_, hB7.out, hQ7.out, hS7.out, hP7.out⟩
                  rw [hEi.out, if_neg h255, ← List.append_assoc, hDN.out]
                  simpa using hO7.out
        | succ k =>
          have hi4 : i < 4 := by omega
          have hii : (i : Int) < 4 := by omega
          have hi0 : (0 : Int) ≤ (i : Int) := by omega
          have hc := (hB'.cell (p := ⟨w.heap.size + 1, i, none⟩) (by show w.heap.size + 1 < _; omega)).trans (r1.out.rowCell i hi4)
          have b := bs'.out i
          have hp : Probs ((hdE rel ++ optsE qf 7 4) ++ optsE sf 6 i) := ((hdE_probs rel).append (optsE_probs qf 7 4)).append (optsE_probs sf 6 i)
          have hl : ((hdE rel ++ optsE qf 7 4) ++ optsE sf 6 i).length ≤ 300 := by
            have := optsE_len qf 7 4
            have := optsE_len sf 6 i
            have := Nat.mul_le_mul_right (6 + 2) (Nat.le_of_lt hi4)
            simp only [hdE, List.length_append, List.length_cons, List.length_nil]
            omega
          have hEi : optsE sf 6 (i + 1) = optsE sf 6 i ++ optEv (optN (sf i) 6) 128 6 (decide (sf i < 0)) := rfl
          have cZi := hide fun W hO => cZ.out ((hdE rel ++ optsE qf 7 4) ++ optsE sf 6 i) (sf i) W b.1 b.2 hp hl hO
          replace hO' := hide hO'
          replace hB' := hide hB'
          replace hQ := hide hQ
          replace hS' := hide hS'
          replace hEi := hide hEi
          clear b hp hl
          go_wp2_with fail
          (with_reducible refine (cZi.out _ hO'.out).mono ?_)
          rintro e w6 ⟨rfl, hO6, hBl⟩
          have hQ6 := hide (hBl.blk hQ.out (by decide) (by omega))
          have hS6 := hBl.blk hS'.out (by decide) (by omega)
          have hB6 := hide (hB'.out.trans hBl.toBelow)
          have hc6 := Blk.rowCell hS6 i hi4
          have hf6 := Blk.frozen hS6 i
          replace hO6 := hide hO6
          replace hS6 := hide hS6
          clear hBl
          generalize hy : optV (sf i) 6 = y at *
          replace hy := hide hy
          go_wp2
          go_roundg k
          case measure => omega
          case rel =>
            refine ⟨i + 1, by omega, by go_num, ?_, hB6.out.setCell (show w.heap.size + 1 + 1 + 1 ≤ w5.heap.size + 1 by omega) _, hQ6.out.far (by simp) _, ?_⟩
            · have h := hO6.out.setFar hS6.out (by decide) (by omega) i (.int .i64 y)
              rw [hEi.out, ← List.append_assoc]
              exact h
            · refine Blk.rowSet hS6.out i y ?_
              intro j hj
              by_cases h : j = i
              · subst h; rw [if_pos (by omega), if_pos rfl, hy.out]
              · rw [if_neg h]
                by_cases h2 : j < i
                · rw [if_pos h2, if_pos (by omega)]
                · rw [if_neg h2, if_neg (by omega)]
    | succ k =>
      have hi4 : i < 4 := by omega
      have hii : (i : Int) < 4 := by omega
      have hi0 : (0 : Int) ≤ (i : Int) := by omega
      have hc := (hB.cell (p := ⟨w.heap.size, i, none⟩) (by show w.heap.size < _; omega)).trans (r0.out.rowCell i hi4)
      have b := bq'.out i
      have hp : Probs (hdE rel ++ optsE qf 7 i) := (hdE_probs rel).append (optsE_probs qf 7 i)
      have hl : (hdE rel ++ optsE qf 7 i).length ≤ 300 := by
        have := optsE_len qf 7 i
        have := Nat.mul_le_mul_right (7 + 2) (Nat.le_of_lt hi4)
        simp only [hdE, List.length_append, List.length_cons, List.length_nil]
        omega
      have hEi : optsE qf 7 (i + 1) = optsE qf 7 i ++ optEv (optN (qf i) 7) 128 7 (decide (qf i < 0)) := rfl
      have cZi := hide fun W hO => cZ.out (hdE rel ++ optsE qf 7 i) (qf i) W b.1 b.2 hp hl hO
      replace hO := hide hO
      replace hB := hide hB
      replace hQ := hide hQ
      replace hS := hide hS
      replace hEi := hide hEi
      clear b hp hl
      go_wp2_with fail
      (with_reducible refine (cZi.out _ hO.out).mono ?_)
      rintro e w6 ⟨rfl, hO6, hBl⟩
      have hQ6 := hBl.blk hQ.out (by decide) (by omega)
      have hS6 := hide (hBl.blk hS.out (by decide) (by omega))
      have hB6 := hide (hB.out.trans hBl.toBelow)
      have hc6 := Blk.rowCell hQ6 i hi4
      have hf6 := Blk.frozen hQ6 i
      replace hO6 := hide hO6
      replace hQ6 := hide hQ6
      clear hBl
      generalize hy : optV (qf i) 7 = y at *
      replace hy := hide hy
      go_wp2
      go_roundg k
      case measure => omega
      case rel =>
        refine ⟨i + 1, by omega, by go_num, ?_, hB6.out.setCell hz5 _, ?_, hS6.out.far (by simp) _⟩
        · have h := hO6.out.setFar hQ6.out (by decide) (by omega) i (.int .i64 y)
          rw [hEi.out, ← List.append_assoc]
          exact h
        · refine Blk.rowSet hQ6.out i y ?_
          intro j hj
          by_cases h : j = i
          · subst h; rw [if_pos (by omega), if_pos rfl, hy.out]
          · rw [if_neg h]
            by_cases h2 : j < i
            · rw [if_pos h2, if_pos (by omega)]
            · rw [if_neg h2, if_neg (by omega)]
end Go.Proofs.YthbidebcljegjaaDoor
