/- The law FnRiffReads, walked, and over what came in. -/
import Derived.Test.YthkpoidnhgcjhaaDoorRsF
import Derived.Deep.SlicePairs
import Derived.OpenShut
import Derived.WideKeyPair
namespace Go.Proofs.YthkpoidnhgcjhaaDoor
set_option linter.unusedSimpArgs false
set_option linter.unusedVariables false
set_option linter.unnecessarySimpa false
open Go.RowKit Plain

theorem riff_bound (bl : List Nat) (steps : List (Int × Int)) (hO : ∀ x ∈ bl, x ≤ 255) : (riffP bl steps).2.1.length ≤ steps.length ∧ (∀ c ∈ (riffP bl steps).2.1, c.data.length ≤ bl.length) ∧ (riffP bl steps).2.2.length ≤ steps.length + 1 := by
  unfold riffP
  by_cases h : OkHead bl
  · rw [if_pos h]
    have hi := rrun_inv bl.length steps (rstart bl) ⟨rfl, Nat.le_refl _, Nat.le_refl _, by simp [rstart], fun x hx => hO x (List.mem_of_mem_drop hx), fun c hc => by simp [rstart] at hc, fun c hc => by simp [rstart] at hc, fun l h => by cases h⟩ steps.length (Nat.le_refl _)
    rw [List.take_length] at hi
    exact ⟨hi.ol, fun c hc => by have := hi.dl c hc; omega, by show (rrun _ _ _).kinds.length ≤ _; rw [hi.kl]; exact Nat.le_refl _⟩
  · rw [if_neg h]
    exact ⟨Nat.zero_le _, fun c hc => by simp at hc, by simp⟩
set_option maxRecDepth 100000 in
set_option maxHeartbeats 16000000 in
theorem reads_law (Ab Ac As : Option Addr) (cb cc cs : Nat) (bl : List Nat) (cl : List Int) (steps : List (Int × Int)) (ae au ar ad al ap ah : Addr) (w : World)
    (hb : Rd .u8 w w.heap.size Ab (ofNr bl)) (hbc : bl.length ≤ cb) (hblI : (bl.length : Int) ≤ 9223372036854775807) (hO : ∀ x ∈ bl, x ≤ 255) (hc : Rd .i64 w w.heap.size Ac cl) (hclI : (cl.length : Int) ≤ 9223372036854775807) (hcw : ∀ x ∈ cl, -9223372036854775808 ≤ x ∧ x ≤ 9223372036854775807)
    (hs : RdS w w.heap.size As steps) (hslI : (steps.length : Int) ≤ 9223372036854775807) (hsw : ∀ x ∈ steps, (-9223372036854775808 ≤ x.1 ∧ x.1 ≤ 9223372036854775807) ∧ -9223372036854775808 ≤ x.2 ∧ x.2 ≤ 9223372036854775807) (hE : Errs w w.heap.size ae au ar ad al ap ah) :
    Calls Tryd.prog 5 #[.slice Ab bl.length cb, .slice Ac cl.length cc, .slice As steps.length cs] w fun e w' => e = .returned (.bool true) ∧ Upd [] w w' := by
  have u0 := hide (Upd.refl [] w)
  by_cases h1 : (2147483647 : Int) < (bl.length : Int) ∨ (2147483647 : Int) < (cl.length : Int) ∨ (2147483647 : Int) < (steps.length : Int)
  · clear hb hc hs hE hO hcw hsw
    by_cases h2 : (2147483647 : Int) < (bl.length : Int)
    · clear h1
      go_enter Tryd.func5, Tryd.ntmps5
      go_wp2
      go_ret
      exact ⟨rfl, u0.out⟩
    · by_cases h3 : (2147483647 : Int) < (cl.length : Int)
      · clear h1
        go_enter Tryd.func5, Tryd.ntmps5
        go_wp2
        go_ret
        exact ⟨rfl, u0.out⟩
      · have h4 : (2147483647 : Int) < (steps.length : Int) := by omega
        clear h1
        go_enter Tryd.func5, Tryd.ntmps5
        go_wp2
        go_ret
        exact ⟨rfl, u0.out⟩
  have hb2 : ¬ (2147483647 : Int) < (bl.length : Int) := by omega
  have hc2 : ¬ (2147483647 : Int) < (cl.length : Int) := by omega
  have hs2 : ¬ (2147483647 : Int) < (steps.length : Int) := by omega
  clear h1
  have cR := hide (fun (W : World) (u : Upd [] w W) => readFile_any W ae au ar ad al ap ah (hE.at_ u))
  by_cases h1 : (1048576 : Int) < (bl.length : Int) ∨ (1048576 : Int) < (cl.length : Int) ∨ (4096 : Int) < (steps.length : Int)
  · have cR0 := hide (cR.out w u0.out)
    clear hb hc hs hE hO hcw hsw cR
    by_cases h2 : (1048576 : Int) < (bl.length : Int)
    · clear h1
      go_enter Tryd.func5, Tryd.ntmps5
      go_wp2_with (first | (go_at_call 9; (with_reducible refine (cR0.out).mono ?_); rintro e w' ⟨rfl, hu⟩) | fail)
      go_ret
      exact ⟨rfl, hu⟩
    · by_cases h3 : (1048576 : Int) < (cl.length : Int)
      · clear h1
        go_enter Tryd.func5, Tryd.ntmps5
        go_wp2_with (first | (go_at_call 9; (with_reducible refine (cR0.out).mono ?_); rintro e w' ⟨rfl, hu⟩) | fail)
        go_ret
        exact ⟨rfl, hu⟩
      · have h4 : (4096 : Int) < (steps.length : Int) := by omega
        clear h1
        go_enter Tryd.func5, Tryd.ntmps5
        go_wp2_with (first | (go_at_call 9; (with_reducible refine (cR0.out).mono ?_); rintro e w' ⟨rfl, hu⟩) | fail)
        go_ret
        exact ⟨rfl, hu⟩
  have hb3 : ¬ (1048576 : Int) < (bl.length : Int) := by omega
  have hc3 : ¬ (1048576 : Int) < (cl.length : Int) := by omega
  have hs3 : ¬ (4096 : Int) < (steps.length : Int) := by omega
  clear h1
  have hbd := riff_bound bl steps hO
  have hrs := riff_spec bl steps
  have cA := hide (fun (W : World) (u : Upd [] w W) => asked_any As cs w.heap.size steps W (hs.updS u (Nat.le_refl _) (by simp)) u.size (by omega))
  have cT := hide (fun (W : World) (u : Upd [] w W) (A1 : Option Addr) (c1 : Nat) (h : RdS W W.heap.size A1 steps) => told_any W Ab A1 cb c1 bl steps ((hb.upd u (Nat.le_refl _) (by simp)).more u.size) hbc (by omega) hO h (by omega) hsw)
  have cI := hide (fun (W : World) (u : Upd [] w W) => riff_any W Ab Ac As cb cc cs bl cl steps ae au ar ad al ap ah ((hb.upd u (Nat.le_refl _) (by simp)).more u.size) hbc (by omega) hO ((hc.upd u (Nat.le_refl _) (by simp)).more u.size) (by omega) hcw ((hs.updS u (Nat.le_refl _) (by simp)).moreS u.size) (by omega) hsw (hE.at_ u))
  have cS := hide (fun (W : World) (u : Upd [] w W) (A1 : Option Addr) (c1 : Nat) (h : RdS W W.heap.size A1 steps) => sriff_any W Ab Ac A1 cb cl.length cc c1 bl steps ((hb.upd u (Nat.le_refl _) (by simp)).more u.size) hbc (by omega) hO h (by omega) hsw)
  have cA0 := hide (cA.out w u0.out)
  clear hb hc hs hE hO hcw hsw
  replace hbd := hide hbd
  replace hrs := hide hrs
  go_enter Tryd.func5, Tryd.ntmps5
  go_wp2_with fail
  (with_reducible refine (cA0.out).mono ?_)
  rintro e w1 ⟨v1, rfl, hk1, hu1⟩
  obtain ⟨A1, c1, rfl⟩ := own_shape hk1
  have cT1 := hide (cT.out w1 hu1 A1 c1 (RdS.ofOwnS hk1))
  have u1 := hide hu1
  clear hk1 hu1 cA0 cT
  cases hop : (specP bl steps).2 with
  | true =>
    rw [hop] at cT1
    replace hop := hide hop
    go_wp2_with fail
    (with_reducible refine (cT1.out).mono ?_)
    rintro e w2 ⟨rfl, hu2⟩
    have u2 := hide (u1.out.trans hu2)
    have cR2 := hide (cR.out w2 u2.out)
    clear hu2
    go_wp2_with (first | (go_at_call 9; (with_reducible refine (cR2.out).mono ?_); rintro e w' ⟨rfl, hu⟩) | fail)
    go_ret
    exact ⟨rfl, u2.out.trans hu⟩
  | false =>
    rw [hop] at cT1
    have hrs2 := hrs.out hop
    clear hrs
    replace hop := hide hop
    have hbd2 := hbd.out
    rw [hrs2] at cI hbd2
    replace cI := hide cI
    generalize (specP bl steps).1 = r at *
    obtain ⟨rf, rc, rk⟩ := r
    simp only at hbd2
    obtain ⟨hbo, hbd3, hbk⟩ := hbd2
    replace hrs2 := hide hrs2
    replace hbd3 := hide hbd3
    clear hbd
    go_wp2_with fail
    (with_reducible refine (cT1.out).mono ?_)
    rintro e w2 ⟨rfl, hu2⟩
    have u2 := hide (u1.out.trans hu2)
    have cI2 := hide (cI.out.out w2 u2.out)
    clear hu2 cI
    go_wp2_with fail
    (with_reducible refine (cI2.out).mono ?_)
    rintro e w3 ⟨ov, kv, rfl, hu3, ho3, hk3⟩
    unfold four
    generalize hg0 : rf.getD 0 0 = a0 at *
    generalize hg1 : rf.getD 1 0 = a1 at *
    generalize hg2 : rf.getD 2 0 = a2 at *
    generalize hg3 : rf.getD 3 0 = a3 at *
    replace hg0 := hide hg0
    replace hg1 := hide hg1
    replace hg2 := hide hg2
    replace hg3 := hide hg3
    have ho3' : Outs w3 w2.heap.size ov rc := ho3
    obtain ⟨A3, c3, rfl, hR3⟩ := ho3'.reads
    have hk3' : w3.ownsRow w2.heap.size 3 1 kv rk.length (rk.map (Value.int .i64)) := hk3
    obtain ⟨A4, c4, rfl⟩ := own_shape hk3'
    have hkR3 := Rd.ofOwn hk3'
    have uF := (Upd.refl [] w3).alloc (.cells #[.int .u8 (a0 : Nat), .int .u8 (a1 : Nat), .int .u8 (a2 : Nat), .int .u8 (a3 : Nat)] 22)
    have u4 := (u2.out.trans hu3).trans uF
    have hbF := Blk.new w3 22 #[.int .u8 (a0 : Nat), .int .u8 (a1 : Nat), .int .u8 (a2 : Nat), .int .u8 (a3 : Nat)]
    have cA4 := hide (cA.out _ u4)
    have hsz4 : w3.heap.size < (w3.alloc (.cells #[.int .u8 (a0 : Nat), .int .u8 (a1 : Nat), .int .u8 (a2 : Nat), .int .u8 (a3 : Nat)] 22)).heap.size := by simp
    replace hR3 := hide (hR3.upd uF (Nat.le_refl _) (by simp))
    replace hkR3 := hide (hkR3.upd uF (Nat.le_refl _) (by simp))
    replace hbF := hide hbF
    replace u4 := hide u4
    clear ho3 ho3' hk3 hk3' hu3 cI2 cT1 uF
    go_wp2_with fail
    (with_reducible refine (cA4.out).mono ?_)
    rintro e w5 ⟨v5, rfl, hk5, hu5⟩
    obtain ⟨A5, c5, rfl⟩ := own_shape hk5
    have u5 := u4.out.trans hu5
    have cS5 := hide (cS.out w5 u5 A5 c5 (RdS.ofOwnS hk5))
    have hsz5 := hu5.size
    replace hR3 := hide (hR3.out.upd hu5 (Nat.le_of_lt hsz4) (by simp))
    replace hkR3 := hide (hkR3.out.upd hu5 (Nat.le_of_lt hsz4) (by simp))
    replace hbF := hide (hbF.out.upd hu5 (by simp))
    replace u5 := hide u5
    clear hk5 hu5 cA4 cA cS
    go_wp2_with fail
    (with_reducible refine (cS5.out).mono ?_)
    rintro e w6 ⟨ov, kv, rfl, hu6, ⟨V6, ho6⟩, hk6⟩
    have ho6' : SOuts w6 w5.heap.size ov rc V6 := ho6
    obtain ⟨A6, c6, rfl, hR6⟩ := ho6'.reads
    have hk6' : w6.ownsRow w5.heap.size 3 1 kv rk.length (rk.map (Value.int .i64)) := hk6
    obtain ⟨A7, c7, rfl⟩ := own_shape hk6'
    have hkR6 := Rd.ofOwn hk6'
    have hfo : four (rf, rc, rk).1 = .agg #[.int .u8 (a0 : Nat), .int .u8 (a1 : Nat), .int .u8 (a2 : Nat), .int .u8 (a3 : Nat)] := by rw [four, ← hg0.out, ← hg1.out, ← hg2.out, ← hg3.out]
    rw [hfo]
    have uG := (Upd.refl [] w6).alloc (.cells #[.int .u8 (a0 : Nat), .int .u8 (a1 : Nat), .int .u8 (a2 : Nat), .int .u8 (a3 : Nat)] 22)
    have u7 := hide ((u5.out.trans hu6).trans uG)
    have hsz6 := hu6.size
    have hR3' := hide ((hR3.out.upd hu6 (by omega) (by simp)).upd uG (by omega) (by simp))
    have hkR3' := hide ((hkR3.out.upd hu6 (by omega) (by simp)).upd uG (by omega) (by simp))
    have hbF' := (hbF.out.upd hu6 (by simp)).alloc (.cells #[.int .u8 (a0 : Nat), .int .u8 (a1 : Nat), .int .u8 (a2 : Nat), .int .u8 (a3 : Nat)] 22)
    have hR6' := hR6.upd uG (Nat.le_refl _) (by simp)
    have hkR6' := hide (hkR6.upd uG (Nat.le_refl _) (by simp))
    have hsz7 : w6.heap.size < (w6.alloc (.cells #[.int .u8 (a0 : Nat), .int .u8 (a1 : Nat), .int .u8 (a2 : Nat), .int .u8 (a3 : Nat)] 22)).heap.size := by simp
    have cLk := hide (likened_any A6 c6 w6.heap.size rc _ hR6' (Nat.le_of_lt hsz7) (by omega))
    have r0 := hbF'.cell 0
    have r1 := hbF'.cell 1
    have r2 := hbF'.cell 2
    have r3 := hbF'.cell 3
    simp at r0 r1 r2 r3
    have hN := fun W => arr4_same (a0 : Nat) (a1 : Nat) (a2 : Nat) (a3 : Nat) W
    have hne7 : ¬ w3.heap.size = w6.heap.size := by omega
    clear ho6 ho6' hk6 hk6' hu6 cS5 uG hbF hbF' hR6 hkR6 hR6' hR3 hkR3 hfo
    go_wp2_with fail
    (with_reducible refine (cLk.out).mono ?_)
    rintro e w8 ⟨A8, c8, rfl, hR8, hu8⟩
    have hsz8 := hu8.size
    have u8 := hide (u7.out.trans hu8)
    have cCh := hide (chunks_same A3 A8 c3 c8 w3.heap.size w8.heap.size rc w8 (by omega) (fun x hx => by have := hbd3.out x hx; omega) (hR3'.out.upd hu8 (by omega) (by simp)) hR8)
    have hkA := hide (hkR3'.out.upd hu8 (by omega) (by simp))
    have hkB := hide (hkR6'.out.upd hu8 (by omega) (by simp))
    clear hu8 hR8 cLk r0 r1 r2 r3 hR3' hkR3' hkR6' u7
    go_wp2_with fail
    (with_reducible refine (cCh.out).mono ?_)
    rintro e w9 ⟨rfl, n9, hw9⟩
    have hkA9 : Rd .i64 w9 w3.heap.size A4 rk := by rw [← hw9]; exact hkA.out.drewN n9
    have hkB9 : Rd .i64 w9 w6.heap.size A7 rk := by rw [← hw9]; exact hkB.out.drewN n9
    have cIn := ints_same A4 A7 c4 c7 rk w9 w3.heap.size w6.heap.size (by omega) hkA9 hkB9
    have u9 : Upd [] w w9 := by rw [← hw9]; exact u8.out.drewN n9
    replace cIn := hide cIn
    replace u9 := hide u9
    clear hw9 cCh hkA hkB hkA9 hkB9 u8
    go_wp2_with fail
    (with_reducible refine (cIn.out).mono ?_)
    rintro e w10 ⟨rfl, n10, hw10⟩
    have u10 : Upd [] w w10 := by rw [← hw10]; exact u9.out.drewN n10
    have cR10 := hide (cR.out w10 u10)
    replace u10 := hide u10
    clear hw10 cIn
    go_wp2_with fail
    (with_reducible refine (cR10.out).mono ?_)
    rintro e w11 ⟨rfl, hu11⟩
    have u11 := hide (u10.out.trans hu11)
    clear hu11 cR10
    go_wp2_with fail
    go_ret
    exact ⟨rfl, u11.out⟩
end Go.Proofs.YthkpoidnhgcjhaaDoor

namespace Go.Proofs.YthkpoidnhgcjhaaDoor
set_option linter.unusedSimpArgs false
set_option linter.unusedVariables false
open Go.RowKit Plain Go.ChangeShapes Go.WideShapes

section
variable {H : Type} {enc : TypeId × Value → H} {P : Program} {t e q : TypeId} {W : World} {base : Nat} {held : Bool}
theorem open_steps {f0 f1 : Field} (hs : P.underlying t = some (.slice e)) (hu : P.underlying e = some (.struct #[f0, f1])) (ce : P.cellsOf e = 2) (o0 : f0.offset = 0) (o1 : f1.offset = 1) (t0 : f0.type = q) (t1 : f1.type = q) (cq : P.cellsOf q = 1) (hq : P.underlying q = some (.int .i64))
    {fuel : Nat} {A : Option Addr} {len cap : Nat} {x : DataW H × List MemPlace} (h : DataW.trod enc P W base (fun _ => true) held fuel t [.slice A len cap] = some x) :
    ∃ l : List (Int × Int), l.length = len ∧ RdS W W.heap.size A l ∧ (∀ x ∈ l, (-9223372036854775808 ≤ x.1 ∧ x.1 ≤ 9223372036854775807) ∧ -9223372036854775808 ≤ x.2 ∧ x.2 ≤ 9223372036854775807) ∧ (len : Int) ≤ 9223372036854775807 := by
  rcases Deep.open_slice_pairs hs hu ce o0 o1 (by rw [t0]; exact cq) (by rw [t1]; exact cq) h with ⟨h0, _⟩ | ⟨a, len', cap', m, n, V0, V1, D0, D1, P0, P1, h0, hb, hl, hm, hmm, _, hx⟩
  · simp at h0
    obtain ⟨rfl, rfl, rfl⟩ := h0
    exact ⟨[], rfl, fun h => absurd rfl h, by simp, by omega⟩
  · simp at h0
    obtain ⟨rfl, rfl, rfl⟩ := h0
    simp only [if_true] at hmm
    subst hmm
    have each : ∀ i, i < len → ∃ p : Int × Int, W.cell? (a.add (i * 2)) = some (.int .i64 p.1) ∧ W.cell? (a.add (i * 2 + 1)) = some (.int .i64 p.2) ∧ (-9223372036854775808 ≤ p.1 ∧ p.1 ≤ 9223372036854775807) ∧ -9223372036854775808 ≤ p.2 ∧ p.2 ≤ 9223372036854775807 := by
      intro i hi
      obtain ⟨g0, g1, g2, g3⟩ := hx i (by omega)
      rw [t0] at g2
      rw [t1] at g3
      obtain ⟨x, ex, _, wx⟩ := DataW.trod_int hq g2
      obtain ⟨y, ey, _, wy⟩ := DataW.trod_int hq g3
      have ex' : V0 i = .int .i64 x := by simpa using ex
      have ey' : V1 i = .int .i64 y := by simpa using ey
      exact ⟨(x, y), by rw [g0, ex'], by rw [g1, ey'], Go.bounds_i64 wx, Go.bounds_i64 wy⟩
    obtain ⟨p, hp⟩ := Deep.choose_lt each
    have hml : maxLen = 9223372036854775807 := rfl
    refine ⟨(List.range len).map p, by simp, fun hne => ?_, fun z hz => ?_, by rw [hml] at hm; omega⟩
    · have hpos : 0 < len := by
        rcases Nat.eq_zero_or_pos len with h | h
        · subst h; simp at hne
        · exact h
      obtain ⟨b, off, spot⟩ := a
      have hc0 := (hp 0 hpos).1
      have hspot : spot = none := by simpa [Addr.add] using World.cell?_spot hc0
      subst hspot
      refine ⟨b, off, rfl, World.block_lt_of_cell? _ _ hc0, fun j hj => ?_⟩
      have hj' : j < len := by simpa using hj
      obtain ⟨g0, g1, _⟩ := hp j hj'
      rw [Addr.add_lit] at g0 g1
      have e : ((List.range len).map p).getD j (0, 0) = p j := by simp [hj']
      rw [e]
      exact ⟨g0, by rw [Nat.add_assoc]; exact g1⟩
    · obtain ⟨i, hi, rfl⟩ := List.mem_map.1 hz
      exact (hp i (List.mem_range.1 hi)).2.2
end
theorem nr_ofR {l : List Int} (h : ∀ z ∈ l, 0 ≤ z ∧ z ≤ 255) : ofNr (l.map Int.toNat) = l ∧ ∀ x ∈ l.map Int.toNat, x ≤ 255 := by
  refine ⟨?_, fun x hx => ?_⟩
  · unfold ofNr
    rw [List.map_map]
    conv => rhs; rw [← List.map_id l]
    refine List.map_congr_left (fun z hz => ?_)
    have := h z hz
    show ((z.toNat : Nat) : Int) = z
    omega
  · obtain ⟨z, hz, rfl⟩ := List.mem_map.1 hx
    have := h z hz
    omega
theorem reads_card (l0 l1 : List Int) (A0 A1 A2 : Option Addr) (c0 c1 c2 : Nat) (L2 : List (Int × Int)) (W : World) (hr0 : Rd .u8 W W.heap.size A0 l0) (hw0 : ∀ z ∈ l0, (Lit.int .u8 z).wf = true) (hm0 : l0.length ≤ 9223372036854775807) (hc0 : l0.length ≤ c0)
    (hr1 : Rd .i64 W W.heap.size A1 l1) (hw1 : ∀ z ∈ l1, (Lit.int .i64 z).wf = true) (hm1 : l1.length ≤ 9223372036854775807)
    (hr2 : RdS W W.heap.size A2 L2) (hw2 : ∀ x ∈ L2, (-9223372036854775808 ≤ x.1 ∧ x.1 ≤ 9223372036854775807) ∧ -9223372036854775808 ≤ x.2 ∧ x.2 ≤ 9223372036854775807) (hm2 : (L2.length : Int) ≤ 9223372036854775807) (hE : ∃ ae au ar ad al ap ah, Errs W W.heap.size ae au ar ad al ap ah) :
    Calls Tryd.prog 5 #[.slice A0 l0.length c0, .slice A1 l1.length c1, .slice A2 L2.length c2] W fun e w' => e = .returned (.bool true) ∧ Below W.heap.size W w' := by
  obtain ⟨h1, h2⟩ := nr_ofR (fun z hz => Go.bounds_u8 (hw0 z hz))
  obtain ⟨ae, au, ar, ad, al, ap, ah, hE⟩ := hE
  have h := reads_law A0 A1 A2 c0 c1 c2 (l0.map Int.toNat) l1 L2 ae au ar ad al ap ah W (by rw [h1]; exact hr0) (by rw [List.length_map]; exact hc0) (by rw [List.length_map]; omega) h2 hr1 (by omega) (fun x hx => Go.bounds_i64 (hw1 x hx)) hr2 hm2 hw2 hE
  rw [List.length_map] at h
  exact h.mono fun e w' h => ⟨h.1, h.2.toBelow⟩
end Go.Proofs.YthkpoidnhgcjhaaDoor
