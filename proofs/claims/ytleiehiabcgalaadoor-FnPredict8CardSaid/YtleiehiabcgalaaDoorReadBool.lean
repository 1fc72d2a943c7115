/- 'readBool': the walk. -/
import Derived.Test.YtleiehiabcgalaaDoorBoolAll
import Derived.Deep.RegionWith
namespace Go.Proofs.YtleiehiabcgalaaDoor
set_option linter.unusedSimpArgs false
set_option linter.unusedVariables false
open Go.RowKit Plain

theorem WObj.drew {w : World} {base g : Nat} {s : WS} (h : WObj w base g s) : WObj w.drew base g s := ⟨h.new, h.blk⟩
theorem WObj.drewN {w : World} {base g : Nat} {s : WS} (h : WObj w base g s) (n : Nat) : WObj (w.drewN n) base g s := ⟨h.new, h.blk⟩

def three : List (Bool × Nat) := [(true, 128), (false, 128), (true, 128)]
theorem three_row (j : Nat) (hj : j < (ofN (three.map (·.2))).length) : (#[Value.int .i64 128, Value.int .i64 128, Value.int .i64 128] : Array Value)[j]? = some (.int .i64 ((ofN (three.map (·.2))).getD j 0)) := by
  have h3 : (ofN (three.map (·.2))).length = 3 := rfl
  rcases j with _ | _ | _ | j
  · rfl
  · rfl
  · rfl
  · omega
theorem three_probs : Probs three := by intro x hx; simp [three] at hx; rcases hx with rfl | rfl | rfl <;> decide

theorem putlen (s : WS) (e : Bool × Nat) (v : Iv) (h : s.tells v) (hv : v.ok) (hp : e.2 ≤ 255) : 8 * (s.put e).out.length ≤ v.sh + 7 := by
  have ht := s.put_tells v h hv e hp
  have h1 := ht.sh
  have h2 := ht.inv.b24
  have h3 := (v.step_sh hv e hp).2
  have h4 := ht.inv.b8
  by_cases ho : (s.put e).out = []
  · rw [ho]; simp
  · have := h4 ho
    unfold WS.sh at h1
    omega

theorem puts_len (l : List (Bool × Nat)) (hp : Probs l) : (WS.start.puts l).out.length ≤ l.length := by
  have ht := WS.puts_tells l _ _ WS.start_tells Iv.start_ok hp
  have h1 := ht.sh
  have h2 := (Iv.steps_sh l _ Iv.start_ok hp).2
  have h4 := ht.inv.b8
  have h5 : Iv.start.sh = 0 := rfl
  by_cases ho : (WS.start.puts l).out = []
  · rw [ho]; simp
  · have := h4 ho
    unfold WS.sh at h1
    omega

set_option maxHeartbeats 4000000 in
theorem readBool_any (w : World) (hL : Luts w) : Calls Tryd.prog 6 #[] w fun e w' => e = .returned (.bool true) ∧ Below w.heap.size w w' := by
  have hLt := hL.lt
  have t0 := WS.start_tells
  have t1 := WS.put_tells _ _ t0 Iv.start_ok (true, 128) (by decide)
  have o1 := Iv.step_ok _ Iv.start_ok (true, 128) (by decide)
  have t2 := WS.put_tells _ _ t1 o1 (false, 128) (by decide)
  have o2 := Iv.step_ok _ o1 (false, 128) (by decide)
  have t3 := WS.put_tells _ _ t2 o2 (true, 128) (by decide)
  have l1 := putlen _ (true, 128) _ t0 Iv.start_ok (by decide)
  have l2 := putlen _ (false, 128) _ t1 o1 (by decide)
  have l3 := putlen _ (true, 128) _ t2 o2 (by decide)
  have s1 := (Iv.step_sh _ Iv.start_ok (true, 128) (by decide)).2
  have s2 := (Iv.step_sh _ o1 (false, 128) (by decide)).2
  have s0 : Iv.start.sh = 0 := rfl
  obtain ⟨hcod, hby, hdl⟩ := done_codes three three_probs
  have hdl' : (WS.start.puts three).done.length ≤ 15 := hdl
  have e3 : WS.start.puts three = ((WS.start.put (true, 128)).put (false, 128)).put (true, 128) := rfl
  rw [e3] at hcod hby hdl'
  replace hL := hide hL
  replace t0 := hide t0
  replace t1 := hide t1
  replace t2 := hide t2
  replace t3 := hide t3
  replace o1 := hide o1
  replace o2 := hide o2
  replace hcod := hide hcod
  replace hby := hide hby
  clear e3
  have m1 : (WS.start.put (true, 128)).out.length ≤ 50000000 := by omega
  have m2 : ((WS.start.put (true, 128)).put (false, 128)).out.length ≤ 50000000 := by omega
  have m3 : (((WS.start.put (true, 128)).put (false, 128)).put (true, 128)).out.length ≤ 50000000 := by omega
  replace m1 := hide m1
  replace m2 := hide m2
  replace m3 := hide m3
  replace hdl' := hide hdl'
  clear l1 l2 l3 s1 s2 s0 hdl
  go_enter Tryd.func6, Tryd.ntmps6
  go_wp2_with (first
    | (go_at_call 12; refine (newBoolWriter_any w.heap.size w (Nat.le_refl _)).mono ?_; rintro e w1 ⟨g, rfl, hO1, hB1⟩; replace hO1 := hide hO1; replace hB1 := hide hB1)
    | (go_at_call 13; refine (flag_any w.heap.size g _ _ true w3 t2.out o2.out m2.out hO3.out).mono ?_; rintro e w4 ⟨rfl, hO4, hB4⟩; replace hO4 := hide hO4; replace hB4 := hide hB4)
    | (go_at_call 13; refine (flag_any w.heap.size g _ _ false w2 t1.out o1.out m1.out hO2.out).mono ?_; rintro e w3 ⟨rfl, hO3, hB3⟩; replace hO3 := hide hO3; replace hB3 := hide hB3)
    | (go_at_call 13; refine (flag_any w.heap.size g _ _ true w1 t0.out Iv.start_ok (by decide) hO1.out).mono ?_; rintro e w2 ⟨rfl, hO2, hB2⟩; replace hO2 := hide hO2; replace hB2 := hide hB2)
    | (go_at_call 15; refine (done_any w.heap.size g _ _ w4 t3.out.inv m3.out hO4.out).mono ?_; rintro e w5 ⟨v, rfl, hown, hB5⟩; obtain ⟨A, c, rfl, _, _⟩ := own_len hown; have hBw := hide ((((hB1.out.trans hB2.out).trans hB3.out).trans hB4.out).trans hB5); have hsz5 : w.heap.size ≤ w5.heap.size := hBw.out.size; replace hown := hide hown; clear hB1 hB2 hB3 hB4 hB5)
    | (go_at_call 14; refine (bools_any A (some ⟨w5.heap.size, 0, none⟩) c 3 0 _ three _ hby.out (by have := hdl'.out; omega) (by decide) hcod.out three_probs (Rd.ofOwn (hown.out.alloc _)) (Rd.ofCells (by simp) (by intro j hj; rw [Nat.zero_add, World.cell?_alloc_new]; exact three_row j hj)) (hL.out.below (hBw.out.alloc hsz5 _) hLt)).mono ?_; rintro e w6 ⟨v6, rfl, hown6, hB6⟩; obtain ⟨A6, c6, rfl, _, _⟩ := own_len hown6; have hpos6 := hown6.form (by decide); obtain ⟨g6, cap6, hv6, _, _⟩ := hpos6; obtain ⟨rfl, rfl⟩ : A6 = some ⟨g6, 0, none⟩ ∧ c6 = cap6 := (by injection hv6 with h1 h2 h3; exact ⟨h1, h3⟩); have k0 := hown6.cellAt 0 (by decide); have k1 := hown6.cellAt 1 (by decide); have k2 := hown6.cellAt 2 (by decide); simp [three] at k0 k1 k2; replace hown6 := hide hown6; have hBf := hide ((hBw.out.alloc hsz5 _).trans (hB6.mono (by simp; omega))); clear hB6)
    | go_in)
  go_ret
  exact ⟨rfl, hBf.out⟩

end Go.Proofs.YtleiehiabcgalaaDoor
