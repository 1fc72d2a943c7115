/- 'readBool', and the law: truths are read as they were written. The walks. -/
import Derived.Test.YtldilncpenellaaDoorBoolAll
import Derived.Deep.RegionWith
namespace Go.Proofs.YtldilncpenellaaDoor
set_option linter.unusedSimpArgs false
set_option linter.unusedVariables false
open Go.RowKit Plain

theorem WObj.drew {w : World} {base g : Nat} {s : WS} (h : WObj w base g s) : WObj w.drew base g s := ⟨h.new, h.blk⟩
theorem WObj.drewN {w : World} {base g : Nat} {s : WS} (h : WObj w base g s) (n : Nat) : WObj (w.drewN n) base g s := ⟨h.new, h.blk⟩

def three : List (Bool × Nat) := [(true, 128), (false, 128), (true, 128)]
theorem three_row (j : Nat) (hj : j < (ofN (three.map (·.2))).length) : (#[Value.int .i64 128, Value.int .i64 128, Value.int .i64 128] : Array Value)[j]? = some (.int .i64 ((ofN (three.map (·.2))).getD j 0)) := by
  have h3 : (ofN (three.map (·.2))).length = 3 := rfl
  rcases j with _ | _ | _ | j
  · rfl
  · rfl
  · rfl
  · omega
theorem three_probs : Probs three := by intro x hx; simp [three] at hx; rcases hx with rfl | rfl | rfl <;> decide

theorem putlen (s : WS) (e : Bool × Nat) (v : Iv) (h : s.tells v) (hv : v.ok) (hp : e.2 ≤ 255) : 8 * (s.put e).out.length ≤ v.sh + 7 := by
  have ht := s.put_tells v h hv e hp
  have h1 := ht.sh
  have h2 := ht.inv.b24
  have h3 := (v.step_sh hv e hp).2
  have h4 := ht.inv.b8
  by_cases ho : (s.put e).out = []
  · rw [ho]; simp
  · have := h4 ho
    unfold WS.sh at h1
    omega

theorem puts_len (l : List (Bool × Nat)) (hp : Probs l) : (WS.start.puts l).out.length ≤ l.length := by
  have ht := WS.puts_tells l _ _ WS.start_tells Iv.start_ok hp
  have h1 := ht.sh
  have h2 := (Iv.steps_sh l _ Iv.start_ok hp).2
  have h4 := ht.inv.b8
  have h5 : Iv.start.sh = 0 := rfl
  by_cases ho : (WS.start.puts l).out = []
  · rw [ho]; simp
  · have := h4 ho
    unfold WS.sh at h1
    omega

set_option maxHeartbeats 4000000 in
theorem readBool_any (w : World) (hL : Luts w) : Calls Tryd.prog 8 #[] w fun e w' => e = .returned (.bool true) ∧ Below w.heap.size w w' := by
  have hLt := hL.lt
  have t0 := WS.start_tells
  have t1 := WS.put_tells _ _ t0 Iv.start_ok (true, 128) (by decide)
  have o1 := Iv.step_ok _ Iv.start_ok (true, 128) (by decide)
  have t2 := WS.put_tells _ _ t1 o1 (false, 128) (by decide)
  have o2 := Iv.step_ok _ o1 (false, 128) (by decide)
  have t3 := WS.put_tells _ _ t2 o2 (true, 128) (by decide)
  have l1 := putlen _ (true, 128) _ t0 Iv.start_ok (by decide)
  have l2 := putlen _ (false, 128) _ t1 o1 (by decide)
  have l3 := putlen _ (true, 128) _ t2 o2 (by decide)
  have s1 := (Iv.step_sh _ Iv.start_ok (true, 128) (by decide)).2
  have s2 := (Iv.step_sh _ o1 (false, 128) (by decide)).2
  have s0 : Iv.start.sh = 0 := rfl
  obtain ⟨hcod, hby, hdl⟩ := done_codes three three_probs
  have hdl' : (WS.start.puts three).done.length ≤ 15 := hdl
  have e3 : WS.start.puts three = ((WS.start.put (true, 128)).put (false, 128)).put (true, 128) := rfl
  rw [e3] at hcod hby hdl'
  replace hL := hide hL
  replace t0 := hide t0
  replace t1 := hide t1
  replace t2 := hide t2
  replace t3 := hide t3
  replace o1 := hide o1
  replace o2 := hide o2
  replace hcod := hide hcod
  replace hby := hide hby
  clear e3
  have m1 : (WS.start.put (true, 128)).out.length ≤ 50000000 := by omega
  have m2 : ((WS.start.put (true, 128)).put (false, 128)).out.length ≤ 50000000 := by omega
  have m3 : (((WS.start.put (true, 128)).put (false, 128)).put (true, 128)).out.length ≤ 50000000 := by omega
  replace m1 := hide m1
  replace m2 := hide m2
  replace m3 := hide m3
  replace hdl' := hide hdl'
  clear l1 l2 l3 s1 s2 s0 hdl
  go_enter Tryd.func8, Tryd.ntmps8
  go_wp2_with (first
    | (go_at_call 9; refine (newBoolWriter_any w.heap.size w (Nat.le_refl _)).mono ?_; rintro e w1 ⟨g, rfl, hO1, hB1⟩; replace hO1 := hide hO1; replace hB1 := hide hB1)
    | (go_at_call 18; refine (flag_any w.heap.size g _ _ true w3 t2.out o2.out m2.out hO3.out).mono ?_; rintro e w4 ⟨rfl, hO4, hB4⟩; replace hO4 := hide hO4; replace hB4 := hide hB4)
    | (go_at_call 18; refine (flag_any w.heap.size g _ _ false w2 t1.out o1.out m1.out hO2.out).mono ?_; rintro e w3 ⟨rfl, hO3, hB3⟩; replace hO3 := hide hO3; replace hB3 := hide hB3)
    | (go_at_call 18; refine (flag_any w.heap.size g _ _ true w1 t0.out Iv.start_ok (by decide) hO1.out).mono ?_; rintro e w2 ⟨rfl, hO2, hB2⟩; replace hO2 := hide hO2; replace hB2 := hide hB2)
    | (go_at_call 12; refine (done_any w.heap.size g _ _ w4 t3.out.inv m3.out hO4.out).mono ?_; rintro e w5 ⟨v, rfl, hown, hB5⟩; obtain ⟨A, c, rfl, _, _⟩ := own_len hown; have hBw := hide ((((hB1.out.trans hB2.out).trans hB3.out).trans hB4.out).trans hB5); have hsz5 : w.heap.size ≤ w5.heap.size := hBw.out.size; replace hown := hide hown; clear hB1 hB2 hB3 hB4 hB5)
    | (go_at_call 11; refine (bools_any A (some ⟨w5.heap.size, 0, none⟩) c 3 0 _ three _ hby.out (by have := hdl'.out; omega) (by decide) hcod.out three_probs (Rd.ofOwn (hown.out.alloc _)) (Rd.ofCells (by simp) (by intro j hj; rw [Nat.zero_add, World.cell?_alloc_new]; exact three_row j hj)) (hL.out.below (hBw.out.alloc hsz5 _) hLt)).mono ?_; rintro e w6 ⟨v6, rfl, hown6, hB6⟩; obtain ⟨A6, c6, rfl, _, _⟩ := own_len hown6; have hpos6 := hown6.form (by decide); obtain ⟨g6, cap6, hv6, _, _⟩ := hpos6; obtain ⟨rfl, rfl⟩ : A6 = some ⟨g6, 0, none⟩ ∧ c6 = cap6 := (by injection hv6 with h1 h2 h3; exact ⟨h1, h3⟩); have k0 := hown6.cellAt 0 (by decide); have k1 := hown6.cellAt 1 (by decide); have k2 := hown6.cellAt 2 (by decide); simp [three] at k0 k1 k2; replace hown6 := hide hown6; have hBf := hide ((hBw.out.alloc hsz5 _).trans (hB6.mono (by simp; omega))); clear hB6)
    | go_in)
  go_ret
  exact ⟨rfl, hBf.out⟩

/-- The truths with their probabilities. -/
def pairs (l : List Bool) (ps : List Int) : List (Bool × Nat) := l.zip (ps.map Int.toNat)
theorem pairs_len (l : List Bool) (ps : List Int) (h : ps.length = l.length) : (pairs l ps).length = l.length := by simp [pairs, h]
theorem pairs_fst (l : List Bool) (ps : List Int) (h : ps.length = l.length) : (pairs l ps).map (·.1) = l := by
  have := List.map_fst_zip (l₁ := l) (l₂ := ps.map Int.toNat) (by simp [h])
  exact this
theorem pairs_snd (l : List Bool) (ps : List Int) (h : ps.length = l.length) (hw : within 0 255 ps = true) : ofN ((pairs l ps).map (·.2)) = ps := by
  have e : (pairs l ps).map (·.2) = ps.map Int.toNat := List.map_snd_zip (l₁ := l) (l₂ := ps.map Int.toNat) (by simp [h])
  rw [e]
  unfold ofN
  rw [List.map_map]
  have : ∀ x ∈ ps, ((fun (x : Nat) => (x : Int)) ∘ Int.toNat) x = x := by
    intro x hx
    have h0 := List.all_eq_true.1 hw x hx
    simp at h0
    simp
    omega
  rw [List.map_congr_left this]
  simp
theorem pairs_probs (l : List Bool) (ps : List Int) (h : ps.length = l.length) (hw : within 0 255 ps = true) : Probs (pairs l ps) := by
  intro e he
  have h1 := List.of_mem_zip (a := e.1) (b := e.2) he
  obtain ⟨x, hx, e2⟩ := List.mem_map.1 h1.2
  have h0 := List.all_eq_true.1 hw x hx
  simp at h0
  omega
theorem pairs_at (l : List Bool) (ps : List Int) (h : ps.length = l.length) (hw : within 0 255 ps = true) (m : Nat) (hm : m < l.length) (hm2 : m < (pairs l ps).length) : (pairs l ps)[m] = (l.getD m false, (ps.getD m 0).toNat) ∧ 0 ≤ ps.getD m 0 ∧ ps.getD m 0 ≤ 255 := by
  have hm3 : m < ps.length := by omega
  have h0 := List.all_eq_true.1 hw ps[m] (by simp)
  simp at h0
  refine ⟨?_, ?_, ?_⟩
  · simp [pairs, hm, hm3]
  · simp [hm3]; omega
  · simp [hm3]; omega

set_option maxHeartbeats 4000000 in
theorem boolsLaw_main (A Ap : Option Addr) (c cp : Nat) (l : List Bool) (ps : List Int) (w : World) (hL : Luts w) (hl : l.length ≤ 4096) (hps : ps.length = l.length) (hw : within 0 255 ps = true)
    (hr : RdB w w.heap.size A l) (hrp : Rd .i64 w w.heap.size Ap ps) :
    Calls Tryd.prog 4 #[.slice A l.length c, .slice Ap l.length cp] w fun e w' => e = .returned (.bool true) ∧ Below w.heap.size w w' := by
  have hLt := hL.lt
  have hpr := pairs_probs l ps hps hw
  have hpl := pairs_len l ps hps
  have hpf := pairs_fst l ps hps
  have hpsn := pairs_snd l ps hps hw
  have cIn := inRange_any Ap cp w.heap.size ps 0 255 w (by omega) hrp
  rw [hw, hps] at cIn
  have hat := fun m hm hm2 => pairs_at l ps hps hw m hm hm2
  obtain ⟨hcod, hby, hdl⟩ := done_codes (pairs l ps) hpr
  have htell := fun m => WS.puts_tells ((pairs l ps).take m) _ _ WS.start_tells Iv.start_ok (fun x hx => hpr x (List.mem_of_mem_take hx))
  have hok := fun m => Iv.steps_ok ((pairs l ps).take m) _ Iv.start_ok (fun x hx => hpr x (List.mem_of_mem_take hx))
  have g1 : ¬ (2147483647 : Int) < (l.length : Int) := by omega
  have g3 : ¬ (4096 : Int) < (l.length : Int) := by omega
  generalize pairs l ps = es at *
  replace hL := hide hL
  replace hr := hide hr
  replace hrp := hide hrp
  replace hpr := hide hpr
  replace hpf := hide hpf
  replace hpsn := hide hpsn
  replace hat := hide hat
  replace hcod := hide hcod
  replace hby := hide hby
  replace htell := hide htell
  replace hok := hide hok
  replace hpl := hide hpl
  replace hdl := hide hdl
  replace hw := hide hw
  replace hps := hide hps
  replace hl := hide hl
  go_enter Tryd.func4, Tryd.ntmps4
  go_wp2_with (first
    | (go_at_call 7; refine cIn.mono ?_; rintro e w' ⟨rfl, rfl⟩)
    | (go_at_call 9; refine (newBoolWriter_any w.heap.size w (Nat.le_refl _)).mono ?_; rintro e w1 ⟨g, rfl, hO1, hB1⟩; replace hO1 := hide hO1; replace hB1 := hide hB1)
    | go_in)
  go_loopg [6] l.length (fun k i wr => ∃ m, k + m = l.length ∧ i = .int .i64 m ∧ WObj wr w.heap.size g (WS.start.puts (es.take m)) ∧ Below w.heap.size w wr)
  case atStart => exact ⟨0, rfl, rfl, hO1.out, hB1.out⟩
  case round =>
    obtain ⟨m, hm, rfl, hO, hB⟩ := hrel
    clear hO1 hB1
    cases gk with
    | zero =>
      have hm' : m = l.length := by omega
      subst hm'
      have et : es.take l.length = es := by rw [← hpl.out, List.take_length]
      have hinv := (htell.out l.length).inv
      rw [et] at hO hinv
      have hlen : (WS.start.puts es).out.length ≤ 50000000 := by have := puts_len es hpr.out; have := hpl.out; have := hl.out; omega
      replace hO := hide hO
      replace hB := hide hB
      replace hinv := hide hinv
      replace hlen := hide hlen
      clear et
      go_wp2_with (first
        | (go_at_call 12; refine (done_any w.heap.size g _ _ _ hinv.out hlen.out hO.out).mono ?_; rintro e w5 ⟨v, rfl, hown, hB5⟩; obtain ⟨A5, c5, rfl, _, _⟩ := own_len hown; have hBw := hide (hB.out.trans hB5); have hR5 := hide (Rd.ofOwn hown); clear hB5)
        | (go_at_call 11; have cB := bools_any A5 Ap c5 cp 0 _ es _ hby.out (by have := hdl.out; have := hpl.out; have := hl.out; omega) (by have := hpl.out; have := hl.out; omega) hcod.out hpr.out hR5.out (by rw [hpsn.out]; exact (hrp.out.below hBw.out).more hBw.out.size) (hL.out.below hBw.out hLt); rw [hpl.out, hpf.out] at cB; refine cB.mono ?_; rintro e w6 ⟨v6, rfl, hown6, hB6⟩; obtain ⟨A6, c6, rfl, _, _⟩ := own_len hown6; have hR6 := hide (RdB.ofOwn hown6); have hBw6 := hide (hBw.out.trans (hB6.mono hBw.out.size)); clear hB6)
        | (go_at_call 13; refine (truths_any A6 A c6 c _ _ l _ (by have := hl.out; omega) hR6.out (hr.out.below hBw6.out)).mono ?_; rintro e w7 ⟨rfl, n7, rfl⟩; have hBw7 := hide (show Below w.heap.size w (w6.drewN n7) from ⟨hBw6.out.os, hBw6.out.tape, hBw6.out.output, hBw6.out.size, hBw6.out.block⟩))
        | (go_at_call 8; refine (readBool_any _ (hL.out.below hBw7.out hLt)).mono ?_; rintro e w8 ⟨rfl, hB8⟩; have hBw8 := hide (hBw7.out.trans (hB8.mono hBw7.out.size)); clear hB8)
        | go_in)
      go_ret
      exact ⟨rfl, hBw8.out⟩
    | succ k =>
      have hlt : m < l.length := by omega
      have hlt2 : m < es.length := by have := hpl.out; omega
      obtain ⟨ea, eb, ec⟩ := hat.out m hlt hlt2
      obtain ⟨bb, off, rfl, hbb, hcell⟩ := hr.out.at_ hlt
      obtain ⟨bp, offp, rfl, hbp, hcellp⟩ := hrp.out.at_ (j := m) (by have := hps.out; omega)
      have ck := (hB.cell (p := ⟨bb, off + m, none⟩) hbb).trans (hcell m hlt)
      have ckp := (hB.cell (p := ⟨bp, offp + m, none⟩) hbp).trans (hcellp m (by have := hps.out; omega))
      have hlen : (WS.start.puts (es.take m)).out.length ≤ 50000000 := by
        have h1 := puts_len (es.take m) (fun x hx => hpr.out x (List.mem_of_mem_take hx))
        have := hl.out
        simp at h1
        omega
      have hki : (m : Int) < (l.length : Int) := by omega
      have et : es.take (m + 1) = es.take m ++ [(l.getD m false, (ps.getD m 0).toNat)] := by rw [take_snoc es m hlt2, ea]
      have ht := htell.out m
      have ho := hok.out m
      clear hcell hcellp ea
      generalize l.getD m false = x at *
      generalize ps.getD m 0 = y at *
      obtain ⟨y, rfl⟩ := Int.eq_ofNat_of_zero_le eb
      simp only [Int.toNat_natCast] at et
      have hy : y ≤ 255 := by omega
      have ep : WS.start.puts (es.take (m + 1)) = (WS.start.puts (es.take m)).put (x, y) := by rw [et, WS.puts_snoc]
      replace ht := hide ht
      replace ho := hide ho
      replace ep := hide ep
      replace et := hide et
      replace hO := hide hO
      replace hB := hide hB
      replace hlen := hide hlen
      go_wp2
      go_region_with (go_at_call 10; refine (put_any w.heap.size g _ _ x y _ ht.out ho.out hy hlen.out (by first | exact hO.out | exact hO.out.drew | exact hO.out.drewN _ | exact hO.out.drew.drew)).mono ?_; rintro e w2 ⟨rfl, hO2, hB2⟩)
      all_goals go_wp2
      all_goals go_roundg k
      case rel =>
        refine ⟨m + 1, by omega, by go_num, by rw [ep.out]; exact hO2, ?_⟩
        exact hB.out.trans ⟨hB2.os, hB2.tape, hB2.output, hB2.size, hB2.block⟩
      case measure => omega
      case rel =>
        refine ⟨m + 1, by omega, by go_num, by rw [ep.out]; exact hO2, ?_⟩
        exact hB.out.trans ⟨hB2.os, hB2.tape, hB2.output, hB2.size, hB2.block⟩
      case measure => omega

set_option maxHeartbeats 2000000 in
/-- The law, for every argument. -/
theorem boolsLaw_any (A Ap : Option Addr) (c cp : Nat) (l : List Bool) (ps : List Int) (w : World) (hL : Luts w) (hl : l.length ≤ 9223372036854775807) (hlp : ps.length ≤ 9223372036854775807)
    (hr : RdB w w.heap.size A l) (hrp : Rd .i64 w w.heap.size Ap ps) :
    Calls Tryd.prog 4 #[.slice A l.length c, .slice Ap ps.length cp] w fun e w' => e = .returned (.bool true) ∧ Below w.heap.size w w' := by
  by_cases c1 : (2147483647 : Int) < (l.length : Int)
  · clear hr hrp hL
    go_enter Tryd.func4, Tryd.ntmps4
    go_wp2
    go_ret
    exact ⟨rfl, Below.refl _ _⟩
  by_cases c2 : (2147483647 : Int) < (ps.length : Int)
  · clear hr hrp hL
    go_enter Tryd.func4, Tryd.ntmps4
    go_wp2
    go_ret
    exact ⟨rfl, Below.refl _ _⟩
  have cR := readBool_any w hL
  by_cases c3 : (4096 : Int) < (l.length : Int)
  · clear hr hrp hL
    go_enter Tryd.func4, Tryd.ntmps4
    go_wp2_with (first | (go_at_call 8; refine cR.mono ?_; rintro e w1 ⟨rfl, hB1⟩) | go_in)
    go_ret
    exact ⟨rfl, hB1⟩
  by_cases c4 : ps.length = l.length
  · have cIn := inRange_any Ap cp w.heap.size ps 0 255 w hlp hrp
    cases hw : within 0 255 ps
    · rw [hw, c4] at cIn
      rw [c4]
      replace c4 := hide c4
      replace hw := hide hw
      clear hr hrp hL
      go_enter Tryd.func4, Tryd.ntmps4
      go_wp2_with (first | (go_at_call 7; refine cIn.mono ?_; rintro e w' ⟨rfl, rfl⟩) | (go_at_call 8; refine cR.mono ?_; rintro e w1 ⟨rfl, hB1⟩) | go_in)
      go_ret
      exact ⟨rfl, hB1⟩
    · have hm := boolsLaw_main A Ap c cp l ps w hL (by omega) c4 hw hr hrp
      rw [c4]
      exact hm
  · have c5 : ¬ (ps.length : Int) = (l.length : Int) := by omega
    clear hr hrp hL
    go_enter Tryd.func4, Tryd.ntmps4
    go_wp2_with (first | (go_at_call 8; refine cR.mono ?_; rintro e w1 ⟨rfl, hB1⟩) | go_in)
    go_ret
    exact ⟨rfl, hB1⟩
end Go.Proofs.YtldilncpenellaaDoor
