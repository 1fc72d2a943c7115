/- The simple filter: the law, out of the contracts of its functions. -/
import Derived.Test.YthbidebcljegjaaDoorFiltOver
import Derived.Test.YthbidebcljegjaaDoorBytes
import Derived.Test.YthbidebcljegjaaDoorReadBool
namespace Go.Proofs.YthbidebcljegjaaDoor
set_option linter.unusedSimpArgs false
set_option linter.unusedVariables false
open Go.RowKit

/-- 'append' of bytes that came in, onto nothing: what the walk is told of the source. -/
theorem news_of {w : World} {b off : Nat} {P : List Int} {k : IntKind} (hc : ∀ j, j < P.length → w.cell? ⟨b, off + j, none⟩ = some (.int k (P.getD j 0))) : ∀ j u, (P.map (Value.int k))[j]? = some u → w.cell? ((⟨b, off, none⟩ : Addr).add j) = some u := by
  intro j u hu
  have hj : j < P.length := by
    have := (List.getElem?_eq_some_iff.1 hu).1
    simpa using this
  rw [Addr.add_lit, hc j hj, ← hu]
  simp [hj]

theorem bytes_wf {P : List Int} (h : ∀ n ∈ P, (Lit.int .u8 n).wf = true) : Bytes P := by
  intro k
  rcases Nat.lt_or_ge k P.length with hk | hk
  · have h1 := h (P[k]) (by simp)
    simp [Lit.wf, IntKind.min, IntKind.max, IntKind.bits, IntKind.signed] at h1
    simp [hk]
    omega
  · simp [hk]

set_option maxRecDepth 100000 in
set_option maxHeartbeats 1000000 in
theorem implSimple_any (A : Option Addr) (cap : Nat) (P : List Int) (lev c s st : Int) (w : World) (hB : Bytes P) (hF : Fits P.length c s st 16) (hlev : 0 ≤ lev ∧ lev ≤ 255)
    (hbd : -16384 ≤ c ∧ c ≤ 16384 ∧ -16384 ≤ s ∧ s ≤ 16384 ∧ -16384 ≤ st ∧ st ≤ 16384) (hnn : (P.length : Int) ≤ 16384) (hr : Rd .u8 w w.heap.size A P) :
    Calls Tryd.prog 23 #[.slice A P.length cap, .int .i64 lev, .int .i64 c, .int .i64 st, .int .i64 s] w fun e w' =>
      ∃ g cap', e = .returned (.slice (some ⟨g, 0, none⟩) P.length cap') ∧
      w'.ownsRow w.heap.size 5 1 (.slice (some ⟨g, 0, none⟩) P.length cap') P.length ((flines lev s st 16 P c).map (Value.int .u8)) ∧ Below w.heap.size w w' := by
  obtain ⟨i0, hi, hz, hz1, hz2⟩ := info_parts info_u8f
  have hpos : 0 < P.length := by have := hF 0 (by decide); omega
  obtain ⟨b, off, rfl, hb, hc⟩ := hr.at_ hpos
  have hnews := hide (news_of hc)
  have hlen : P.length ≤ 65535 := by omega
  have cF := fun g cap' W => filter2_any w.heap.size g P.length cap' P lev c s st W rfl hB hF hlev hbd (by omega)
  replace cF := hide cF
  replace hF := hide hF
  replace hB := hide hB
  clear hr hc
  go_enter Tryd.func23, Tryd.ntmps23
  go_wp2_with (at_builtin; refine wpList_append_own _ rfl (.const (.slice none 0 0)) (.tmp 12) 33 rfl w.heap.size 5 i0 _ 1 1 Tryd.underlying33 hi hz hz1 hz2 rfl (by decide) (.slice none 0 0) 0 [] rfl ⟨rfl, .inl ⟨rfl, rfl⟩⟩ ⟨b, off, none⟩ P.length cap (P.map (Value.int .u8)) rfl (by simp) hnews.out (ints_oneCell .u8 P) (by simp only [maxLen]; omega) (by omega) (by simp) ?_; intro v1 w1 hown1 hg1 _; simp only [Nat.zero_add, List.nil_append] at hown1; obtain ⟨g, cap', rfl, hg, _⟩ := hown1.form hpos; have hbl1 := hide ((Below.refl w.heap.size w).grown hg1 (Nat.le_refl _) (fun k hk => by simp [Value.ownBlock] at hk)); replace hown1 := hide hown1; clear hg1 hnews)
  (go_at_call 41; go_in)
  go_wp2_with fail
  (with_reducible refine (cF.out _ _ _ hown1.out).mono ?_)
  rintro e w2 ⟨rfl, ho2, hu2⟩
  have hbl2 := hide (hbl1.out.trans (hu2.below (B := w.heap.size) (by simp; omega) hbl1.out.size))
  replace ho2 := hide ho2
  clear hu2 hown1 hbl1
  go_wp2
  go_end0
  go_wp2
  go_ret
  exact ⟨g, cap', rfl, ho2.out, hbl2.out⟩

set_option maxRecDepth 100000 in
theorem specSimple_any (A : Option Addr) (cap : Nat) (P : List Int) (lev c s st : Int) (w : World) (hB : Bytes P) (hF : Fits P.length c s st 16) (hlev : 0 ≤ lev ∧ lev ≤ 255) (hs : s ≠ 0)
    (hbd : -16384 ≤ c ∧ c ≤ 16384 ∧ -16384 ≤ s ∧ s ≤ 16384 ∧ -16384 ≤ st ∧ st ≤ 16384) (hnn : (P.length : Int) ≤ 16384) (hr : Rd .u8 w w.heap.size A P) :
    Calls Tryd.prog 24 #[.slice A P.length cap, .int .i64 lev, .int .i64 c, .int .i64 st, .int .i64 s] w fun e w' =>
      ∃ g cap', e = .returned (.slice (some ⟨g, 0, none⟩) P.length cap') ∧
      w'.ownsRow w.heap.size 5 1 (.slice (some ⟨g, 0, none⟩) P.length cap') P.length ((flines lev s st 16 P c).map (Value.int .u8)) ∧ Below w.heap.size w w' := by
  have cO := hide (over_any A cap P lev c s st w hB hF hlev hs hbd hnn hr)
  clear hB hF hr hs
  go_enter Tryd.func24, Tryd.ntmps24
  go_wp2_with fail
  (with_reducible refine (cO.out).mono ?_)
  rintro e w2 ⟨g, cap', rfl, hg, ho, hb⟩
  replace ho := hide ho
  replace hb := hide hb
  go_wp2
  go_ret
  exact ⟨g, cap', rfl, ho.out, hb.out⟩

set_option maxRecDepth 100000 in
set_option maxHeartbeats 2000000 in
theorem filterSimple_main (A : Option Addr) (cap : Nat) (P : List Int) (lev c s st : Int) (w : World) (hL : Luts w) (hB : Bytes P) (hlev : 0 ≤ lev ∧ lev ≤ 255) (hr : Rd .u8 w w.heap.size A P)
    (hE : edgeB P.length 16 2 c st s = true) (hA : apartB 16 2 st s = true) :
    Calls Tryd.prog 5 #[.slice A P.length cap, .int .i64 lev, .int .i64 c, .int .i64 st, .int .i64 s] w fun e w' => e = .returned (.bool true) ∧ Below w.heap.size w w' := by
  have hLt := hL.lt
  have hE' := hE
  simp only [edgeB, Bool.and_eq_true, decide_eq_true_eq] at hE'
  obtain ⟨⟨hlen, hw⟩, hlines⟩ := hE'
  simp [within] at hw
  have hbd : -16384 ≤ c ∧ c ≤ 16384 ∧ -16384 ≤ s ∧ s ≤ 16384 ∧ -16384 ≤ st ∧ st ≤ 16384 := by omega
  have hF : Fits P.length c s st 16 := by
    intro m hm
    have h1 := linesOk_at hlines m hm (-2) (by decide) (by decide)
    have h2 := linesOk_at hlines m hm (-1) (by decide) (by decide)
    have h3 := linesOk_at hlines m hm 0 (by decide) (by decide)
    have h4 := linesOk_at hlines m hm 1 (by decide) (by decide)
    omega
  have hs : s ≠ 0 := by
    have := (apart_at hA 0 1 (by decide) (by decide) (by decide)).1
    intro e
    subst e
    simp at this
  have cE : Calls Tryd.prog 20 #[.slice A P.length cap, .int .i64 16, .int .i64 2, .int .i64 c, .int .i64 st, .int .i64 s] w fun e w' => e = .returned (.bool (edgeB P.length 16 2 c st s)) ∧ Below w.heap.size w w' :=
    isEdge_any A cap P.length 16 2 c st s w (by omega) (by decide) (by decide)
  have cA : ∀ W, Calls Tryd.prog 21 #[.int .i64 16, .int .i64 2, .int .i64 st, .int .i64 s] W fun e w' => e = .returned (.bool (apartB 16 2 st s)) ∧ W = w' :=
    fun W => isApart_any 16 2 st s W (by decide) (by decide) (by omega) (by omega) (by omega) (by omega)
  rw [hE] at cE
  rw [hA] at cA
  have cI := fun W => implSimple_any A cap P lev c s st W hB hF hlev hbd hlen
  have cS := fun W => specSimple_any A cap P lev c s st W hB hF hlev hs hbd hlen
  have hFl := flines_len lev s st 16 P c
  generalize flines lev s st 16 P c = F at *
  replace cE := hide cE
  replace cA := hide cA
  replace cI := hide cI
  replace cS := hide cS
  replace hL := hide hL
  replace hr := hide hr
  replace hFl := hide hFl
  have g1 : ¬ (2147483647 : Int) < (P.length : Int) := by omega
  have hl0 := hlev.1
  have hl1 := hlev.2
  clear hB hF hE hA hlines hs hbd hw
  go_enter Tryd.func5, Tryd.ntmps5
  go_wp2_with fail
  (with_reducible refine (cE.out).mono ?_)
  rintro e w1 ⟨rfl, hb1⟩
  replace hb1 := hide hb1
  go_wp2_with (first | (go_at_call 21; (with_reducible refine (cA.out _).mono ?_); rintro e w' ⟨rfl, rfl⟩) | fail)
  (with_reducible refine (cI.out _ ((hr.out.below hb1.out).more hb1.out.size)).mono ?_)
  rintro e w2 ⟨g2, cap2, rfl, ho2, hb2⟩
  have hb2' := hide (hb1.out.trans (hb2.mono hb1.out.size))
  replace ho2 := hide ho2
  clear hb1 hb2
  go_wp2_with fail
  (with_reducible refine (cS.out _ ((hr.out.below hb2'.out).more hb2'.out.size)).mono ?_)
  rintro e w3 ⟨g3, cap3, rfl, ho3, hb3⟩
  have hb3' := hide (hb2'.out.trans (hb3.mono hb2'.out.size))
  have ho2' := hide ((Upd.ofBelow (S := []) hb3).own ho2.out (by simp))
  have cb := bytes_same _ _ cap2 cap3 F _ _ _ (by have := hFl.out; omega) (Rd.ofOwn ho2'.out) (Rd.ofOwn ho3)
  rw [hFl.out] at cb
  replace cb := hide cb
  clear hb2' hb3 ho2 ho2' ho3
  go_wp2_with fail
  (with_reducible refine (cb.out).mono ?_)
  rintro e w4 ⟨rfl, n4, rfl⟩
  have hb4 := hide (show Below w.heap.size w (w3.drewN n4) from ⟨hb3'.out.os, hb3'.out.tape, hb3'.out.output, hb3'.out.size, hb3'.out.block⟩)
  clear hb3' cb
  go_wp2_with fail
  (with_reducible refine (readBool_any _ (hL.out.below hb4.out hLt)).mono ?_)
  rintro e w5 ⟨rfl, hb5⟩
  have hb6 := hide (hb4.out.trans (hb5.mono hb4.out.size))
  clear hb4 hb5
  go_wp2
  go_ret
  exact ⟨rfl, hb6.out⟩

set_option maxRecDepth 100000 in
set_option maxHeartbeats 2000000 in
/-- The law, for every argument. -/
theorem filterSimple_any (A : Option Addr) (cap : Nat) (P : List Int) (lev c s st : Int) (w : World) (hL : Luts w) (hl : P.length ≤ 9223372036854775807) (hB : ∀ n ∈ P, (Lit.int .u8 n).wf = true) (hr : Rd .u8 w w.heap.size A P) :
    Calls Tryd.prog 5 #[.slice A P.length cap, .int .i64 lev, .int .i64 c, .int .i64 st, .int .i64 s] w fun e w' => e = .returned (.bool true) ∧ Below w.heap.size w w' := by
  by_cases c1 : (2147483647 : Int) < (P.length : Int)
  · clear hr hL hB
    go_enter Tryd.func5, Tryd.ntmps5
    go_wp2
    go_ret
    exact ⟨rfl, Below.refl _ _⟩
  have hLt := hL.lt
  have cR := fun W h => readBool_any W (hL.below (w' := W) (B := w.heap.size) h hLt)
  have cE : Calls Tryd.prog 20 #[.slice A P.length cap, .int .i64 16, .int .i64 2, .int .i64 c, .int .i64 st, .int .i64 s] w fun e w' => e = .returned (.bool (edgeB P.length 16 2 c st s)) ∧ Below w.heap.size w w' :=
    isEdge_any A cap P.length 16 2 c st s w (by omega) (by decide) (by decide)
  cases hE : edgeB P.length 16 2 c st s
  · rw [hE] at cE
    replace cE := hide cE
    replace cR := hide cR
    clear hE hL hr hB
    go_enter Tryd.func5, Tryd.ntmps5
    go_wp2_with fail
    (with_reducible refine (cE.out).mono ?_)
    rintro e w1 ⟨rfl, hb1⟩
    replace hb1 := hide hb1
    go_wp2_with fail
    (with_reducible refine (cR.out _ hb1.out).mono ?_)
    rintro e w2 ⟨rfl, hb2⟩
    have hb3 := hide (hb1.out.trans (hb2.mono hb1.out.size))
    clear hb1 hb2
    go_wp2
    go_ret
    exact ⟨rfl, hb3.out⟩
  have hE' := hE
  simp only [edgeB, Bool.and_eq_true, decide_eq_true_eq] at hE'
  obtain ⟨⟨hlen, hw⟩, hlines⟩ := hE'
  simp [within] at hw
  have cA : ∀ W, Calls Tryd.prog 21 #[.int .i64 16, .int .i64 2, .int .i64 st, .int .i64 s] W fun e w' => e = .returned (.bool (apartB 16 2 st s)) ∧ W = w' :=
    fun W => isApart_any 16 2 st s W (by decide) (by decide) (by omega) (by omega) (by omega) (by omega)
  by_cases hok : apartB 16 2 st s = true ∧ 0 ≤ lev ∧ lev ≤ 255
  · exact filterSimple_main A cap P lev c s st w hL (bytes_wf hB) hok.2 hr hE hok.1
  rw [hE] at cE
  replace cE := hide cE
  replace cR := hide cR
  clear hE hL hr hB hlines hw
  cases hA : apartB 16 2 st s
  · rw [hA] at cA
    replace cA := hide cA
    clear hok hA
    go_enter Tryd.func5, Tryd.ntmps5
    go_wp2_with fail
    (with_reducible refine (cE.out).mono ?_)
    rintro e w1 ⟨rfl, hb1⟩
    replace hb1 := hide hb1
    go_wp2_with fail
    (with_reducible refine (cA.out _).mono ?_)
    rintro e w' ⟨rfl, rfl⟩
    go_wp2_with fail
    (with_reducible refine (cR.out _ hb1.out).mono ?_)
    rintro e w2 ⟨rfl, hb2⟩
    have hb3 := hide (hb1.out.trans (hb2.mono hb1.out.size))
    clear hb1 hb2
    go_wp2
    go_ret
    exact ⟨rfl, hb3.out⟩
  · have h2 : lev < 0 ∨ (¬ lev < 0 ∧ 255 < lev) := by
      by_cases h0 : lev < 0
      · exact .inl h0
      · refine .inr ⟨h0, ?_⟩
        by_cases h : 255 < lev
        · exact h
        · exact absurd ⟨hA, by omega, by omega⟩ hok
    rw [hA] at cA
    replace cA := hide cA
    clear hok hA
    rcases h2 with h2 | ⟨h2, h3⟩
    all_goals
      go_enter Tryd.func5, Tryd.ntmps5
      go_wp2_with fail
      (with_reducible refine (cE.out).mono ?_)
      rintro e w1 ⟨rfl, hb1⟩
      replace hb1 := hide hb1
      go_wp2_with fail
      (with_reducible refine (cA.out _).mono ?_)
      rintro e w' ⟨rfl, rfl⟩
      go_wp2_with fail
      (with_reducible refine (cR.out _ hb1.out).mono ?_)
      rintro e w2 ⟨rfl, hb2⟩
      have hb3 := hide (hb1.out.trans (hb2.mono hb1.out.size))
      clear hb1 hb2
      go_wp2
      go_ret
      exact ⟨rfl, hb3.out⟩
end Go.Proofs.YthbidebcljegjaaDoor
