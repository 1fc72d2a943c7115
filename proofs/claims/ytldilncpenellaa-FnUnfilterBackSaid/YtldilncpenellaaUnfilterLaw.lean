/- A plane that was filtered is the plane again: the law, out of the contracts of its functions. -/
import Derived.Test.YtldilncpenellaaUnfilter
import Derived.Test.YtldilncpenellaaFiltered
import Derived.Test.YtldilncpenellaaBytes
namespace Go.Proofs.Ytldilncpenellaa
set_option linter.unusedSimpArgs false
set_option linter.unusedVariables false
open Go.RowKit
set_option linter.unusedVariables false
theorem clone_any (b off c : Nat) (l : List Int) (w : World) (hl : l.length ≤ 65536) (hl0 : 0 < l.length) (h : Rd .u8 w w.heap.size (some ⟨b, off, none⟩) l) :
    Calls Try.prog 16 #[.slice (some ⟨b, off, none⟩) l.length c] w fun e w' => ∃ g cap, e = .returned (.slice (some ⟨g, 0, none⟩) l.length cap) ∧ w.heap.size ≤ g ∧
      w'.ownsRow w.heap.size 5 1 (.slice (some ⟨g, 0, none⟩) l.length cap) l.length (l.map (Value.int .u8)) ∧ Below w.heap.size w w' := by
  obtain ⟨i0, hi, hz, hz1, hz2⟩ := info_parts info_u8
  obtain ⟨b', off', hbo, hb, hc⟩ := h.at_ hl0
  simp only [Option.some.injEq, Addr.mk.injEq, and_true] at hbo
  obtain ⟨rfl, rfl⟩ := hbo
  have hnil := fun W : World => Lib.run_eql_slice_nil (P := Try.prog) W 25 5 (some ⟨b, off, none⟩) l.length c 0 0 Try.underlying25
  have hnews : ∀ j u, (l.map (Value.int .u8))[j]? = some u → (w.alloc (.cells #[] 5)).cell? ((⟨b, off, none⟩ : Addr).add j) = some u := by
    intro j u hu
    have hj : j < l.length := by
      have := (List.getElem?_eq_some_iff.1 hu).1
      simpa using this
    rw [Addr.add_lit, World.cell?_alloc_lt w _ _ hb, hc j hj, ← hu]
    simp [hj]
  go_enter Try.func16, Try.ntmps16
  go_wp2_with (at_builtin; refine wpList_append_own _ rfl (.tmp 5) (.tmp 6) 25 rfl w.heap.size 5 i0 _ 1 1 Try.underlying25 hi hz hz1 hz2 rfl (by decide) (.slice (some ⟨w.heap.size, 0, none⟩) 0 0) 0 [] rfl (World.ownsRow_made w #[] 0 (Nat.le_refl _) (by simp [maxLen]) rfl) ⟨b, off, none⟩ l.length c (l.map (Value.int .u8)) rfl (by simp) hnews (ints_oneCell .u8 l) (by simp only [maxLen]; omega) (by omega) (by simp) ?_; intro v1 w1 hown1 hg1 _)
  go_ret
  simp only [Nat.zero_add, List.nil_append] at hown1
  obtain ⟨g, cap, rfl, hg, _⟩ := hown1.form hl0
  exact ⟨g, cap, rfl, hg, hown1, ((Below.refl _ _).alloc (Nat.le_refl _) _).grown hg1 (by simp) (fun k hk => by simp [Value.ownBlock] at hk; omega)⟩

/-- The filter of a plane is undone, in new memory. -/
theorem unfilter_any (kind : Int) (A : Option Addr) (c W : Nat) (P : List Int) (w : World) (hk : 0 ≤ kind ∧ kind ≤ 3) (hn1 : W ≤ P.length) (hn2 : P.length ≤ 65536) (hnW : P.length % W = 0) (hW : 1 ≤ W) (hB : IsB P)
    (h : Rd .u8 w w.heap.size A (filt kind W P)) :
    Calls Try.prog 10 #[.int .i64 kind, .slice A P.length c, .int .i64 W] w fun e w' => ∃ g cap, e = .returned (.slice (some ⟨g, 0, none⟩) P.length cap) ∧ w.heap.size ≤ g ∧
      w'.ownsRow w.heap.size 5 1 (.slice (some ⟨g, 0, none⟩) P.length cap) P.length (P.map (Value.int .u8)) ∧ Below w.heap.size w w' := by
  have hF := filt_length kind W P
  obtain ⟨b, off, rfl, hb, hc⟩ := h.at_ (j := 0) (by omega)
  have hcl := fun (W' : World) (e : W' = w) => clone_any b off c (filt kind W P) w (by omega) (by omega) (Rd.ofCells hb hc)
  rw [hF] at hcl
  clear hc h
  replace hcl := hide hcl
  have hks : kind = 0 ∨ kind = 1 ∨ kind = 2 ∨ kind = 3 := by omega
  have hn0 : P.length = P.length := rfl
  clear hk
  rcases hks with rfl | rfl | rfl | rfl
  all_goals
    go_enter Try.func10, Try.ntmps10
    go_wp2_with fail
    refine (hcl.out _ rfl).mono ?_
    rintro e w1 ⟨g, cap, rfl, hg, hown, hbel⟩
    go_wp2_with (first | (go_at_call 17; go_in) | fail)
  · refine (unfilter_0 g P.length cap W w1 (by omega) hW).mono ?_
    rintro e w2 ⟨rfl, rfl⟩
    go_wp2
    go_end0
    go_wp2
    go_ret
    rw [filt_zero W P hB] at hown
    exact ⟨g, cap, rfl, hg, hown, hbel⟩
  · refine (unfilter_1 w.heap.size g P.length cap W P w1 rfl hn1 hn2 hnW hW hB hown).mono ?_
    rintro e w2 ⟨rfl, hown2, hupd⟩
    go_wp2
    go_end0
    go_wp2
    go_ret
    exact ⟨g, cap, rfl, hg, hown2, hbel.trans (hupd.below (by simpa using hg) hbel.size)⟩
  · refine (unfilter_2 w.heap.size g P.length cap W P w1 rfl hn1 hn2 hnW hW hB hown).mono ?_
    rintro e w2 ⟨rfl, hown2, hupd⟩
    go_wp2
    go_end0
    go_wp2
    go_ret
    exact ⟨g, cap, rfl, hg, hown2, hbel.trans (hupd.below (by simpa using hg) hbel.size)⟩
  · refine (unfilter_3 w.heap.size g P.length cap W P w1 rfl hn1 hn2 hnW hW hB hown).mono ?_
    rintro e w2 ⟨rfl, hown2, hupd⟩
    go_wp2
    go_end0
    go_wp2
    go_ret
    exact ⟨g, cap, rfl, hg, hown2, hbel.trans (hupd.below (by simpa using hg) hbel.size)⟩

theorem readPlane_any (w : World) : Calls Try.prog 8 #[] w fun e w' => e = .returned (.bool true) ∧ Below w.heap.size w w' := by
  go_enter Try.func8, Try.ntmps8
  go_wp2_with fail
  have hin : Rd .u8 (w.alloc (.cells #[.int .u8 5, .int .u8 1, .int .u8 2, .int .u8 3] 5)) (w.alloc (.cells #[.int .u8 5, .int .u8 1, .int .u8 2, .int .u8 3] 5)).heap.size (some ⟨w.heap.size, 0, none⟩) (filt 1 2 [5, 6, 7, 10]) := by
    refine Rd.ofCells (by simp) fun j hj => ?_
    rw [Nat.zero_add, World.cell?_alloc_new]
    have e : filt 1 2 [5, 6, 7, 10] = [5, 1, 2, 3] := by decide
    rw [e] at hj ⊢
    match j, hj with
    | 0, _ => rfl
    | 1, _ => rfl
    | 2, _ => rfl
    | 3, _ => rfl
  refine (unfilter_any 1 _ 4 2 [5, 6, 7, 10] _ (by decide) (by decide) (by decide) (by decide) (by decide) (fun j => by
    match j with
    | 0 => decide
    | 1 => decide
    | 2 => decide
    | 3 => decide
    | j + 4 => simp) hin).mono ?_
  rintro e w1 ⟨g, cap, rfl, hg, hown, hbel⟩
  go_wp2_with fail
  have hout : Rd .u8 (w1.alloc (.cells #[.int .u8 5, .int .u8 6, .int .u8 7, .int .u8 10] 5)) (w1.heap.size + 1) (some ⟨w1.heap.size, 0, none⟩) [5, 6, 7, 10] := by
    refine Rd.ofCells (by simp) fun j hj => ?_
    rw [Nat.zero_add, World.cell?_alloc_new]
    match j, hj with
    | 0, _ => rfl
    | 1, _ => rfl
    | 2, _ => rfl
    | 3, _ => rfl
  refine (bytes_same _ _ cap 4 [5, 6, 7, 10] _ _ _ (by decide) ((Rd.ofOwn hown).alloc (Nat.le_refl _) _) hout).mono ?_
  rintro e w2 ⟨rfl, n, rfl⟩
  go_wp2
  go_ret
  have hsz := hbel.size
  refine ⟨rfl, below_drewN ((Below.trans ((Below.refl _ _).alloc (Nat.le_refl _) _) (hbel.mono (by simp))).alloc (by simp at hsz; omega) _) n⟩

def planeB (n : Nat) (W : Int) : Bool := decide (1 ≤ W ∧ W ≤ n ∧ n ≤ 65536 ∧ (n : Int) % W = 0)
theorem isPlane_any (A : Option Addr) (n c : Nat) (W : Int) (w : World) (hn : n ≤ 9223372036854775807) : Calls Try.prog 7 #[.slice A n c, .int .i64 W] w fun e w' => e = .returned (.bool (planeB n W)) ∧ w = w' := by
  by_cases h1 : 1 ≤ W
  · by_cases h2 : W ≤ n
    · by_cases h3 : n ≤ 65536
      · by_cases h4 : (n : Int) % W = 0
        · have e : planeB n W = true := decide_eq_true ⟨h1, h2, h3, h4⟩
          have h4b : ((n : Int) % W == 0) = true := by simpa using h4
          clear h4
          rw [e]
          go_enter Try.func7, Try.ntmps7
          go_wp2
          go_ret
          exact ⟨rfl, rfl⟩
        · have e : planeB n W = false := decide_eq_false (fun h => h4 h.2.2.2)
          have h4b : ((n : Int) % W == 0) = false := by simpa using h4
          clear h4
          rw [e]
          go_enter Try.func7, Try.ntmps7
          go_wp2
          go_ret
          exact ⟨rfl, rfl⟩
      · have e : planeB n W = false := decide_eq_false (fun h => h3 h.2.2.1)
        rw [e]
        go_enter Try.func7, Try.ntmps7
        go_wp2
        go_ret
        exact ⟨rfl, rfl⟩
    · have e : planeB n W = false := decide_eq_false (fun h => h2 h.2.1)
      rw [e]
      go_enter Try.func7, Try.ntmps7
      go_wp2
      go_ret
      exact ⟨rfl, rfl⟩
  · have e : planeB n W = false := decide_eq_false (fun h => h1 h.1)
    rw [e]
    go_enter Try.func7, Try.ntmps7
    go_wp2
    go_ret
    exact ⟨rfl, rfl⟩

theorem fnUnfilterBack_any (kind : Int) (A : Option Addr) (c : Nat) (P : List Int) (W : Int) (w : World) (hl : P.length ≤ 9223372036854775807) (hB : IsB P) (h : Rd .u8 w w.heap.size A P) :
    Calls Try.prog 4 #[.int .i64 kind, .slice A P.length c, .int .i64 W] w fun e w' => e = .returned (.bool true) ∧ Below w.heap.size w w' := by
  by_cases hbig : P.length ≤ 2147483647
  case neg =>
    go_enter Try.func4, Try.ntmps4
    go_wp2
    go_ret
    exact ⟨rfl, Below.refl _ _⟩
  by_cases hk : 0 ≤ kind ∧ kind ≤ 3
  case neg =>
    have hks : kind < 0 ∨ (0 ≤ kind ∧ 3 < kind) := by omega
    clear hk
    rcases hks with hk | ⟨hk, hk'⟩
    all_goals
      go_enter Try.func4, Try.ntmps4
      go_wp2_with (go_at_call 8; refine (readPlane_any _).mono ?_; rintro e w' ⟨rfl, hb⟩)
      go_ret
      exact ⟨rfl, hb⟩
  obtain ⟨hk1, hk2⟩ := hk
  by_cases hp : planeB P.length W = true
  case neg =>
    have hp' : planeB P.length W = false := by simpa using hp
    clear hp
    go_enter Try.func4, Try.ntmps4
    go_wp2_with (first | (go_at_call 8; refine (readPlane_any _).mono ?_; rintro e w' ⟨rfl, hb⟩) | (go_at_call 7; refine (isPlane_any _ _ _ _ _ hl).mono ?_; rintro e w' ⟨rfl, rfl⟩))
    go_ret
    exact ⟨rfl, hb⟩
  have hq := of_decide_eq_true hp
  obtain ⟨q1, q2, q3, q4⟩ := hq
  obtain ⟨V, rfl⟩ := Int.eq_ofNat_of_zero_le (show 0 ≤ W by omega)
  have q4' : P.length % V = 0 := by omega
  clear q4
  go_enter Try.func4, Try.ntmps4
  go_wp2_with (go_at_call 7; refine (isPlane_any _ _ _ _ _ hl).mono ?_; rintro e w' ⟨rfl, rfl⟩)
  refine (filtered_any kind A c V P w ⟨hk1, hk2⟩ (by omega) (by omega) q3 hB h).mono ?_
  rintro e w1 ⟨v, rfl, hown, hbel⟩
  obtain ⟨A1, c1, rfl, hc1, _⟩ := own_len hown
  have h1 : Rd .u8 w1 w1.heap.size A1 (filt kind V P) := Rd.ofOwn hown
  clear hown hc1
  go_wp2_with fail
  refine (unfilter_any kind A1 c1 V P w1 ⟨hk1, hk2⟩ (by omega) (by omega) q4' (by omega) hB h1).mono ?_
  rintro e w2 ⟨g, cap, rfl, hg, hown2, hbel2⟩
  have hbel3 := hbel.trans (hbel2.mono hbel.size)
  have h2 : Rd .u8 w2 w2.heap.size (some ⟨g, 0, none⟩) P := Rd.ofOwn hown2
  have h3 := h.below hbel3
  clear hown2 hg hbel hbel2 h h1
  go_wp2_with fail
  refine (bytes_same _ _ _ _ P _ _ _ (by omega) h2 h3).mono ?_
  rintro e w3 ⟨rfl, n, rfl⟩
  go_wp2_with (go_at_call 8; refine (readPlane_any _).mono ?_; rintro e w' ⟨rfl, hb⟩)
  go_ret
  exact ⟨rfl, (below_drewN hbel3 n).trans (hb.mono hbel3.size)⟩
end Go.Proofs.Ytldilncpenellaa
