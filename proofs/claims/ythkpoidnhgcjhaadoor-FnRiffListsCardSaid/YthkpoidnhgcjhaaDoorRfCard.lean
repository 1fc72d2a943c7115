/- What a card tells of lists of lists of bytes; the laws of chunks over what came in. -/
import Derived.Test.YthkpoidnhgcjhaaDoorRfLawW
import Derived.Deep.Matrix
import Derived.OpenShut
namespace Go.Proofs.YthkpoidnhgcjhaaDoor
set_option linter.unusedSimpArgs false
set_option linter.unusedVariables false
open Go.RowKit Plain Go.ChangeShapes Go.WideShapes

theorem nr_of {l : List Int} (h : ∀ z ∈ l, 0 ≤ z ∧ z ≤ 255) : ofNr (l.map Int.toNat) = l ∧ ∀ x ∈ l.map Int.toNat, x ≤ 255 := by
  refine ⟨?_, fun x hx => ?_⟩
  · unfold ofNr
    rw [List.map_map]
    have : ∀ z ∈ l, (Int.ofNat ∘ Int.toNat) z = z := fun z hz => by
      have := (h z hz).1
      simp [Function.comp]
      omega
    rw [List.map_congr_left this]
    simp
  · obtain ⟨z, hz, rfl⟩ := List.mem_map.1 hx
    have := h z hz
    omega
theorem open_bytes2 {H : Type} {enc : TypeId × Value → H} {P : Program} {w : World} {base : Nat} {held : Bool} {t e q : TypeId} {fuel : Nat} {A : Option Addr} {len cap : Nat} {x : DataW H × List MemPlace} (ht : P.underlying t = some (.slice e)) (he : P.underlying e = some (.slice q)) (hq : P.underlying q = some (.int .u8))
    (ce : P.cellsOf e = 1) (cq : P.cellsOf q = 1) (h : DataW.trod enc P w base (fun _ => true) held fuel t [.slice A len cap] = some x) :
    ∃ L : List (List Nat), L.length = len ∧ RdR w w.heap.size A L ∧ (∀ d ∈ L, ∀ x ∈ d, x ≤ 255) ∧ (∀ d ∈ L, (d.length : Int) ≤ 9223372036854775807) ∧ (len : Int) ≤ 9223372036854775807 := by
  rcases Go.Deep.open_int_rows ht he hq ce cq h with ⟨hcs, _⟩ | ⟨a, len', cap', Ar, Lr, Cr, Z, hcs, _, hl, hm, _, hrow⟩
  · simp only [List.cons.injEq, Value.slice.injEq, and_true] at hcs
    obtain ⟨rfl, rfl, rfl⟩ := hcs
    exact ⟨[], rfl, fun h => absurd rfl h, by simp, by simp, by simp⟩
  · simp only [List.cons.injEq, Value.slice.injEq, and_true] at hcs
    obtain ⟨rfl, rfl, rfl⟩ := hcs
    have hrl : ∀ r, r < len → (((Z r).take (Lr r)).map Int.toNat).length = Lr r := fun r hr => by
      obtain ⟨_, h2, _, h4, _⟩ := hrow r (by omega)
      simp
      omega
    have hz : ∀ r, r < len → ∀ z ∈ (Z r).take (Lr r), 0 ≤ z ∧ z ≤ 255 := fun r hr z hz => by
      obtain ⟨_, _, _, _, h5, _⟩ := hrow r (by omega)
      exact Go.bounds_u8 (h5 z (List.mem_of_mem_take hz))
    have hget : ∀ r, r < len → ((List.range len).map fun r => ((Z r).take (Lr r)).map Int.toNat).getD r [] = ((Z r).take (Lr r)).map Int.toNat := fun r hr => by simp [hr]
    refine ⟨(List.range len).map fun r => ((Z r).take (Lr r)).map Int.toNat, by simp, fun hne => ?_, fun d hd x hx => ?_, fun d hd => ?_, by unfold maxLen at hm; omega⟩
    · have hpos : 0 < len := by
        rcases Nat.eq_zero_or_pos len with h0 | h0
        · subst h0; simp at hne
        · exact h0
      obtain ⟨b, off, spot⟩ := a
      have hc0 := (hrow 0 (by omega)).1
      have hspot : spot = none := by simpa [Addr.add] using World.cell?_spot hc0
      subst hspot
      refine ⟨b, off, Ar, Cr, rfl, World.block_lt_of_cell? _ _ hc0, fun j hj => ?_⟩
      have hj' : j < len := by simpa using hj
      obtain ⟨h1, h2, h3, h4, h5, h6, h7⟩ := hrow j (by omega)
      rw [Addr.add_lit] at h1
      rw [hget j hj', hrl j hj']
      refine ⟨h1, ?_⟩
      rw [(nr_of (hz j hj')).1]
      intro hne2
      have hLp : 0 < Lr j := by
        rcases Nat.eq_zero_or_pos (Lr j) with h0 | h0
        · rw [h0] at hne2; simp at hne2
        · exact h0
      cases hA : Ar j with
      | none => have := h6 hA; omega
      | some a' =>
        obtain ⟨b', off', spot'⟩ := a'
        have hcell := (h7 _ hA).2
        have hc1 := hcell 0 (by omega)
        have hspot' : spot' = none := by simpa [Addr.add] using World.cell?_spot hc1
        subst hspot'
        refine ⟨b', off', rfl, World.block_lt_of_cell? _ _ hc1, fun i hi => ?_⟩
        have hi' : i < Lr j := by simp at hi; omega
        have hci := hcell i (by omega)
        rw [Addr.add_lit] at hci
        rw [hci]
        simp [List.getD_eq_getElem?_getD, List.getElem?_take, hi']
    · obtain ⟨r, hr, rfl⟩ := List.mem_map.1 hd
      exact (nr_of (hz r (List.mem_range.1 hr))).2 x hx
    · obtain ⟨r, hr, rfl⟩ := List.mem_map.1 hd
      have hr' := List.mem_range.1 hr
      obtain ⟨_, h2, h3, _⟩ := hrow r (by omega)
      rw [hrl r hr']
      unfold maxLen at h3
      omega
theorem four_of {l : List Int} (hn : l.length = 4) (hw : ∀ z ∈ l, 0 ≤ z ∧ z ≤ 255) : ∃ f0 f1 f2 f3 : Nat, (l.map (Value.int .u8)).toArray = #[.int .u8 (f0 : Nat), .int .u8 (f1 : Nat), .int .u8 (f2 : Nat), .int .u8 (f3 : Nat)] ∧ ∀ x ∈ [f0, f1, f2, f3], x ≤ 255 := by
  obtain ⟨h1, h2⟩ := nr_of hw
  match l, hn with
  | [a, b, c, d], _ =>
    refine ⟨a.toNat, b.toNat, c.toNat, d.toNat, ?_, h2⟩
    have ha := hw a (by simp)
    have hb := hw b (by simp)
    have hc := hw c (by simp)
    have hd := hw d (by simp)
    rw [Int.toNat_of_nonneg ha.1, Int.toNat_of_nonneg hb.1, Int.toNat_of_nonneg hc.1, Int.toNat_of_nonneg hd.1]
    rfl
/-- The law FnRiffWritten over what came in. -/
theorem written_card (l0 l1 l3 : List Int) (A1 A2 A3 : Option Addr) (len1 c1 c2 c3 : Nat) (L2 : List (List Nat)) (W : World) (hn0 : l0.length = 4) (hw0 : ∀ z ∈ l0, (Lit.int .u8 z).wf = true) (hl1 : l1.length = len1 * 4) (hr1 : Rd .u8 W W.heap.size A1 l1) (hw1 : ∀ z ∈ l1, (Lit.int .u8 z).wf = true) (hm1 : len1 ≤ 9223372036854775807)
    (hr2 : RdR W W.heap.size A2 L2) (hb2 : ∀ d ∈ L2, ∀ x ∈ d, x ≤ 255) (hn2 : ∀ d ∈ L2, (d.length : Int) ≤ 9223372036854775807) (hm2 : (L2.length : Int) ≤ 9223372036854775807)
    (hr3 : Rd .i64 W W.heap.size A3 l3) (hw3 : ∀ z ∈ l3, (Lit.int .i64 z).wf = true) (hm3 : l3.length ≤ 9223372036854775807) (hE : ∃ ae au ar ad al ap ah, Errs W W.heap.size ae au ar ad al ap ah) :
    Calls Tryd.prog 6 #[.agg (l0.map (Value.int .u8)).toArray, .slice A1 len1 c1, .slice A2 L2.length c2, .slice A3 l3.length c3] W fun e w' => e = .returned (.bool true) ∧ Below W.heap.size W w' := by
  obtain ⟨f0, f1, f2, f3, hf, hfb⟩ := four_of hn0 (fun z hz => Go.bounds_u8 (hw0 z hz))
  obtain ⟨h1, h2⟩ := nr_of (fun z hz => Go.bounds_u8 (hw1 z hz))
  obtain ⟨ae, au, ar, ad, al, ap, ah, hE⟩ := hE
  rw [hf]
  exact (written_law f0 f1 f2 f3 A1 A2 A3 len1 c1 c2 c3 (l1.map Int.toNat) L2 l3 ae au ar ad al ap ah W hfb (by rw [h1]; exact hr1) (by rw [List.length_map, hl1]) h2 (by omega) hr2 hm2 hn2 hb2 hr3 (by omega) (fun x hx => Go.bounds_i64 (hw3 x hx)) hE).mono fun e w' h => ⟨h.1, h.2.toBelow⟩
end Go.Proofs.YthkpoidnhgcjhaaDoor
