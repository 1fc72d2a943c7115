/- 'bytes.Clone': the walk. -/
import Derived.Test.YtpiapfahcoopbaaMem
import Derived.Test.YtpiapfahcoopbaaRows
import Derived.Outline
import Derived.WalkLawsBesides
namespace Go.Proofs.Ytpiapfahcoopbaa
set_option linter.unusedSimpArgs false
set_option linter.unusedVariables false
open Go.RowKit
theorem info_u8c : (Try.prog.info? 5).map (fun i => (i.zero, i.size, i.bytes)) = some (some (Value.int .u8 0), 1, 1) := by kernel_rfl
theorem clone_any (b off c : Nat) (l : List Int) (w : World) (hl : l.length ≤ 65536) (hl0 : 0 < l.length) (h : Rd .u8 w w.heap.size (some ⟨b, off, none⟩) l) :
    Calls Try.prog 24 #[.slice (some ⟨b, off, none⟩) l.length c] w fun e w' => ∃ g cap, e = .returned (.slice (some ⟨g, 0, none⟩) l.length cap) ∧ w.heap.size ≤ g ∧
      w'.ownsRow w.heap.size 5 1 (.slice (some ⟨g, 0, none⟩) l.length cap) l.length (l.map (Value.int .u8)) ∧ Below w.heap.size w w' := by
  obtain ⟨i0, hi, hz, hz1, hz2⟩ := info_parts info_u8c
  obtain ⟨b', off', hbo, hb, hc⟩ := h.at_ hl0
  simp only [Option.some.injEq, Addr.mk.injEq, and_true] at hbo
  obtain ⟨rfl, rfl⟩ := hbo
  have hnil := fun W : World => Lib.run_eql_slice_nil (P := Try.prog) W 22 5 (some ⟨b, off, none⟩) l.length c 0 0 Try.underlying22
  have hnews : ∀ j u, (l.map (Value.int .u8))[j]? = some u → (w.alloc (.cells #[] 5)).cell? ((⟨b, off, none⟩ : Addr).add j) = some u := by
    intro j u hu
    have hj : j < l.length := by
      have := (List.getElem?_eq_some_iff.1 hu).1
      simpa using this
    rw [Addr.add_lit, World.cell?_alloc_lt w _ _ hb, hc j hj, ← hu]
    simp [hj]
  go_enter Try.func24, Try.ntmps24
  go_wp2_with (at_builtin; refine wpList_append_own _ rfl (.tmp 5) (.tmp 6) 22 rfl w.heap.size 5 i0 _ 1 1 Try.underlying22 hi hz hz1 hz2 rfl (by decide) (.slice (some ⟨w.heap.size, 0, none⟩) 0 0) 0 [] rfl (World.ownsRow_made w #[] 0 (Nat.le_refl _) (by simp [maxLen]) rfl) ⟨b, off, none⟩ l.length c (l.map (Value.int .u8)) rfl (by simp) hnews (ints_oneCell .u8 l) (by simp only [maxLen]; omega) (by omega) (by simp) ?_; intro v1 w1 hown1 hg1 _)
  go_ret
  simp only [Nat.zero_add, List.nil_append] at hown1
  obtain ⟨g, cap, rfl, hg, _⟩ := hown1.form hl0
  exact ⟨g, cap, rfl, hg, hown1, ((Below.refl _ _).alloc (Nat.le_refl _) _).grown hg1 (by simp) (fun k hk => by simp [Value.ownBlock] at hk; omega)⟩

end Go.Proofs.Ytpiapfahcoopbaa
