/- The walks of the boolean writer's functions. -/
import Derived.Test.YtleiehiabcgalaaDoorBoolRead
import Derived.Test.YtleiehiabcgalaaDoorPlain
import Derived.Test.YtleiehiabcgalaaDoorRows
import Derived.Outline
import Derived.WalkLawsBesides
import Derived.RegionTactic
import Derived.ChangeAlike
import Derived.Deep.RegionLaw
import Derived.Deep.LoopGhost
namespace Go.Proofs.YtleiehiabcgalaaDoor
set_option linter.unusedSimpArgs false
set_option linter.unusedVariables false
open Go.RowKit

def ofN (l : List Nat) : List Int := l.map fun (x : Nat) => (x : Int)
theorem ofN_length (l : List Nat) : (ofN l).length = l.length := by simp [ofN]
theorem ofN_getD (l : List Nat) (j : Nat) : (ofN l).getD j 0 = ((l.getD j 0 : Nat) : Int) := by
  rcases Nat.lt_or_ge j l.length with h | h
  · simp [ofN, h]
  · simp [ofN, h]

/-- What stands when the carry has run back over all from place m on. -/
def run0 (l : List Nat) (m : Nat) : List Nat := l.take m ++ List.replicate (l.length - m) 0
theorem run0_length (l : List Nat) (m : Nat) (h : m ≤ l.length) : (run0 l m).length = l.length := by simp [run0]; omega
theorem run0_all (l : List Nat) : run0 l l.length = l := by simp [run0]
theorem run0_lo (l : List Nat) (m j : Nat) (hj : j < m) (hm : m ≤ l.length) : (run0 l m).getD j 0 = l.getD j 0 := by
  have h1 : j < (l.take m).length := by simp; omega
  simp [run0, List.getD_eq_getElem?_getD, List.getElem?_append_left h1, hj]
theorem run0_set (l : List Nat) (m : Nat) (h1 : 1 ≤ m) (hm : m ≤ l.length) (x : Nat) : (run0 l m).set (m - 1) x = l.take (m - 1) ++ x :: List.replicate (l.length - m) 0 := by
  have e : l.take m = l.take (m - 1) ++ [l[m - 1]] := by
    have := List.take_succ_eq_append_getElem (l := l) (i := m - 1) (by omega)
    rwa [show m - 1 + 1 = m by omega] at this
  unfold run0
  rw [e, List.append_assoc]
  have hl : (l.take (m - 1)).length = m - 1 := by simp; omega
  rw [List.set_append_right _ _ (by omega), hl]
  simp
theorem run0_step (l : List Nat) (m : Nat) (h1 : 1 ≤ m) (hm : m ≤ l.length) : (run0 l m).set (m - 1) 0 = run0 l (m - 1) := by
  rw [run0_set l m h1 hm]
  unfold run0
  rw [show l.length - (m - 1) = (l.length - m) + 1 by omega, List.replicate_succ]
/-- From place m on all are 255. -/
def full (l : List Nat) (m : Nat) : Prop := ∀ j, m ≤ j → j < l.length → l.getD j 0 = 255
theorem carryL_run (A : List Nat) (x : Nat) (hx : ¬ x = 255) (k : Nat) : carryL (A ++ x :: List.replicate k 255) = A ++ (x + 1) :: List.replicate k 0 := by
  induction k with
  | zero => rw [show A ++ x :: List.replicate 0 255 = A ++ [x] by rfl, carryL_snoc, if_neg hx]; rfl
  | succ k ih =>
    rw [List.replicate_succ', ← List.cons_append, ← List.append_assoc, carryL_snoc, if_pos rfl, ih, List.replicate_succ', List.append_assoc, List.cons_append]
theorem carryL_all (k : Nat) : carryL (List.replicate k 255) = List.replicate k 0 := by
  induction k with
  | zero => rfl
  | succ k ih => rw [List.replicate_succ', carryL_snoc, if_pos rfl, ih, ← List.replicate_succ']
theorem full_split (l : List Nat) (m : Nat) (h1 : 1 ≤ m) (hm : m ≤ l.length) (hf : full l m) : l = l.take (m - 1) ++ l.getD (m - 1) 0 :: List.replicate (l.length - m) 255 := by
  apply List.ext_getElem
  · simp; omega
  · intro j h2 h3
    rcases Nat.lt_or_ge j (m - 1) with a | a
    · rw [List.getElem_append_left (by simp; omega)]; simp
    · rw [List.getElem_append_right (by simp; omega)]
      have e : (l.take (m - 1)).length = m - 1 := by simp; omega
      rcases Nat.lt_or_ge (m - 1) j with b | b
      · have := hf j (by omega) h2
        simp [h2] at this
        rw [this]
        simp only [e]
        rw [List.getElem_cons]
        rw [dif_neg (by omega)]
        simp
      · have : j = m - 1 := by omega
        subst this
        simp [e, h2]
theorem carry_is (l : List Nat) (m : Nat) (h1 : 1 ≤ m) (hm : m ≤ l.length) (hf : full l m) (hx : ¬ l.getD (m - 1) 0 = 255) : (run0 l m).set (m - 1) (l.getD (m - 1) 0 + 1) = carryL l := by
  rw [run0_set l m h1 hm]
  have := carryL_run (l.take (m - 1)) _ hx (l.length - m)
  rw [← full_split l m h1 hm hf] at this
  exact this.symm
theorem carry_none (l : List Nat) (hf : full l 0) : run0 l 0 = carryL l := by
  have e : l = List.replicate l.length 255 := by
    apply List.ext_getElem (by simp)
    intro j h1 h2
    have := hf j (by omega) h1
    simp [h1] at this
    simp [this]
  unfold run0
  simp only [List.take_zero, List.nil_append, Nat.sub_zero]
  have := carryL_all l.length
  rw [← e] at this
  exact this.symm

set_option maxHeartbeats 1000000 in
theorem carry_any (base g h n cap : Nat) (l : List Nat) (bo si bi : Int) (w : World) (hln : l.length = n) (hn1 : 1 ≤ n) (hn2 : n ≤ 100000000) (hgh : g ≠ h) (hby : IsBy l)
    (hb : Blk w g 40 #[.slice (some ⟨h, 0, none⟩) n cap, .int .i64 bo, .int .i64 si, .int .i64 bi])
    (ho : w.ownsRow base 5 1 (.slice (some ⟨h, 0, none⟩) n cap) n ((ofN l).map (Value.int .u8))) :
    Calls Tryd.prog 35 #[.pointer (some ⟨g, 0, none⟩)] w fun e w' => e = .returned (.tuple #[]) ∧
      w'.ownsRow base 5 1 (.slice (some ⟨h, 0, none⟩) n cap) n ((ofN (carryL l)).map (Value.int .u8)) ∧ Upd [h] w w' := by
  have hc0 : w.cell? ⟨g, 0, none⟩ = some (.slice (some ⟨h, 0, none⟩) n cap) := hb.cell 0
  go_enter Tryd.func35, Tryd.ntmps35
  go_wp2
  clear hc0
  go_loopw [2] (fun i wr => ∃ m : Nat, m ≤ n ∧ i = .int .i64 ((m : Int) - 1) ∧ full l m ∧ wr.ownsRow base 5 1 (.slice (some ⟨h, 0, none⟩) n cap) n ((ofN (run0 l m)).map (Value.int .u8)) ∧ Upd [h] w wr) (fun i _ => (intOf i + 1).toNat)
  case atStart => exact ⟨n, Nat.le_refl _, rfl, fun j h1 h2 => by omega, by rw [← hln, run0_all, hln]; exact ho, Upd.refl _ _⟩
  case round =>
    obtain ⟨m, hm, rfl, hf, hown, hupd⟩ := hrel
    have hc0 : wr.cell? ⟨g, 0, none⟩ = some (.slice (some ⟨h, 0, none⟩) n cap) := (hb.upd hupd (by simpa using hgh)).cell 0
    by_cases hm0 : m = 0
    · subst hm0
      go_wp2
      go_end0
      rw [carry_none l hf] at hown
      exact ⟨rfl, hown, hupd⟩
    · have c1 := own_cell hown (m - 1) (by omega)
      rw [ofN_getD, run0_lo l m (m - 1) (by omega) (by omega)] at c1
      have f1 := hown.frozenAt (m - 1)
      have hx := hby (l.getD (m - 1) 0) (by
        have : m - 1 < l.length := by omega
        simp [this])
      by_cases h255 : l.getD (m - 1) 0 = 255
      · have O := hide (own_set hown (m - 1) 0)
        have hf' : full l (m - 1) := fun j h1 h2 => by
          rcases Nat.eq_or_lt_of_le h1 with e | e
          · rw [← e]; exact h255
          · exact hf j (by omega) h2
        have E : ofN (run0 l (m - 1)) = (ofN (run0 l m)).set (m - 1) 0 := by
          rw [← run0_step l m (by omega) (by omega)]
          simp [ofN, List.map_set]
        replace E := hide E
        rw [h255] at c1
        replace hf' := hide hf'
        clear hf h255 hx hown
        go_wp2
        go_roundw
        case rel =>
          refine ⟨m - 1, by omega, by go_num, hf'.out, ?_, hupd.setCell (.inl (by simp)) _⟩
          rw [E.out]
          exact O.out
        case measure => simp [intOf]; omega
      · have O := hide (own_set hown (m - 1) ((l.getD (m - 1) 0 : Int) + 1))
        have E : ofN (carryL l) = (ofN (run0 l m)).set (m - 1) ((l.getD (m - 1) 0 : Int) + 1) := by
          rw [← carry_is l m (by omega) (by omega) hf h255]
          simp [ofN, List.map_set]
        replace E := hide E
        clear hf hown
        generalize l.getD (m - 1) 0 = x at *
        have hxb : (((x : Nat) : Int) == 255) = false := by simp; omega
        have hx254 : x + 1 ≤ 255 := by omega
        clear h255
        go_wp2
        go_end0
        refine ⟨rfl, ?_, hupd.setCell (.inl (by simp)) _⟩
        rw [E.out]
        exact O.out
end Go.Proofs.YtleiehiabcgalaaDoor
