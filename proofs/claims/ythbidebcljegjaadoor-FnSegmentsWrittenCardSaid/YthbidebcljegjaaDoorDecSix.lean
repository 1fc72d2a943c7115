/- The decoder, made with what is told of segments. No walk. -/
import Derived.Test.YthbidebcljegjaaDoorDec
import Derived.Test.YthbidebcljegjaaDoorBoolInit
import Derived.Great.FillDense
namespace Go.Proofs.YthbidebcljegjaaDoor
set_option linter.unusedSimpArgs false
set_option linter.unusedVariables false
open Go.RowKit Plain

theorem zcells_fp : (zcells.toList.drop 51).take 6 = [.slice none 0 0, .int .i64 0, .int .u32 0, .int .u32 0, .int .u8 0, .bool false] := by kernel_rfl
theorem place6 : ((placesOf Tryd.prog 126).bind fun l => l.toArray[6]?) = some (21, 14) := by kernel_rfl
theorem zc_fp (i : Nat) (h : i < 6) : zcells[51 + i]? = ([.slice none 0 0, .int .i64 0, .int .u32 0, .int .u32 0, .int .u8 0, .bool false] : List Value)[i]? := by
  have h1 := congrArg (fun l : List Value => l[i]?) zcells_fp
  simp only [List.getElem?_take, h, if_true, List.getElem?_drop] at h1
  exact (Array.getElem?_toList).symm.trans h1
theorem fill_one (place : Nat → Option (Nat × Nat)) (Z H : Array Value) (i off size : Nat) (hp : place i = some (off, size)) (hH : H.size = size) (hZ : off + size ≤ Z.size) :
    ∃ Z', Instr.fill place Z [(i, .agg H)] = some Z' ∧ Z'.size = Z.size ∧ ∀ k, Z'[k]? = if off ≤ k ∧ k < off + size then H[k - off]? else Z[k]? := by
  obtain ⟨g1, g2⟩ := Great.foldl_set off H.toList 0 Z
  refine ⟨(H.toList.zipIdx 0).foldl (fun cs (x : Value × Nat) => cs.setIfInBounds (off + x.2) x.1) Z, ?_, g1, fun k => ?_⟩
  · unfold Instr.fill
    have e : (Value.agg H).cells = H := rfl
    simp only [hp, e, hH]
    rw [if_neg (by simp; omega)]
    unfold Instr.fill
    congr 1
    rw [← Array.foldl_toList, Array.toList_zipIdx]
  · rw [g2 k]
    have hl : H.toList.length = size := by rw [Array.length_toList]; exact hH
    rw [hl, Nat.add_zero, Array.getElem?_toList]
    by_cases h : off ≤ k ∧ k < off + size
    · rw [if_pos ⟨h.1, h.2, by omega⟩, if_pos h]
    · rw [if_neg (by omega), if_neg h]
theorem dec_six (H : Array Value) (hH : H.size = 14) : ∃ Z, Tryd.prog.built 126 [(6, .agg H)] = some Z ∧ Z.size = 2482 ∧ ∀ k, Z[k]? = if 21 ≤ k ∧ k < 35 then H[k - 21]? else zcells[k]? := by
  obtain ⟨it, h1, h2⟩ := dec_info
  have hp : (placesOf Tryd.prog 126).isSome = true := by kernel_rfl
  have h6 := place6
  unfold placesOf at hp h6
  cases hu : Tryd.prog.underlying 126 with
  | none => rw [hu] at hp; cases hp
  | some d =>
    rw [hu] at hp h6
    cases d with
    | struct fs =>
      obtain ⟨places, hpl⟩ := Option.isSome_iff_exists.1 hp
      simp only at hpl h6
      rw [hpl] at h6
      obtain ⟨Z, e1, e2, e3⟩ := fill_one (places.toArray[·]?) zcells H 6 21 14 h6 hH (by rw [zcells_size]; decide)
      refine ⟨Z, ?_, e2.trans zcells_size, e3⟩
      rw [built_struct h1 hu h2 hpl]
      exact e1
    | _ => cases hp
end Go.Proofs.YthbidebcljegjaaDoor
