/- The decoder of VP8 as it is made: one block of many cells, none of them opened. -/
import Derived.Test.YtleiehiabcgalaaDoorRows2
import Derived.Test.YtleiehiabcgalaaDoorArr
import Derived.Test.YtleiehiabcgalaaDoorPlain
import Derived.Test.YtleiehiabcgalaaDoorRows
import Derived.Outline
import Derived.WalkLawsBesides
import Derived.RegionTactic
import Derived.Deep.QuietTactic
import Derived.BigQuiet
import Derived.Deep.LoopGhost
import Derived.Deep.RegionWith
import Derived.Laws.Tables
import Derived.KernelRfl
namespace Go.Proofs.YtleiehiabcgalaaDoor
set_option linter.unusedSimpArgs false
set_option linter.unusedVariables false
open Go.RowKit Plain

/-- The decoder's zero. -/
noncomputable def zcells : Array Value := (((Tryd.prog.info? 100).bind (·.zero)).map (·.cells)).getD #[]
theorem dec_size : (Tryd.prog.info? 100).map (·.size) = some 2482 := by kernel_rfl
theorem zcells_len : (zcells.toList.length == 2482) = true := by kernel_rfl
theorem zcells_tail : zcells.toList.drop 1250 = List.replicate 400 (Value.int .i16 0) ++ List.replicate 832 (Value.int .u8 0) := by kernel_rfl
theorem zcells_one : zcells.toList.all (·.oneCell') = true := by kernel_rfl
theorem built_struct {P : Program} {t : TypeId} {it : TypeInfo} {fs : Array Field} {places : List (Nat × Nat)} {Z : Array Value} (hi : P.info? t = some it) (hu : P.underlying t = some (.struct fs)) (hz : it.zero.map (·.cells) = some Z)
    (hp : fs.toList.mapM (fun f => (P.info? f.type).map fun i => (f.offset, i.size)) = some places) (parts : List (Nat × Value)) : P.built t parts = Instr.fill (places.toArray[·]?) Z parts := by
  obtain ⟨z, hz1, rfl⟩ := Option.map_eq_some_iff.1 hz
  unfold Program.built
  rw [hi, hu]
  simp only [hz1, hp]
theorem dec_info : ∃ it, Tryd.prog.info? 100 = some it ∧ it.zero.map (·.cells) = some zcells := by
  cases h : Tryd.prog.info? 100 with
  | none => exact absurd h (by intro h; have := dec_size; rw [h] at this; cases this)
  | some it =>
    refine ⟨it, rfl, ?_⟩
    have hs : ((Tryd.prog.info? 100).bind (·.zero)).isSome = true := by kernel_rfl
    unfold zcells
    rw [h] at hs ⊢
    simp only [Option.bind_some] at hs ⊢
    cases hz : it.zero with
    | none => rw [hz] at hs; cases hs
    | some z => rfl
def placesOf (P : Program) (t : TypeId) : Option (List (Nat × Nat)) :=
  match P.underlying t with
  | some (.struct fs) => fs.toList.mapM (fun (f : Field) => (P.info? f.type).map fun i => (f.offset, i.size))
  | _ => none
theorem dec_built : Tryd.prog.built 100 [] = some zcells := by
  obtain ⟨it, h1, h2⟩ := dec_info
  have hp : (placesOf Tryd.prog 100).isSome = true := by kernel_rfl
  unfold placesOf at hp
  cases hu : Tryd.prog.underlying 100 with
  | none => rw [hu] at hp; cases hp
  | some d =>
    rw [hu] at hp
    cases d with
    | struct fs =>
      obtain ⟨places, hpl⟩ := Option.isSome_iff_exists.1 hp
      rw [built_struct h1 hu h2 hpl]
      rfl
    | _ => cases hp

theorem zcells_size : zcells.size = 2482 := by
  have h := zcells_len
  simp only [beq_iff_eq] at h
  rw [← Array.length_toList]
  exact h
theorem zcells_at (i : Nat) : zcells[1250 + i]? = (List.replicate 400 (Value.int .i16 0) ++ List.replicate 832 (Value.int .u8 0))[i]? := by
  have h := congrArg (fun l : List Value => l[i]?) zcells_tail
  simp only [List.getElem?_drop] at h
  exact (Array.getElem?_toList).symm.trans h
theorem zcells_coeff (i : Nat) (h : i < 400) : zcells[1250 + i]? = some (.int .i16 0) := by
  rw [zcells_at, List.getElem?_append_left (by rw [List.length_replicate]; exact h), List.getElem?_replicate, if_pos h]
theorem zcells_ybr (i : Nat) (h : i < 832) : zcells[1650 + i]? = some (.int .u8 0) := by
  have e : 1650 + i = 1250 + (400 + i) := by omega
  rw [e, zcells_at, List.getElem?_append_right (by rw [List.length_replicate]; omega), List.length_replicate, Nat.add_sub_cancel_left, List.getElem?_replicate, if_pos h]

/-- A value is made out of parts, its cells known. -/
theorem wpList_built {P : Program} {ops : Array Oper} {rest : List Oper} {o : Oper} {a : Act} {w : World} {Q : Exit → Act → World → Prop} (hg : o.guard = none) (t : TypeId) (parts : Array (Nat × Operand)) (ho : o.op = .build t parts) (Z : Array Value)
    (hZ : P.built t (parts.map fun (i, x) => (i, a.eval x)).toList = some Z) (h : wpList P ops Q rest (a.put o.dst (.agg Z)) w) : wpList P ops Q (o :: rest) a w := by
  refine wpList_build hg t parts ho (by rw [hZ]; rfl) ?_
  rw [hZ, Option.getD_some]
  exact h
/-- The decoder is made. -/
theorem wpList_dec0 {ops : Array Oper} {rest : List Oper} {o : Oper} {a : Act} {w : World} {Q : Exit → Act → World → Prop} (hg : o.guard = none) (ho : o.op = .build 100 #[])
    (h : ∀ Z, Z.size = 2482 → (∀ i, i < 400 → Z[1250 + i]? = some (.int .i16 0)) → (∀ i, i < 832 → Z[1650 + i]? = some (.int .u8 0)) → Z.all (·.oneCell') = true → wpList Tryd.prog ops Q rest (a.put o.dst (.agg Z)) w) : wpList Tryd.prog ops Q (o :: rest) a w := by
  have e : ((#[] : Array (Nat × Operand)).map fun (i, x) => (i, a.eval x)).toList = [] := by simp
  refine wpList_built hg 100 #[] ho zcells (by rw [e]; exact dec_built) (h zcells zcells_size zcells_coeff zcells_ybr ?_)
  have h4 := zcells_one
  rw [Array.all_toList] at h4
  exact h4
theorem zc_eq : Tryd.zeroCells100 = zcells := by
  apply Array.toList_inj.1
  kernel_rfl
theorem dz_size : Tryd.zeroCells100.size = 2482 := by rw [zc_eq]; exact zcells_size
theorem dz_coeff (i : Nat) (h : i < 400) : Tryd.zeroCells100[1250 + i]? = some (.int .i16 0) := by rw [zc_eq]; exact zcells_coeff i h
theorem dz_ybr (i : Nat) (h : i < 832) : Tryd.zeroCells100[1650 + i]? = some (.int .u8 0) := by rw [zc_eq]; exact zcells_ybr i h
end Go.Proofs.YtleiehiabcgalaaDoor
