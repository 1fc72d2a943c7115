/- 'spec.Inverse': the walk. -/
import Derived.Test.YthbidebcljegjaaDoorIsShort
import Derived.Test.YthbidebcljegjaaDoorStep
namespace Go.Proofs.YthbidebcljegjaaDoor
set_option linter.unusedSimpArgs false
set_option linter.unusedVariables false
open Go.RowKit Plain

/-- m numbers, told by a function. -/
def rowL (F : Nat → Int) (m : Nat) : List Int := (List.range m).map F
theorem rowL_len (F : Nat → Int) (m : Nat) : (rowL F m).length = m := by simp [rowL]
theorem rowL_succ (F : Nat → Int) (m : Nat) : rowL F (m + 1) = rowL F m ++ [F m] := by simp [rowL, List.range_succ]
/-- What the inverse transform makes of values. -/
def ivF (x v : Nat → Int) (j : Nat) : Int := clB (v j + iT (pT x) j)
theorem info_byte : (Tryd.prog.info? 5).map (fun i => (i.zero, i.size, i.bytes)) = some (some (Value.int .u8 0), 1, 1) := by kernel_rfl
theorem iT_bd (t : Nat → Int) (ht : ∀ j, -25079 ≤ t j ∧ t j ≤ 25079) (j : Nat) : -20000 ≤ iT t j ∧ iT t j ≤ 20000 := by
  have h := tur_bd (t (4 * (j / 4))) (t (4 * (j / 4) + 1)) (t (4 * (j / 4) + 2)) (t (4 * (j / 4) + 3)) (j % 4) (ht _) (ht _) (ht _) (ht _)
  unfold iT
  omega

set_option maxRecDepth 100000 in
set_option maxHeartbeats 4000000 in
theorem specInv_any (x : Nat → Int) (A : Option Addr) (c B : Nat) (v : List Int) (w : World) (hl : v.length = 16) (hx : ∀ j, -25079 ≤ x j ∧ x j ≤ 25079) (ht : ∀ j, -25079 ≤ pT x j ∧ pT x j ≤ 25079) (hv : ∀ j, 0 ≤ v.getD j 0 ∧ v.getD j 0 ≤ 255) (hB : B ≤ w.heap.size) (hr : Rd .u8 w B A v) :
    Calls Tryd.prog 30 #[.agg (rowF .i64 x 16), .slice A 16 c] w fun e w' => ∃ s, e = .returned s ∧ w'.ownsRow w.heap.size 5 1 s 16 ((rowL (ivF x (fun j => v.getD j 0)) 16).map (Value.int .u8)) ∧ Below w.heap.size w w' := by
  have cS := fun w1 => sinv_any x w1 hx ht
  have hib := iT_bd (pT x) ht
  have hsz : (rowF .i64 x 16).size = 16 := rowF_size _ _ _
  have hs2 : (rowF .i64 (iT (pT x)) 16).size = 16 := rowF_size _ _ _
  have h2 := rowF_one .i64 (iT (pT x)) 16
  have hbx := hide (Blk.new w 37 (rowF .i64 x 16)).range
  have hb := hide ((Below.refl _ w).alloc (Nat.le_refl _) (.cells (rowF .i64 x 16) 37))
  replace hr := hide hr
  replace hv := hide hv
  replace hib := hide hib
  replace cS := hide cS
  clear hx ht
  generalize hXS : rowF .i64 (iT (pT x)) 16 = XS at *
  replace hXS := hide hXS
  go_enter Tryd.func30, Tryd.ntmps30
  go_wp2_with (first | (refine wpList_load_mid rfl 37 (.tmp 2) rfl w.heap.size 0 rfl (rowF .i64 x 16).toList _ hbx.out Tryd.underlying37 rfl (by rw [Array.length_toList, hsz]; exact size_16int) ?_) | (go_at_call 48; (with_reducible refine (cS.out _).mono ?_); rintro e w2 ⟨rfl, hb2⟩; replace hb2 := hide hb2) | (refine wpList_store_mid rfl 37 (.tmp 5) (.tmp 12) rfl w2.heap.size 0 XS.toList.toArray rfl rfl (by rw [Array.toArray_toList, hs2]; exact (Blk.new w2 37 (rowF .i64 (fun _ => 0) 16)).there 16 (by rw [rowF_size]; exact Nat.le_refl _)) (by rw [Array.toArray_toList, hs2]; exact size_16int) (by rw [Array.toArray_toList]; exact h2) ?_) | fail)
  have hs3 := hb2.out.size
  simp only [World.size_alloc] at hs3
  have hX0 : Hid (Blk ((w2.alloc (.cells (rowF .i64 (fun _ => 0) 16) 37)).setCells w2.heap.size 0 XS.toList) w2.heap.size 37 XS) := hide (blk_stored (Blk.new w2 37 (rowF .i64 (fun _ => 0) 16)) (by rw [hs2, rowF_size]))
  have hb0 := hide (below_setCells (show w.heap.size ≤ w2.heap.size by omega) XS.toList 0 ((hb.out.trans (hb2.out.mono (by simp))).alloc (by omega) (.cells (rowF .i64 (fun _ => 0) 16) 37)))
  have hszS : Hid (w2.heap.size + 1 ≤ ((w2.alloc (.cells (rowF .i64 (fun _ => 0) 16) 37)).setCells w2.heap.size 0 XS.toList).heap.size) := hide (by rw [size_setCells, World.size_alloc]; exact Nat.le_refl _)
  have hT0 : w.heap.size + 1 ≤ w2.heap.size := hs3
  clear hb2 hb hbx hs3 cS
  generalize w2.heap.size = T0 at *
  go_loopg [6, 7] 16 (fun k u6 u7 wr => ∃ m : Nat, k + m = 16 ∧ u7 = .int .i64 m ∧ Blk wr T0 37 (rowF .i64 (iT (pT x)) 16) ∧ wr.ownsRow (T0 + 1) 5 1 u6 m ((rowL (ivF x (fun j => v.getD j 0)) m).map (Value.int .u8)) ∧ Below w.heap.size w wr ∧ T0 + 1 ≤ wr.heap.size)
  case atStart => exact ⟨0, rfl, rfl, Blk.to hX0.out rfl hXS.out, ⟨rfl, .inl ⟨rfl, rfl⟩⟩, hb0.out, hszS.out⟩
  case round =>
    obtain ⟨m, hm, rfl, hX, ho, hbel, hsW⟩ := hrel
    clear hX0 hb0 hszS hXS hs2 h2
    replace hbel := hide hbel
    replace ho := hide ho
    cases gk with
    | zero =>
      have hm' : m = 16 := by omega
      subst hm'
      clear hX
      go_wp2
      go_ret
      exact ⟨_, rfl, own_down ho.out (by omega), hbel.out⟩
    | succ k =>
      obtain ⟨b, off, rfl, hbb, hc⟩ := hr.out.at_ (j := m) (by omega)
      have c0 := (hbel.out.cell (p := ⟨b, off + m, none⟩) (by simp; omega)).trans (hc m (by omega))
      have c1 := Blk.rowCell hX m (by omega)
      have hv1 := hv.out m
      have hi1 := hib.out m
      have hs : rowL (ivF x (fun j => v.getD j 0)) (m + 1) = rowL (ivF x (fun j => v.getD j 0)) m ++ [clB (v.getD m 0 + iT (pT x) m)] := rowL_succ _ _
      have hcb := clB_bd (v.getD m 0 + iT (pT x) m)
      have cB := fun w1 => byteOf_any (v.getD m 0 + iT (pT x) m) w1
      clear hc
      generalize v.getD m 0 = q0 at *
      generalize iT (pT x) m = q1 at *
      generalize clB (q0 + q1) = q2 at *
      have hml : (m : Int) < 16 := by omega
      have hm0 : (0 : Int) ≤ (m : Int) := by omega
      have V0 : IntKind.i64.wrap q0 = q0 := IntWalk.i64_in _ (by omega)
      have V1 : IntKind.i64.wrap (q0 + q1) = q0 + q1 := IntWalk.i64_in _ (by omega)
      have V2 : IntKind.u8.wrap q2 = q2 := IntWalk.u8_in _ (by omega)
      have hbn : ¬ b = wr.heap.size := by omega
      have hbn' : ¬ wr.heap.size = b := by omega
      have htn : ¬ T0 = wr.heap.size := by omega
      have htn' : ¬ wr.heap.size = T0 := by omega
      have hbw : b < wr.heap.size := by omega
      have htw : T0 < wr.heap.size := by omega
      have HC : ∀ j u, ([.int .u8 q2] : List Value)[j]? = some u → (wr.alloc (.cells #[.int .u8 q2] 5)).cell? ⟨wr.heap.size, j, none⟩ = some u := by
        intro j u hj
        rw [World.cell?_alloc_new]
        simpa using hj
      have hne1 : some b ≠ u6.ownBlock := fun e => by have := (ho.out.lt b e.symm).1; omega
      have hne2 : some T0 ≠ u6.ownBlock := fun e => by have := (ho.out.lt T0 e.symm).1; omega
      replace cB := hide cB
      replace hs := hide hs
      replace HC := hide HC
      replace hX := hide hX
      go_wp2
      go_region_held3 (fun W => W.cell? ⟨b, off + m, none⟩ = some (.int .u8 q0) ∧ W.cell? ⟨T0, m, none⟩ = some (.int .i64 q1))
        (first
          | go_keep
          | (go_split_ands
             refine ⟨?_, ?_⟩
             · rw [World.cell?_of_block (hg9.out.block b (by simp; omega) hne1)]
               simp [hbn, *]
             · rw [World.cell?_of_block (hg9.out.block T0 (by simp; omega) hne2)]
               simp [htn, *]))
        (first
          | (go_at_call 49; (with_reducible refine (cB.out _).mono ?_); rintro e w' ⟨rfl, rfl⟩)
          | (refine step_pushN (.tmp 17) (.tmp 29) 33 (T0 + 1) 5 (.int .u8 0) 1 Tryd.underlying33 info_byte rfl u6 m 1 ((rowL (ivF x (fun j => v.getD j 0)) m).map (Value.int .u8)) [.int .u8 q2] rfl (by simp [Value.oneCell']) wr.heap.size (by simp only [maxLen]; omega) (by omega) ?_; refine ⟨⟨rfl, rfl, rfl, ho.out.alloc _, rfl, HC.out, by simp <;> omega⟩, ?_⟩; intro v' w9 hown9 hg9; replace hown9 := hide hown9; replace hg9 := hide hg9))
      go_wp2
      go_roundg k
      case measure => omega
      case rel =>
        have hbl : T0 + 1 ≤ w9.heap.size := by
          have h1 := hg9.out.size
          have h2 : wr.heap.size + 1 ≤ w9.heap.size := by simpa using h1
          omega
        refine ⟨m + 1, by omega, by go_num, Blk.grown (by exact (hX.out.alloc _).drew) hg9.out (fun e => hne2 e.symm), by rw [hs.out]; simpa using hown9.out, ?_, hbl⟩
        exact (hbel.out.alloc (by omega) _).drew.grown hg9.out (by simp; omega) (fun k hk => by have := (ho.out.lt k hk).1; omega)
end Go.Proofs.YthbidebcljegjaaDoor
