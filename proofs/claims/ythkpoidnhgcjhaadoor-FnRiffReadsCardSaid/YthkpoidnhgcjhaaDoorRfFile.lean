/- 'readFile': the walk. -/
import Derived.Test.YthkpoidnhgcjhaaDoorRfSame
import Derived.Test.YthkpoidnhgcjhaaDoorRfRiff
import Derived.Test.YthkpoidnhgcjhaaDoorInts
namespace Go.Proofs.YthkpoidnhgcjhaaDoor
set_option linter.unusedSimpArgs false
set_option linter.unusedVariables false
open Go.RowKit Plain

theorem Sent.more {w : World} {B B' g : Nat} {ax : Addr} (h : Sent w B g ax) (hB : B ≤ B') : Sent w B' g ax := ⟨h.cell, h.blk, by have := h.lt; omega, by have := h.glt; omega⟩
theorem Errs.more {w : World} {B B' : Nat} {ae au ar ad al ap ah : Addr} (h : Errs w B ae au ar ad al ap ah) (hB : B ≤ B') : Errs w B' ae au ar ad al ap ah :=
  ⟨h.eof.more hB, h.une.more hB, h.rif.more hB, h.dat.more hB, h.lng.more hB, h.fil.more hB, h.hea.more hB, h.ne⟩
theorem Errs.at_ {w w' : World} {ae au ar ad al ap ah : Addr} (h : Errs w w.heap.size ae au ar ad al ap ah) (u : Upd [] w w') : Errs w' w'.heap.size ae au ar ad al ap ah := (h.upd u (by simp) (Nat.le_refl _)).more u.size
theorem box_rd {k : IntKind} {w : World} {t : TypeId} {l : List Int} : Rd k (w.alloc (.cells (l.map (Value.int k)).toArray t)) (w.heap.size + 1) (some ⟨w.heap.size, 0, none⟩) l := by
  refine Rd.ofCells (by omega) (fun j hj => ?_)
  rw [Nat.zero_add, World.cell?_alloc_new]
  simp [hj]
def stepC (l : List (Int × Int)) : List Value := l.flatMap fun x => [.int .i64 x.1, .int .i64 x.2]
theorem step_len (l : List (Int × Int)) : (stepC l).length = l.length * 2 := by
  induction l with
  | nil => rfl
  | cons x l ih => simp only [stepC, List.flatMap_cons, List.length_append, List.length_cons, List.length_nil] at ih ⊢; omega
theorem step_at : ∀ (l : List (Int × Int)) (j : Nat), j < l.length → (stepC l)[j * 2]? = some (.int .i64 (l.getD j (0, 0)).1) ∧ (stepC l)[j * 2 + 1]? = some (.int .i64 (l.getD j (0, 0)).2)
  | [], j, h => by simp at h
  | x :: l, 0, _ => ⟨rfl, rfl⟩
  | x :: l, j + 1, h => by
    have ih := step_at l j (by simpa using h)
    have e : stepC (x :: l) = [.int .i64 x.1, .int .i64 x.2] ++ stepC l := rfl
    rw [e, List.getElem?_append_right (by simp; omega), List.getElem?_append_right (by simp; omega)]
    simp only [List.length_cons, List.length_nil, List.getD_cons_succ]
    rw [show (j + 1) * 2 - (0 + 1 + 1) = j * 2 from by omega, show (j + 1) * 2 + 1 - (0 + 1 + 1) = j * 2 + 1 from by omega]
    exact ih
theorem RdS.ofOwn {w : World} {base c : Nat} {A : Option Addr} {l : List (Int × Int)} (h : w.ownsRow base 35 2 (.slice A l.length c) l.length (stepC l)) : RdS w w.heap.size A l := fun hl => by
  have hpos : 0 < l.length := by cases l <;> simp_all
  obtain ⟨g, cap, hv, _, hlt⟩ := h.form hpos
  have hA : A = some ⟨g, 0, none⟩ := by injection hv
  subst hA
  refine ⟨g, 0, rfl, hlt, fun j hj => ?_⟩
  obtain ⟨h1, h2⟩ := step_at l j hj
  rw [Nat.zero_add, h.cellAt (j * 2) (by omega), h.cellAt (j * 2 + 1) (by omega)]
  exact ⟨h1, h2⟩
theorem step_box {w : World} {l : List (Int × Int)} : RdS (w.alloc (.cells (stepC l).toArray 35)) (w.alloc (.cells (stepC l).toArray 35)).heap.size (some ⟨w.heap.size, 0, none⟩) l := fun _ => by
  refine ⟨w.heap.size, 0, rfl, by simp, fun j hj => ?_⟩
  obtain ⟨h1, h2⟩ := step_at l j hj
  rw [Nat.zero_add, World.cell?_alloc_new, World.cell?_alloc_new]
  simp only [List.getElem?_toArray]
  exact ⟨h1, h2⟩
set_option maxRecDepth 100000 in
set_option maxHeartbeats 8000000 in
theorem readFile_any (w : World) (ae au ar ad al ap ah : Addr) (hE : Errs w w.heap.size ae au ar ad al ap ah) : Calls Tryd.prog 9 #[] w fun e w' => e = .returned (.bool true) ∧ Upd [] w w' := by
  have hr0 : Rd .u8 (w.alloc (.cells #[.int .u8 7, .int .u8 8, .int .u8 9] 5)) (w.heap.size + 1) (some ⟨w.heap.size, 0, none⟩) (ofNr [7, 8, 9]) := box_rd (l := [7, 8, 9])
  have u0 := (Upd.refl [] w).alloc (.cells #[.int .u8 7, .int .u8 8, .int .u8 9] 5)
  have c1 : Calls Tryd.prog 15 #[.agg #[.int .u8 120, .int .u8 121, .int .u8 122, .int .u8 32], .slice (some ⟨w.heap.size, 0, none⟩) 3 3] (w.alloc (.cells #[.int .u8 7, .int .u8 8, .int .u8 9] 5)) _ := chunk_any 120 121 122 32 (some ⟨w.heap.size, 0, none⟩) 3 _ [7, 8, 9] _ hr0 (by simp) (by decide)
  have hs0 : (w.alloc (.cells #[.int .u8 7, .int .u8 8, .int .u8 9] 5)).heap.size = w.heap.size + 1 := by simp
  obtain ⟨bd, hbd⟩ : ∃ bd, bd = chunkP [120, 121, 122, 32] [7, 8, 9] := ⟨_, rfl⟩
  have hbl : bd.length = 12 := by rw [hbd]; rfl
  obtain ⟨fl, hfl⟩ : ∃ fl, fl = fileP [97, 98, 99, 100] bd := ⟨_, rfl⟩
  have hfll : fl.length = 24 := by rw [hfl, hbd]; rfl
  have hflb : ∀ x ∈ fl, x ≤ 255 := by rw [hfl, hbd]; decide
  have hrf : riffP fl [(0, 0), (1, 3), (0, 0)] = ([97, 98, 99, 100], [⟨[120, 121, 122, 32], 3, [7, 8, 9], 2⟩], [0, 0, 0, 1]) := by
    have h := riff_written (form := [97, 98, 99, 100]) (more := []) (cs := [([120, 121, 122, 32], [7, 8, 9], 3)]) rfl (by decide) (by decide)
    rw [List.append_nil] at h
    rw [hfl, hbd]
    exact h
  replace hE := hide hE
  replace u0 := hide u0
  replace c1 := hide c1
  replace hs0 := hide hs0
  replace hrf := hide hrf
  replace hflb := hide hflb
  replace hfl := hide hfl
  replace hbd := hide hbd
  clear hr0
  go_enter Tryd.func9, Tryd.ntmps9
  go_wp2_with (first
    | (go_at_call 15
       (with_reducible refine (c1.out).mono ?_)
       rintro e w1 ⟨v1, rfl, hk1, hu1⟩
       rw [← hbd.out, hbl] at hk1
       obtain ⟨A1, k1, rfl⟩ := own_shape hk1
       have u1 := hide (u0.out.trans hu1)
       have c2 : Calls Tryd.prog 11 #[.agg #[.int .u8 97, .int .u8 98, .int .u8 99, .int .u8 100], .slice A1 12 k1] w1 _ := hbl ▸ file_any 97 98 99 100 A1 k1 w1.heap.size bd w1 (Rd.ofOwn hk1) (Nat.le_refl _) (by omega)
       replace c2 := hide c2
       clear hk1 hu1)
    | (go_at_call 11
       (with_reducible refine (c2.out).mono ?_)
       rintro e w2 ⟨v2, rfl, hk2, hu2⟩
       rw [← hfl.out, hfll] at hk2
       obtain ⟨A2, k2, rfl⟩ := own_shape hk2
       have u2 := hide (u1.out.trans hu2)
       replace hk2 := hide hk2
       clear hu2)
    | fail)
  have us := u2.out.alloc (.cells #[.int .i64 0, .int .i64 0, .int .i64 1, .int .i64 3, .int .i64 0, .int .i64 0] 35)
  have hRb : Rd .u8 (w2.alloc (.cells #[.int .i64 0, .int .i64 0, .int .i64 1, .int .i64 3, .int .i64 0, .int .i64 0] 35)) (w2.alloc (.cells #[.int .i64 0, .int .i64 0, .int .i64 1, .int .i64 3, .int .i64 0, .int .i64 0] 35)).heap.size A2 (ofNr fl) := ((Rd.ofOwn hk2.out).upd ((Upd.refl [] w2).alloc _) (Nat.le_refl _) (by simp)).more (by simp)
  have cR := riff_any _ A2 none (some ⟨w2.heap.size, 0, none⟩) k2 0 3 fl [] [(0, 0), (1, 3), (0, 0)] ae au ar ad al ap ah hRb (by rw [hfll]; exact own_cap hk2.out) (by omega) hflb.out Rd.nil (by simp) (by simp) (step_box (w := w2) (l := [(0, 0), (1, 3), (0, 0)])) (by simp) (by decide) (hE.out.at_ us)
  rw [hfll, hrf.out, show ([] : List Int).length = 0 from rfl, show ([(0, 0), (1, 3), (0, 0)] : List (Int × Int)).length = 3 from rfl] at cR
  (with_reducible refine Calls.mono (by exact cR) ?_)
  rintro e w3 ⟨ov, kv, rfl, hu3, ho3, hk3⟩
  obtain ⟨A3, c3, rfl, hR3⟩ := ho3.reads
  obtain ⟨A4, c4, rfl⟩ := own_shape hk3
  obtain ⟨b3, o3, Af, Cf, rfl, hb3, hc3⟩ := hR3 (by simp)
  obtain ⟨q, hq⟩ := hc3 0 (by simp)
  have q4 := q 4 (by omega)
  have q5 := q 5 (by omega)
  simp [ckC] at q4 q5
  simp only [List.getD_cons_zero] at hq
  have u3 := hide (us.trans hu3)
  have hRk := hide (Rd.ofOwn hk3)
  replace hq := hide hq
  clear cR hRb us hu3 ho3 hk3 hR3 hc3 q
  generalize Af 0 = Ad at *
  generalize Cf 0 = Cd at *
  unfold four
  simp only [List.getD_cons_zero, List.getD_cons_succ]
  have hN := fun W => arr4_same 97 98 99 100 W
  have uA := (Upd.refl [] w3).alloc (.cells #[.int .u8 97, .int .u8 98, .int .u8 99, .int .u8 100] 22)
  have uB := uA.alloc (.cells #[.int .u8 7, .int .u8 8, .int .u8 9] 5)
  have hR2 : Rd .u8 ((w3.alloc (.cells #[.int .u8 97, .int .u8 98, .int .u8 99, .int .u8 100] 22)).alloc (.cells #[.int .u8 7, .int .u8 8, .int .u8 9] 5)) _ (some ⟨(w3.alloc (.cells #[.int .u8 97, .int .u8 98, .int .u8 99, .int .u8 100] 22)).heap.size, 0, none⟩) (ofNr [7, 8, 9]) := box_rd (l := [7, 8, 9])
  rw [show (w3.alloc (.cells #[.int .u8 97, .int .u8 98, .int .u8 99, .int .u8 100] 22)).heap.size = w3.heap.size + 1 from by simp] at hR2
  have cB : Calls Tryd.prog 20 #[.slice Ad 3 Cd, .slice (some ⟨w3.heap.size + 1, 0, none⟩) 3 3] ((w3.alloc (.cells #[.int .u8 97, .int .u8 98, .int .u8 99, .int .u8 100] 22)).alloc (.cells #[.int .u8 7, .int .u8 8, .int .u8 9] 5)) _ := bytes_same Ad _ Cd 3 (ofNr [7, 8, 9]) _ _ _ (by decide) (hq.out.upd uB (Nat.le_refl _) (by simp)) hR2
  have uC := hide (u3.out.trans uB)
  have hRk2 : Hid (Rd .i64 ((w3.alloc (.cells #[.int .u8 97, .int .u8 98, .int .u8 99, .int .u8 100] 22)).alloc (.cells #[.int .u8 7, .int .u8 8, .int .u8 9] 5)) w3.heap.size A4 [0, 0, 0, 1]) := hide (hRk.out.upd uB (Nat.le_refl _) (by simp))
  have hwC : w3.heap.size ≤ ((w3.alloc (.cells #[.int .u8 97, .int .u8 98, .int .u8 99, .int .u8 100] 22)).alloc (.cells #[.int .u8 7, .int .u8 8, .int .u8 9] 5)).heap.size := by simp; omega
  replace cB := hide cB
  replace hwC := hide hwC
  clear hR2 uB uA hRk hq c1 c2 u0 u1 u2 u3 hk2
  go_wp2_with fail
  (with_reducible refine (cB.out).mono ?_)
  rintro e w4 ⟨rfl, n4, hw4⟩
  have u4 : Upd [] w w4 := by rw [← hw4]; exact uC.out.drewN n4
  have hs4 : w3.heap.size ≤ w4.heap.size := by rw [← hw4]; exact hwC.out
  have hRk4 : Rd .i64 w4 w3.heap.size A4 [0, 0, 0, 1] := by rw [← hw4]; exact hRk2.out.drewN n4
  have cI : Calls Tryd.prog 14 #[.slice A4 4 c4, .slice (some ⟨w4.heap.size, 0, none⟩) 4 4] (w4.alloc (.cells #[.int .i64 0, .int .i64 0, .int .i64 0, .int .i64 1] 3)) _ := ints_same A4 _ c4 4 [0, 0, 0, 1] _ _ _ (by decide) (hRk4.upd ((Upd.refl [] w4).alloc _) hs4 (by simp)) (box_rd (l := [0, 0, 0, 1]))
  replace u4 := hide u4
  replace cI := hide cI
  clear hRk4 cB hw4 hRk2 hwC uC
  go_wp2_with fail
  (with_reducible refine (cI.out).mono ?_)
  rintro e w5 ⟨rfl, n5, hw5⟩
  have u5 : Upd [] w w5 := by rw [← hw5]; exact (u4.out.alloc (.cells #[.int .i64 0, .int .i64 0, .int .i64 0, .int .i64 1] 3)).drewN n5
  replace u5 := hide u5
  clear hw5 cI
  go_wp2_with fail
  go_ret
  exact ⟨rfl, u5.out⟩
end Go.Proofs.YthkpoidnhgcjhaaDoor
