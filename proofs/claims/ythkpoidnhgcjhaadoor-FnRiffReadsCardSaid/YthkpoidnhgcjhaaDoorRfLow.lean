/- 'low', 'chunk' and 'file': the walks. -/
import Derived.Test.YthkpoidnhgcjhaaDoorRfPlain
import Derived.Test.YthkpoidnhgcjhaaDoorRfState
import Derived.Test.YthkpoidnhgcjhaaDoorRfPush
import Derived.Test.YthkpoidnhgcjhaaDoorMake
namespace Go.Proofs.YthkpoidnhgcjhaaDoor
set_option linter.unusedSimpArgs false
set_option linter.unusedVariables false
open Go.RowKit Plain

set_option maxRecDepth 100000 in
set_option maxHeartbeats 4000000 in
theorem low_any (n : Nat) (hn : (n : Int) ≤ 4294967295) (w : World) : Calls Tryd.prog 26 #[.int .i64 (n : Nat), .int .i64 4] w fun e w' => ∃ v, e = .returned v ∧ w'.ownsRow w.heap.size 5 1 v 4 ((ofNr (lowP n)).map (Value.int .u8)) ∧ Upd [] w w' := by
  go_enter Tryd.func26, Tryd.ntmps26
  go_wp2
  go_loopg [5, 6] 4 (fun k v5 v6 wr => ∃ j : Nat, k + j = 4 ∧ v6 = .int .i64 (j : Nat) ∧ wr.ownsRow w.heap.size 5 1 v5 j ((ofNr ((lowP n).take j)).map (Value.int .u8)) ∧ Upd [] w wr)
  case atStart => exact ⟨0, rfl, by simp, ⟨rfl, .inl ⟨rfl, rfl⟩⟩, Upd.refl _ _⟩
  case round =>
    obtain ⟨j, hj, rfl, ho, hu⟩ := hrel
    cases gk with
    | zero =>
      have hj' : j = 4 := by omega
      subst hj'
      replace ho := hide ho
      replace hu := hide hu
      go_wp2
      go_ret
      exact ⟨_, rfl, ho.out, hu.out⟩
    | succ k =>
      obtain ⟨A, c, rfl⟩ := own_shape ho
      have hsz := hu.size
      replace ho := hide ho
      replace hu := hide hu
      have hu0 := hu
      have ho0 := ho
      rcases (by omega : j = 0 ∨ j = 1 ∨ j = 2 ∨ j = 3) with rfl | rfl | rfl | rfl
      · go_wp2_with (refine wpList_push rfl (.tmp 12) (.tmp 18) 25 rfl w.heap.size 5 (.int .u8 0) 1 Tryd.underlying25 info_u8r rfl (.slice A 0 c) 0 ((ofNr ((lowP n).take 0)).map (Value.int .u8)) rfl ho.out (.int .u8 ((n : Int) % 256)) rfl rfl (by simp [maxLen]) (by omega) hsz ?_; intro v' w' hk hg)
        clear hu ho
        have hu := hu0.out.grown hg (fun g' h => .inr (ho0.out.lt g' h).1)
        go_roundg k
        case measure => omega
        case rel => exact ⟨1, by omega, rfl, by simpa [lowP, ofNr] using hk, hu⟩
      · go_wp2_with (refine wpList_push rfl (.tmp 12) (.tmp 18) 25 rfl w.heap.size 5 (.int .u8 0) 1 Tryd.underlying25 info_u8r rfl (.slice A 1 c) 1 ((ofNr ((lowP n).take 1)).map (Value.int .u8)) rfl ho.out (.int .u8 ((n : Int) / 256 % 256)) rfl rfl (by simp [maxLen]) (by omega) hsz ?_; intro v' w' hk hg)
        clear hu ho
        have hu := hu0.out.grown hg (fun g' h => .inr (ho0.out.lt g' h).1)
        go_roundg k
        case measure => omega
        case rel => exact ⟨2, by omega, rfl, by simpa [lowP, ofNr] using hk, hu⟩
      · go_wp2_with (refine wpList_push rfl (.tmp 12) (.tmp 18) 25 rfl w.heap.size 5 (.int .u8 0) 1 Tryd.underlying25 info_u8r rfl (.slice A 2 c) 2 ((ofNr ((lowP n).take 2)).map (Value.int .u8)) rfl ho.out (.int .u8 ((n : Int) / 65536 % 256)) rfl rfl (by simp [maxLen]) (by omega) hsz ?_; intro v' w' hk hg)
        clear hu ho
        have hu := hu0.out.grown hg (fun g' h => .inr (ho0.out.lt g' h).1)
        go_roundg k
        case measure => omega
        case rel => exact ⟨3, by omega, rfl, by simpa [lowP, ofNr] using hk, hu⟩
      · go_wp2_with (refine wpList_push rfl (.tmp 12) (.tmp 18) 25 rfl w.heap.size 5 (.int .u8 0) 1 Tryd.underlying25 info_u8r rfl (.slice A 3 c) 3 ((ofNr ((lowP n).take 3)).map (Value.int .u8)) rfl ho.out (.int .u8 ((n : Int) / 16777216)) rfl rfl (by simp [maxLen]) (by omega) hsz ?_; intro v' w' hk hg)
        rw [show (n : Int) / 16777216 = (n : Int) / 16777216 % 256 from by omega] at hk
        clear hu ho
        have hu := hu0.out.grown hg (fun g' h => .inr (ho0.out.lt g' h).1)
        go_roundg k
        case measure => omega
        case rel => exact ⟨4, by omega, rfl, by simpa [lowP, ofNr] using hk, hu⟩
theorem upd_own {w0 w w' : World} {base size n : Nat} {e : TypeId} {v : Value} {xs : List Value} (u : Upd [] w0 w) (ho : w.ownsRow base e size v n xs) (hb : w0.heap.size ≤ base) (hg : w.grownBy w' v.ownBlock) : Upd [] w0 w' :=
  u.grown hg (fun g h => .inr (by have := (ho.lt g h).1; omega))
set_option maxRecDepth 100000 in
set_option maxHeartbeats 4000000 in
theorem chunk_any (i0 i1 i2 i3 : Nat) (A : Option Addr) (c B : Nat) (b : List Nat) (w : World) (hr : Rd .u8 w B A (ofNr b)) (hB : B ≤ w.heap.size) (hl : (b.length : Int) ≤ 1073741824) :
    Calls Tryd.prog 15 #[.agg #[.int .u8 (i0 : Nat), .int .u8 (i1 : Nat), .int .u8 (i2 : Nat), .int .u8 (i3 : Nat)], .slice A b.length c] w fun e w' => ∃ v, e = .returned v ∧ w'.ownsRow w.heap.size 5 1 v (chunkP [i0, i1, i2, i3] b).length ((ofNr (chunkP [i0, i1, i2, i3] b)).map (Value.int .u8)) ∧ Upd [] w w' := by
  have hb0 := Blk.new w 22 #[.int .u8 (i0 : Nat), .int .u8 (i1 : Nat), .int .u8 (i2 : Nat), .int .u8 (i3 : Nat)]
  have hR0 : Rd .u8 (w.alloc (.cells #[.int .u8 (i0 : Nat), .int .u8 (i1 : Nat), .int .u8 (i2 : Nat), .int .u8 (i3 : Nat)] 22)) (w.heap.size + 1) (some ⟨w.heap.size, 0, none⟩) (ofNr [i0, i1, i2, i3]) := by
    refine Rd.ofCells (by omega) (fun j hj => ?_)
    have hj' : j < 4 := hj
    rw [Nat.zero_add, hb0.cell j]
    rcases (by omega : j = 0 ∨ j = 1 ∨ j = 2 ∨ j = 3) with rfl | rfl | rfl | rfl <;> rfl
  have u0 := (Upd.refl [] w).alloc (.cells #[.int .u8 (i0 : Nat), .int .u8 (i1 : Nat), .int .u8 (i2 : Nat), .int .u8 (i3 : Nat)] 22)
  have hbl : ((b.length : Nat) : Int) ≤ 4294967295 := by omega
  have hodd : (IntKind.i64.wrap ((b.length : Int).tmod 2) == 1) = decide (b.length % 2 = 1) ∨ True := .inr trivial
  clear hodd
  replace hR0 := hide hR0
  replace u0 := hide u0
  replace hr := hide hr
  have hchl : (chunkP [i0, i1, i2, i3] b).length = 8 + b.length + (padP (decide (b.length % 2 = 1))).length := chunk_len _ _ rfl
  have hpp := padP_len (decide (b.length % 2 = 1))
  replace hchl := hide hchl
  replace hpp := hide hpp
  have hodd : (((b.length : Int) % 2 == 1) = true ∧ decide (b.length % 2 = 1) = true) ∨ (((b.length : Int) % 2 == 1) = false ∧ decide (b.length % 2 = 1) = false) := by
    rcases (by omega : b.length % 2 = 0 ∨ b.length % 2 = 1) with h | h
    · refine .inr ⟨?_, by simp [h]⟩
      rw [show (b.length : Int) % 2 = 0 from by omega]
      rfl
    · refine .inl ⟨?_, by simp [h]⟩
      rw [show (b.length : Int) % 2 = 1 from by omega]
      rfl
  rcases hodd with ⟨ho1, ho2⟩ | ⟨ho1, ho2⟩
  all_goals
   replace ho2 := hide ho2
   go_enter Tryd.func15, Tryd.ntmps15
   go_wp2_with (first
     | (refine wpList_pushR rfl (.const (.slice none 0 0)) (.tmp 6) 25 rfl w.heap.size (w.heap.size + 1) 5 .u8 1 Tryd.underlying25 info_u8r (.slice none 0 0) 0 [] rfl ⟨rfl, .inl ⟨rfl, rfl⟩⟩ (some ⟨w.heap.size, 0, none⟩) 4 4 (ofNr [i0, i1, i2, i3]) rfl rfl hR0.out (by simp [maxLen]) (by omega) (by simp) ?_
        intro v1 w1 hk1 hg1
        have u1 := hide (u0.out.grown hg1 (fun g h => by simp [Value.ownBlock] at h))
        have hz1 := u1.out.size
        obtain ⟨A1, c1, rfl⟩ := own_shape hk1
        have cl := hide (low_any b.length hbl w1)
        replace hk1 := hide hk1)
     | (with_reducible refine (cl.out).mono ?_
        rintro e w2 ⟨v2, rfl, hk2, hu2⟩
        have u2 := hide (u1.out.trans hu2)
        have hk12 := hide (hu2.own hk1.out (by simp))
        have hz2 := u2.out.size
        obtain ⟨A2, c2, rfl⟩ := own_shape hk2
        have hR2 := hide (Rd.ofOwn hk2)
        clear hk1 hk2 cl hu2)
     | (refine wpList_pushR rfl (.tmp 8) (.tmp 11) 25 rfl w.heap.size _ 5 .u8 1 Tryd.underlying25 info_u8r _ 4 _ rfl hk12.out A2 4 c2 (ofNr (lowP b.length)) rfl rfl hR2.out (by simp [maxLen]) (by omega) (by omega) ?_
        intro v3 w3 hk3 hg3
        have u3 := hide (upd_own u2.out hk12.out (Nat.le_refl _) hg3)
        have hz3 := u3.out.size
        obtain ⟨A3, c3, rfl⟩ := own_shape hk3
        have hr3 := hide (hr.out.upd u3.out hB (by simp))
        replace hk3 := hide hk3)
     | (refine wpList_pushR rfl (.tmp 12) (.tmp 13) 25 rfl w.heap.size _ 5 .u8 1 Tryd.underlying25 info_u8r _ (4 + 4) _ rfl hk3.out A b.length c (ofNr b) (ofNr_len b) rfl hr3.out (by simp only [maxLen]; omega) (by omega) (by omega) ?_
        intro v4 w4 hk4 hg4
        have u4 := hide (upd_own u3.out hk3.out (Nat.le_refl _) hg4)
        have hz4 := u4.out.size
        obtain ⟨A4, c4, rfl⟩ := own_shape hk4
        have hk5 : w4.ownsRow w.heap.size 5 1 (.slice A4 (8 + b.length) c4) (8 + b.length) ((ofNr ([i0, i1, i2, i3] ++ (lowP b.length ++ b))).map (Value.int .u8)) := by simpa [ofNr] using hk4
        clear hk4
        replace hk5 := hide hk5)
     | (refine wpList_push rfl (.tmp 19) (.tmp 20) 25 rfl w.heap.size 5 (.int .u8 0) 1 Tryd.underlying25 info_u8r rfl (.slice A4 (8 + b.length) c4) (8 + b.length) _ rfl hk5.out (.int .u8 0) rfl rfl (by simp only [maxLen]; omega) (by omega) (by omega) ?_
        intro v6 w6 hk6 hg6
        have u6 := hide (upd_own u4.out hk5.out (Nat.le_refl _) hg6)
        obtain ⟨A6, c6, rfl⟩ := own_shape hk6
        replace hk6 := hide hk6)
     | fail)
   go_ret
   refine ⟨_, rfl, ?_, (by first | exact u6.out | exact u4.out)⟩
   first
     | (rw [show (chunkP [i0, i1, i2, i3] b).length = 8 + b.length + 1 from by rw [hchl.out, hpp.out, if_pos ho2.out]]
        have e : chunkP [i0, i1, i2, i3] b = ([i0, i1, i2, i3] ++ (lowP b.length ++ b)) ++ [0] := by simp [chunkP, padP, ho2.out]
        rw [e]
        simpa [ofNr] using hk6.out)
     | (rw [show (chunkP [i0, i1, i2, i3] b).length = 8 + b.length from by rw [hchl.out, hpp.out, if_neg (by rw [ho2.out]; decide)]; rfl]
        have e : chunkP [i0, i1, i2, i3] b = [i0, i1, i2, i3] ++ (lowP b.length ++ b) := by simp [chunkP, padP, ho2.out]
        rw [e]
        exact hk5.out)
set_option maxRecDepth 100000 in
set_option maxHeartbeats 4000000 in
theorem file_any (i0 i1 i2 i3 : Nat) (A : Option Addr) (c B : Nat) (b : List Nat) (w : World) (hr : Rd .u8 w B A (ofNr b)) (hB : B ≤ w.heap.size) (hl : (b.length : Int) ≤ 1073741820) :
    Calls Tryd.prog 11 #[.agg #[.int .u8 (i0 : Nat), .int .u8 (i1 : Nat), .int .u8 (i2 : Nat), .int .u8 (i3 : Nat)], .slice A b.length c] w fun e w' => ∃ v, e = .returned v ∧ w'.ownsRow w.heap.size 5 1 v (fileP [i0, i1, i2, i3] b).length ((ofNr (fileP [i0, i1, i2, i3] b)).map (Value.int .u8)) ∧ Upd [] w w' := by
  have hb0 := Blk.new w 22 #[.int .u8 (i0 : Nat), .int .u8 (i1 : Nat), .int .u8 (i2 : Nat), .int .u8 (i3 : Nat)]
  have hR0 : Rd .u8 (w.alloc (.cells #[.int .u8 (i0 : Nat), .int .u8 (i1 : Nat), .int .u8 (i2 : Nat), .int .u8 (i3 : Nat)] 22)) (w.heap.size + 1) (some ⟨w.heap.size, 0, none⟩) (ofNr [i0, i1, i2, i3]) := by
    refine Rd.ofCells (by omega) (fun j hj => ?_)
    have hj' : j < 4 := hj
    rw [Nat.zero_add, hb0.cell j]
    rcases (by omega : j = 0 ∨ j = 1 ∨ j = 2 ∨ j = 3) with rfl | rfl | rfl | rfl <;> rfl
  have u0 := (Upd.refl [] w).alloc (.cells #[.int .u8 (i0 : Nat), .int .u8 (i1 : Nat), .int .u8 (i2 : Nat), .int .u8 (i3 : Nat)] 22)
  replace hR0 := hide hR0
  replace u0 := hide u0
  replace hr := hide hr
  go_enter Tryd.func11, Tryd.ntmps11
  go_wp2_with (first
    | (refine wpList_pushR rfl (.const (.slice none 0 0)) (.tmp 6) 25 rfl w.heap.size (w.heap.size + 1) 5 .u8 1 Tryd.underlying25 info_u8r (.slice none 0 0) 0 [] rfl ⟨rfl, .inl ⟨rfl, rfl⟩⟩ (some ⟨w.heap.size, 0, none⟩) 4 4 (ofNr [i0, i1, i2, i3]) rfl rfl hR0.out (by simp [maxLen]) (by omega) (by simp) ?_
       intro v1 w1 hk1 hg1
       have u1 := hide (u0.out.grown hg1 (fun g h => by simp [Value.ownBlock] at h))
       have hz1 := u1.out.size
       obtain ⟨A1, c1, rfl⟩ := own_shape hk1
       have hr1 := hide (hr.out.upd u1.out hB (by simp))
       replace hk1 := hide hk1)
    | (refine wpList_pushR rfl (.tmp 7) (.tmp 8) 25 rfl w.heap.size _ 5 .u8 1 Tryd.underlying25 info_u8r _ 4 _ rfl hk1.out A b.length c (ofNr b) (ofNr_len b) rfl hr1.out (by simp only [maxLen]; omega) (by omega) (by omega) ?_
       intro v4 w4 hk4 hg4
       have u4 := hide (upd_own u1.out hk1.out (Nat.le_refl _) hg4)
       have hz4 := u4.out.size
       obtain ⟨A4, c4, rfl⟩ := own_shape hk4
       have hk5 : w4.ownsRow w.heap.size 5 1 (.slice A4 (4 + b.length) c4) (4 + b.length) ((ofNr ([i0, i1, i2, i3] ++ b)).map (Value.int .u8)) := by simpa [ofNr] using hk4
       clear hk4
       have hR5 := Rd.ofOwn hk5
       have cc := chunk_any 82 73 70 70 A4 c4 w4.heap.size ([i0, i1, i2, i3] ++ b) w4 hR5 (Nat.le_refl _) (by simp; omega)
       rw [show ([i0, i1, i2, i3] ++ b).length = 4 + b.length from by simp; omega] at cc
       have cc : Calls Tryd.prog 15 #[.agg #[.int .u8 82, .int .u8 73, .int .u8 70, .int .u8 70], .slice A4 (4 + b.length) c4] w4 _ := cc
       replace cc := hide cc)
    | (with_reducible refine (cc.out).mono ?_
       rintro e w6 ⟨v6, rfl, hk6, hu6⟩
       obtain ⟨A6, c6, rfl⟩ := own_shape hk6
       have u6 := hide (u4.out.trans hu6)
       have hk7 := hide (own_down hk6 hz4)
       clear hk6 hu6)
    | fail)
  go_ret
  exact ⟨_, rfl, hk7.out, u6.out⟩
end Go.Proofs.YthkpoidnhgcjhaaDoor
