/- 'filtered': the plane of which what is foretold is taken away. -/
import Derived.Test.YtldilncpenellaaAlphaPlain
import Derived.Test.YtldilncpenellaaRows
import Derived.Outline
import Derived.Deep.QuietTactic
import Derived.BigQuiet
import Derived.WalkLawsBesides
import Derived.Deep.DeepCutAuto
import Derived.Deep.CutBlock
namespace Go.Proofs.Ytldilncpenellaa
set_option linter.unusedSimpArgs false
set_option linter.unusedVariables false
open Go.RowKit
theorem held_any (x : Int) (w : World) : Calls Try.prog 18 #[.int .i64 x] w fun e w' => e = .returned (.int .i64 (heldI x)) ∧ w = w' := by
  unfold heldI
  go_enter Try.func18, Try.ntmps18
  go_wp2
  all_goals
    go_ret
    exact ⟨rfl, rfl⟩
theorem filt_take (kind : Int) (W : Nat) (P : List Int) (k : Nat) (hk : k < P.length) : (filt kind W P).take (k + 1) = (filt kind W P).take k ++ [(P.getD k 0 - fore kind W P k) % 256] := by
  have h : k < (filt kind W P).length := by rw [filt_length]; exact hk
  rw [List.take_succ_eq_append_getElem h]
  congr 2
  rw [← filt_getD kind W P k hk]
  simp [h]
theorem info_u8 : (Try.prog.info? 5).map (fun i => (i.zero, i.size, i.bytes)) = some (some (.int .u8 0), 1, 1) := by kernel_rfl
set_option maxHeartbeats 1000000 in
set_option maxRecDepth 100000 in
theorem filtered_any (kind : Int) (A : Option Addr) (c W : Nat) (P : List Int) (w : World) (hk : 0 ≤ kind ∧ kind ≤ 3) (hW : 1 ≤ W) (hW2 : W ≤ 65536) (hl : P.length ≤ 65536) (hB : IsB P) (h : Rd .u8 w w.heap.size A P) :
    Calls Try.prog 11 #[.int .i64 kind, .slice A P.length c, .int .i64 W] w fun e w' => ∃ v, e = .returned v ∧ w'.ownsRow w.heap.size 5 1 v P.length ((filt kind W P).map (.int .u8)) ∧ Below w.heap.size w w' := by
  go_enter Try.func11, Try.ntmps11
  go_wp2
  go_loopw [7, 8] (fun v i wr => ∃ k : Nat, k ≤ P.length ∧ i = .int .i64 k ∧ wr.ownsRow w.heap.size 5 1 v k (((filt kind W P).take k).map (.int .u8)) ∧ Below w.heap.size w wr) (fun _ i _ => P.length - (intOf i).toNat)
  case atStart => exact ⟨0, Nat.zero_le _, rfl, World.ownsRow_nil _ _ _ _, Below.refl _ _⟩
  case round =>
    obtain ⟨k, hkl, rfl, hown, hbel⟩ := hrel
    by_cases hlt : k < P.length
    · have h' := h.below hbel
      obtain ⟨b, off, rfl, hb, hc⟩ := h'.at_ hlt
      clear h h'
      have d0 : 0 ≤ (k : Int) / (W : Int) := Int.ediv_nonneg (by omega) (by omega)
      have d1 : (k : Int) / (W : Int) ≤ k := Int.ediv_le_self _ (by omega)
      have m0 : 0 ≤ (k : Int) % (W : Int) := Int.emod_nonneg _ (by omega)
      go_wp2
      go_quiet (fail)
      go_upto_block 2 with fail
      go_cut [11] (fun s wx => s = .int .i64 (fore kind W P k) ∧ ∃ n, wx = wr.drewN n)
      case first =>
        by_cases h0 : kind = 0
        · subst h0
          have HZ := hide (fore_none W P k)
          go_wp2
          go_meet
          exact ⟨by rw [HZ.out], _, rfl⟩
        have h0b : (kind == 0) = false := by simp [h0]
        by_cases hz : k = 0
        · subst hz
          have HZ := hide (fore_first kind W P)
          go_wp2
          go_meet
          exact ⟨by rw [HZ.out], _, rfl⟩
        have hzb : ((k : Int) == 0) = false := by simp [hz]
        have hk1 : 1 ≤ k := by omega
        by_cases hx : k % W = 0
        · have hxb : ((k : Int) % (W : Int) == 0) = true := by simp; omega
          have hle : W ≤ k := by
            rcases Nat.lt_or_ge k W with hh | hh
            · rw [Nat.mod_eq_of_lt hh] at hx; omega
            · exact hh
          have hce := hc (k - W) (by omega)
          have H := hide (fore_col (P := P) h0 hz hx)
          have hb := hB (k - W)
          generalize P.getD (k - W) 0 = x at hce H hb
          clear hx hc h0 hz
          go_wp2
          go_meet
          exact ⟨by rw [H.out], _, rfl⟩
        have hxb : ((k : Int) % (W : Int) == 0) = false := by simp; omega
        by_cases hy : k / W = 0 ∨ kind = 1
        · have hce := hc (k - 1) (by omega)
          have H := hide (fore_left (P := P) h0 hz hx hy)
          have hb := hB (k - 1)
          generalize P.getD (k - 1) 0 = x at hce H hb
          by_cases hy0 : k / W = 0
          · have hyb : ((k : Int) / (W : Int) == 0) = true := by simp; omega
            clear hx hc h0 hz hy hy0
            go_wp2
            go_meet
            exact ⟨by rw [H.out], _, rfl⟩
          · have hyb : ((k : Int) / (W : Int) == 0) = false := by simp; omega
            have hk1 : (kind == 1) = true := by simp; omega
            clear hx hc h0 hz hy hy0
            go_wp2
            go_meet
            exact ⟨by rw [H.out], _, rfl⟩
        have hyb : ((k : Int) / (W : Int) == 0) = false := by simp; omega
        have hk1 : (kind == 1) = false := by simp; omega
        have hle : W ≤ k := by
          rcases Nat.lt_or_ge k W with hh | hh
          · exact absurd (.inl (Nat.div_eq_of_lt hh)) hy
          · exact hh
        have hle1 : W + 1 ≤ k := by
          rcases Nat.lt_or_ge k (W + 1) with hh | hh
          · have : k = W := by omega
            subst this
            simp at hx
          · exact hh
        by_cases h2 : kind = 2
        · have hce := hc (k - W) (by omega)
          have H := hide (fore_up (P := P) h2 hz hx hy)
          have hb := hB (k - W)
          generalize P.getD (k - W) 0 = x at hce H hb
          have hk2 : (kind == 2) = true := by simp [h2]
          clear hx hc h0 hz hy h2
          go_wp2
          go_meet
          exact ⟨by rw [H.out], _, rfl⟩
        · have hc1 := hc (k - 1) (by omega)
          have hc2 := hc (k - W) (by omega)
          have hc3 := hc (k - W - 1) (by omega)
          have H := hide (fore_grad (P := P) h0 h2 hz hx hy)
          have hb1 := hB (k - 1)
          have hb2 := hB (k - W)
          have hb3 := hB (k - W - 1)
          generalize P.getD (k - 1) 0 = x1 at hc1 H hb1
          generalize P.getD (k - W) 0 = x2 at hc2 H hb2
          generalize P.getD (k - W - 1) 0 = x3 at hc3 H hb3
          have hk2 : (kind == 2) = false := by simp [h2]
          clear hx hc h0 hz hy h2
          have e1 := IntWalk.i64_in ((k : Int) - 1) (by omega)
          have e2 := IntWalk.i64_in ((k : Int) - (W : Int)) (by omega)
          have e3 := IntWalk.i64_in ((k : Int) - (W : Int) - 1) (by omega)
          have e6 := IntWalk.i64_in x1 (by omega)
          have e7 := IntWalk.i64_in x2 (by omega)
          have e8 := IntWalk.i64_in x3 (by omega)
          have e4 := IntWalk.i64_in (x1 + x2) (by omega)
          have e5 := IntWalk.i64_in (x1 + x2 - x3) (by omega)
          have t1 : ((k : Int) - 1).toNat = k - 1 := by omega
          have t2 : ((k : Int) - (W : Int)).toNat = k - W := by omega
          have t3 : ((k : Int) - (W : Int) - 1).toNat = k - W - 1 := by omega
          have n1 : 0 ≤ (k : Int) - 1 ∧ (k : Int) - 1 < P.length := by omega
          have n2 : 0 ≤ (k : Int) - (W : Int) ∧ (k : Int) - (W : Int) < P.length := by omega
          have n3 : 0 ≤ (k : Int) - (W : Int) - 1 ∧ (k : Int) - (W : Int) - 1 < P.length := by omega
          obtain ⟨n1, n1'⟩ := n1
          obtain ⟨n2, n2'⟩ := n2
          obtain ⟨n3, n3'⟩ := n3
          have n1s : (1 : Int) ≤ k := by omega
          have n2s : (W : Int) ≤ k := by omega
          have n3s : (1 : Int) ≤ (k : Int) - (W : Int) := by omega
          go_wp2
          go_quiet ((go_at_call 18; exact quiet_after (held_any _ _)))
          go_wp2
          go_meet
          exact ⟨by rw [H.out], by simp only [World.drewN_drewN]; exact ⟨_, rfl⟩⟩
      case rest =>
        obtain ⟨rfl, n, rfl⟩ := hcut
        have hce := hc k hlt
        have ht := hide (filt_take kind W P k hlt)
        clear hc
        generalize P.getD k 0 = x at hce ht
        generalize fore kind W P k = y at ht ⊢
        go_wp2_with (at_builtin; refine wpList_push rfl (.tmp 88) (.tmp 96) _ rfl w.heap.size 5 _ 1 Try.underlying25 info_u8 rfl u7 k _ rfl (own_drewN hown n) _ rfl rfl (by simp only [maxLen]; omega) (by omega) hbel.size ?_; intro v' w' hown' hg)
        go_roundw
        case rel =>
          refine ⟨k + 1, by omega, by go_num, ?_, (below_drewN hbel n).grown hg hbel.size fun g hg => (hown.lt g hg).1⟩
          rw [ht.out, List.map_append]
          exact hown'
        case measure => simp [intOf]; omega
    · go_wp2
      go_ret
      have hk2 : k = P.length := by omega
      subst hk2
      refine ⟨_, rfl, ?_, hbel⟩
      rw [List.take_of_length_le (by rw [filt_length]; exact Nat.le_refl _)] at hown
      exact hown
end Go.Proofs.Ytldilncpenellaa
