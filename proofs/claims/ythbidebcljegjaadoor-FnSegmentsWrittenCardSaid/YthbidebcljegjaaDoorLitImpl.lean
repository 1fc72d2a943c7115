/- 'impl.Literals': numbers are read as they were written. The walk. -/
import Derived.Test.YthbidebcljegjaaDoorLitRead
import Derived.Test.YthbidebcljegjaaDoorIsLits
import Derived.Deep.RegionWith
namespace Go.Proofs.YthbidebcljegjaaDoor
set_option linter.unusedSimpArgs false
set_option linter.unusedVariables false
open Go.RowKit Plain

theorem info_int : (Tryd.prog.info? 3).map (fun i => (i.zero, i.size, i.bytes)) = some (some (Value.int .i64 0), 1, 8) := by kernel_rfl

theorem itemEv0 (p s : Nat) (v : Int) : itemEv 0 p s v = bitsOf (v % 2 ^ s).toNat p s := rfl
theorem itemEv1 (p s : Nat) (v : Int) : itemEv 1 p s v = signEv (v % 2 ^ s).toNat p s (decide (v < 0)) := rfl
theorem itemEv2 (p s : Nat) (v : Int) : itemEv 2 p s v = optEv (v % 2 ^ s).toNat p s (decide (v < 0)) := rfl
theorem mod_lt (v : Int) (s : Nat) : (v % 2 ^ s).toNat < 2 ^ s := by
  have hp : (0 : Int) < 2 ^ s := Int.pow_pos (by decide)
  have h1 := Int.emod_lt_of_pos v hp
  have h0 := Int.emod_nonneg v (show (2 : Int) ^ s ≠ 0 by omega)
  have h2 : ((2 ^ s : Nat) : Int) = (2 : Int) ^ s := by simp
  have h3 : (((v % 2 ^ s).toNat : Nat) : Int) < ((2 ^ s : Nat) : Int) := by rw [Int.toNat_of_nonneg h0, h2]; exact h1
  exact Int.ofNat_lt.1 h3
theorem itemVal_sign (c s : Nat) (v : Int) (hc : c ≠ 0) : itemVal c s v = if decide (v < 0) then -(((v % 2 ^ s).toNat : Nat) : Int) else (((v % 2 ^ s).toNat : Nat) : Int) := by
  have hp : (0 : Int) < 2 ^ s := Int.pow_pos (by decide)
  have h0 := Int.emod_nonneg v (show (2 : Int) ^ s ≠ 0 by omega)
  unfold itemVal
  rw [if_neg hc, Int.toNat_of_nonneg h0]
  by_cases h : v < 0 <;> simp [h]
theorem itemVal_zero (s : Nat) (v : Int) : itemVal 0 s v = (((v % 2 ^ s).toNat : Nat) : Int) := by
  have hp : (0 : Int) < 2 ^ s := Int.pow_pos (by decide)
  have h0 := Int.emod_nonneg v (show (2 : Int) ^ s ≠ 0 by omega)
  unfold itemVal
  rw [if_pos rfl, Int.toNat_of_nonneg h0]
theorem itemVal_bd (c s : Nat) (v : Int) (hs : s ≤ 24) : -16777215 ≤ itemVal c s v ∧ itemVal c s v ≤ 16777215 := by
  have h := mod_bd v s hs
  unfold itemVal
  split
  · omega
  · split <;> omega

theorem below_drewN {b : Nat} {w w' : World} (h : Below b w w') (n : Nat) : Below b w (w'.drewN n) := ⟨h.os, h.tape, h.output, h.size, h.block⟩
theorem lit_mid {w0 wr w2 : World} {o : Obj} {n m : Nat} {u : Value} {xs : List Value} {cs : Array Value} (hown : wr.ownsRow w0.heap.size 3 1 u m xs) (hB : Below w0.heap.size w0 wr) (hk : Blk wr w0.heap.size 87 cs)
    (hne : u.ownBlock ≠ some w0.heap.size) (hO : Only w0.heap.size 0 6 ((wr.alloc o).drewN n) w2) :
    w2.ownsRow w0.heap.size 3 1 u m xs ∧ Below w0.heap.size w0 w2 ∧ w0.heap.size ≤ w2.heap.size ∧ ∃ cs', Blk w2 w0.heap.size 87 cs' := by
  have h1 := hB.size
  have hU : Upd [w0.heap.size] wr w2 := (((Upd.refl _ wr).alloc o).drewN n).trans hO.upd
  refine ⟨hU.own hown (fun g hg => by simp; rintro rfl; exact hne hg), hB.trans (hU.below (by simp) h1), Nat.le_trans h1 hU.size, hO.typ _ _ ((hk.alloc o).drewN n)⟩
theorem lit_end {w0 w2 w3 : World} {m cap : Nat} {A : Option Addr} {bytes : List Nat} {dn rs : List (Bool × Nat)} {u : Value} {xs : List Value} {cs : Array Value} (R : Rdr w2 w0.heap.size 0 A cap bytes dn rs) (hR : Rd .u8 w0 w0.heap.size A (ofN bytes)) (hT : Luts w0)
    (hown : w2.ownsRow w0.heap.size 3 1 u m xs) (hB : Below w0.heap.size w0 w2) (hk : Blk w2 w0.heap.size 87 cs) (hne : u.ownBlock ≠ some w0.heap.size) (hg : w2.grownBy w3 u.ownBlock) :
    Rdr w3 w0.heap.size 0 A cap bytes dn rs ∧ Below w0.heap.size w0 w3 ∧ ∃ cs', Blk w3 w0.heap.size 87 cs' := by
  have hB3 := hB.grown hg hB.size (fun g hg => (hown.lt g hg).1)
  refine ⟨⟨?_, R.t, srcOf (hR.below hB3) (Nat.le_refl _), hT.below hB3 hT.lt, R.by_, R.len, R.codes, R.probs, R.ne⟩, hB3, cs, hk.grown hg hne⟩
  exact R.D.keep (fun i _ => World.cell?_of_block (hg.block _ hk.lt hne.symm)) (fun i _ => World.frozen?_of_block (hg.block _ hk.lt hne.symm))

set_option maxRecDepth 100000 in
set_option maxHeartbeats 4000000 in
theorem literals_any (A Al : Option Addr) (cap capl n : Nat) (bytes : List Nat) (zs vs : List Int) (w : World) (hL : Lits zs n) (hn : (n : Int) ≤ 4096) (hb : IsBy bytes) (hlen : (bytes.length : Int) ≤ 100000000) (hc : Codes bytes Iv.start (items zs vs n))
    (hR : Rd .u8 w w.heap.size A (ofN bytes)) (hRl : Rd .i64 w w.heap.size Al zs) (hT : Luts w) :
    Calls Tryd.prog 14 #[.slice A bytes.length cap, .slice Al n capl] w fun x w' => ∃ v, x = .returned (.tuple #[v, .bool false]) ∧
      w'.ownsRow w.heap.size 3 1 v n ((itemVs zs vs n).map (Value.int .i64)) ∧ Below w.heap.size w w' := by
  have hTl := hT.lt
  have c := bools_new A bytes.length cap w
  have hp := items_probs hL vs n (Nat.le_refl _)
  have hsp := items_split zs vs n n (Nat.le_refl _)
  rw [Nat.sub_self] at hsp
  replace hsp := hide hsp
  replace hT := hide hT
  replace hR := hide hR
  replace hRl := hide hRl
  replace hb := hide hb
  replace hc := hide hc
  replace hp := hide hp
  replace hL := hide hL
  go_enter Tryd.func14, Tryd.ntmps14
  go_wp2_with fail
  refine c.mono ?_
  rintro e w1 ⟨rfl, hD1, hB1, hk1⟩
  have hr1 : Hid (Rdr w1 w.heap.size 0 A cap bytes (items zs vs 0) (itemsFrom zs vs n n)) := by
    refine hide ⟨hD1, DS.start_tells bytes, srcOf (hR.out.below hB1) (Nat.le_refl _), hT.out.below hB1 hTl, hb.out, hlen, ?_, ?_, by omega⟩
    · rw [← hsp.out]; exact hc.out
    · rw [← hsp.out]; exact hp.out
  replace hB1 := hide hB1
  replace hk1 := hide hk1
  clear hD1 c hb hc hp hsp
  go_wp2
  go_loopg [7, 16] n (fun k u7 u16 wr => ∃ m, k + m = n ∧ u16 = .int .i64 m ∧ wr.ownsRow w.heap.size 3 1 u7 m ((itemVs zs vs m).map (Value.int .i64)) ∧ Rdr wr w.heap.size 0 A cap bytes (items zs vs m) (itemsFrom zs vs n k) ∧ Below w.heap.size w wr ∧ ∃ cs, Blk wr w.heap.size 87 cs)
  case atStart => exact ⟨0, rfl, rfl, ⟨rfl, .inl ⟨rfl, rfl⟩⟩, hr1.out, hB1.out, hk1.out⟩
  case round =>
    obtain ⟨m, hm, rfl, hown, hrd, hB, cs, hk⟩ := hrel
    clear hB1 hk1 hr1
    cases gk with
    | zero =>
      have hm' : m = n := by omega
      subst hm'
      have cE := doorEnded_any _ _ _ _ _ _ _ hrd.D
      replace hown := hide hown
      replace hB := hide hB
      clear hrd hk hL hR hT
      go_wp2_with fail
      refine cE.mono ?_
      rintro e w2 ⟨rfl, rfl⟩
      go_wp2
      go_ret2
      exact ⟨_, rfl, hown.out, hB.out⟩
    | succ k =>
      have hlt : (m : Int) < (n : Int) := by omega
      have hmn : n - (k + 1) = m := by omega
      have hzl := hL.out.len
      obtain ⟨bb, off, rfl, hbb, hcell⟩ := hRl.out.at_ (j := 3 * m) (by omega)
      have k0 := (hB.cell (p := ⟨bb, off + 3 * m, none⟩) hbb).trans (hcell (3 * m) (by omega))
      have k1 := (hB.cell (p := ⟨bb, off + (3 * m + 1), none⟩) hbb).trans (hcell (3 * m + 1) (by omega))
      have k2 := (hB.cell (p := ⟨bb, off + (3 * m + 2), none⟩) hbb).trans (hcell (3 * m + 2) (by omega))
      rw [show off + 3 * m = off + m * 3 by omega] at k0
      rw [show off + (3 * m + 1) = off + m * 3 + 1 by omega] at k1
      rw [show off + (3 * m + 2) = off + m * 3 + 2 by omega] at k2
      have gc := hL.out.c m (by omega)
      have gp := hL.out.p m (by omega)
      have gs := hL.out.s m (by omega)
      have hVs := itemVs_succ zs vs m
      have hIs : items zs vs (m + 1) = items zs vs m ++ item zs vs m := rfl
      have hFr : itemsFrom zs vs n (k + 1) = item zs vs m ++ itemsFrom zs vs n k := by rw [itemsFrom, hmn]
      rw [hFr] at hrd
      unfold itemV at hVs
      unfold item at hIs hrd
      clear hcell hFr hzl
      generalize zs.getD (3 * m) 0 = ci at *
      generalize zs.getD (3 * m + 1) 0 = pi at *
      generalize zs.getD (3 * m + 2) 0 = si at *
      generalize vs.getD m 0 = v at *
      obtain ⟨c, rfl⟩ := Int.eq_ofNat_of_zero_le gc.1
      obtain ⟨p, rfl⟩ := Int.eq_ofNat_of_zero_le gp.1
      obtain ⟨s, rfl⟩ := Int.eq_ofNat_of_zero_le gs.1
      simp only [Int.toNat_natCast] at hVs hIs hrd
      have hs24 : s ≤ 24 := by omega
      have gp2 := gp.2
      have gs2 := gs.2
      have hlt2 := mod_lt v s
      have hne := own_ne hown hk (by decide)
      have hv7 := fun g hg => (hown.lt g hg).1
      have hwr := hB.size
      have hc3 : c = 0 ∨ c = 1 ∨ c = 2 := by omega
      replace hown := hide hown
      replace hB := hide hB
      replace hk := hide hk
      replace hne := hide hne
      replace hv7 := hide hv7
      clear gc gp gs
      rcases hc3 with rfl | rfl | rfl
      · have hbd := itemVal_bd 0 s v hs24
        rw [itemEv0] at hrd hIs
        rw [itemVal_zero] at hVs hbd
        have cU := fun W h => doorUint_ev w.heap.size 0 A cap bytes (items zs vs m) (itemsFrom zs vs n k) _ p s W hlt2 hs24 (hrd.grown (w' := W) h)
        rw [← hIs] at cU
        generalize (((v % 2 ^ s).toNat : Nat) : Int) = y at *
        replace cU := hide cU
        replace hVs := hide hVs
        obtain ⟨hbd1, hbd2⟩ := hbd
        clear hrd hIs hlt2
        go_wp2
        go_quiet (fail)
        go_wp2_with fail
        (with_reducible refine (cU.out _ (below_drewN ((Below.refl wr.heap.size wr).alloc (Nat.le_refl _) _) _)).mono ?_)
        rintro e w2 ⟨rfl, hR2, hO2⟩
        obtain ⟨hown2, hB2, hsz2, cs2, hk2⟩ := lit_mid hown.out hB.out hk.out hne.out hO2
        replace hR2 := hide hR2
        replace hown2 := hide hown2
        replace hB2 := hide hB2
        replace hk2 := hide hk2
        clear hO2 hown hB hk
        go_wp2_with (at_builtin; refine wpList_push rfl (.tmp 38) (.tmp 44) _ rfl w.heap.size 3 _ 8 Tryd.underlying22 info_int rfl u7 m _ rfl hown2.out _ rfl rfl (by simp only [maxLen]; omega) (by omega) hsz2 ?_; intro v' w3 hown3 hg3; replace hown3 := hide hown3; replace hg3 := hide hg3)
        obtain ⟨hR3, hB3, hk3⟩ := lit_end hR2.out hR.out hT.out hown2.out hB2.out hk2.out hne.out hg3.out
        go_roundg k
        case measure => omega
        case rel => exact ⟨m + 1, by omega, by go_num, by rw [hVs.out]; simpa using hown3.out, hR3, hB3, hk3⟩
      · have hbd := itemVal_bd 1 s v hs24
        rw [itemEv1] at hrd hIs
        rw [itemVal_sign 1 s v (by decide)] at hVs hbd
        have cU := fun W h => doorInt_ev w.heap.size 0 A cap bytes (items zs vs m) (itemsFrom zs vs n k) _ p s (decide (v < 0)) W hlt2 hs24 (hrd.grown (w' := W) h)
        rw [← hIs] at cU
        generalize (if decide (v < 0) then -(((v % 2 ^ s).toNat : Nat) : Int) else (((v % 2 ^ s).toNat : Nat) : Int)) = y at *
        replace cU := hide cU
        replace hVs := hide hVs
        obtain ⟨hbd1, hbd2⟩ := hbd
        clear hrd hIs hlt2
        go_wp2
        go_quiet (fail)
        go_wp2_with fail
        (with_reducible refine (cU.out _ (below_drewN ((Below.refl wr.heap.size wr).alloc (Nat.le_refl _) _) _)).mono ?_)
        rintro e w2 ⟨rfl, hR2, hO2⟩
        obtain ⟨hown2, hB2, hsz2, cs2, hk2⟩ := lit_mid hown.out hB.out hk.out hne.out hO2
        replace hR2 := hide hR2
        replace hown2 := hide hown2
        replace hB2 := hide hB2
        replace hk2 := hide hk2
        clear hO2 hown hB hk
        go_wp2_with (at_builtin; refine wpList_push rfl (.tmp 48) (.tmp 54) _ rfl w.heap.size 3 _ 8 Tryd.underlying22 info_int rfl u7 m _ rfl hown2.out _ rfl rfl (by simp only [maxLen]; omega) (by omega) hsz2 ?_; intro v' w3 hown3 hg3; replace hown3 := hide hown3; replace hg3 := hide hg3)
        obtain ⟨hR3, hB3, hk3⟩ := lit_end hR2.out hR.out hT.out hown2.out hB2.out hk2.out hne.out hg3.out
        go_roundg k
        case measure => omega
        case rel => exact ⟨m + 1, by omega, by go_num, by rw [hVs.out]; simpa using hown3.out, hR3, hB3, hk3⟩
      · have hbd := itemVal_bd 2 s v hs24
        rw [itemEv2] at hrd hIs
        rw [itemVal_sign 2 s v (by decide)] at hVs hbd
        have cU := fun W h => doorOpt_ev w.heap.size 0 A cap bytes (items zs vs m) (itemsFrom zs vs n k) _ p s (decide (v < 0)) W hlt2 hs24 (hrd.grown (w' := W) h)
        rw [← hIs] at cU
        generalize (if decide (v < 0) then -(((v % 2 ^ s).toNat : Nat) : Int) else (((v % 2 ^ s).toNat : Nat) : Int)) = y at *
        replace cU := hide cU
        replace hVs := hide hVs
        obtain ⟨hbd1, hbd2⟩ := hbd
        clear hrd hIs hlt2
        go_wp2
        go_quiet (fail)
        go_wp2_with fail
        (with_reducible refine (cU.out _ (below_drewN ((Below.refl wr.heap.size wr).alloc (Nat.le_refl _) _) _)).mono ?_)
        rintro e w2 ⟨rfl, hR2, hO2⟩
        obtain ⟨hown2, hB2, hsz2, cs2, hk2⟩ := lit_mid hown.out hB.out hk.out hne.out hO2
        replace hR2 := hide hR2
        replace hown2 := hide hown2
        replace hB2 := hide hB2
        replace hk2 := hide hk2
        clear hO2 hown hB hk
        go_wp2_with (at_builtin; refine wpList_push rfl (.tmp 28) (.tmp 34) _ rfl w.heap.size 3 _ 8 Tryd.underlying22 info_int rfl u7 m _ rfl hown2.out _ rfl rfl (by simp only [maxLen]; omega) (by omega) hsz2 ?_; intro v' w3 hown3 hg3; replace hown3 := hide hown3; replace hg3 := hide hg3)
        obtain ⟨hR3, hB3, hk3⟩ := lit_end hR2.out hR.out hT.out hown2.out hB2.out hk2.out hne.out hg3.out
        go_roundg k
        case measure => omega
        case rel => exact ⟨m + 1, by omega, by go_num, by rw [hVs.out]; simpa using hown3.out, hR3, hB3, hk3⟩
end Go.Proofs.YthbidebcljegjaaDoor
