/- The law FnPredictFlat: the walk, for every argument. -/
import Derived.Test.YtleiehiabcgalaaDoorFlatM4
import Derived.Test.YtleiehiabcgalaaDoorFlatM8
import Derived.Test.YtleiehiabcgalaaDoorFlatM16
import Derived.Test.YtleiehiabcgalaaDoorEqLaws
import Derived.Test.YtleiehiabcgalaaDoorReadBool
import Derived.Deep.RegionHeld3
namespace Go.Proofs.YtleiehiabcgalaaDoor
set_option linter.unusedSimpArgs false
set_option linter.unusedVariables false
open Go.RowKit Plain

theorem tmod_bd (m n : Int) (hn : 0 < n) : -n < m.tmod n ∧ m.tmod n < n := ⟨Int.lt_tmod_of_pos m hn, Int.tmod_lt_of_pos m hn⟩
theorem turn_ex (m n : Int) (hn : 0 < n) (hn2 : n ≤ 100) : ∃ T R : Int, m.tmod n = T ∧ -n < T ∧ T < n ∧ (T + n).tmod n = R ∧ (T + n) % n = R ∧ 0 ≤ R ∧ R < n ∧ IntKind.i64.wrap (T + n) = T + n := by
  have h := tmod_bd m n hn
  refine ⟨_, _, rfl, h.1, h.2, rfl, ?_, Int.tmod_nonneg _ (by omega), (tmod_bd _ n hn).2, IntWalk.i64_in _ (by omega)⟩
  exact (Int.tmod_eq_emod_of_nonneg (by omega)).symm
set_option maxRecDepth 100000 in
set_option maxHeartbeats 4000000 in
theorem flatLaw_any (m v : Int) (w : World) (hL : Luts w) (hm1 : -9223372036854775808 ≤ m) (hm2 : m ≤ 9223372036854775807) (hv1 : 0 ≤ v) (hv2 : v ≤ 255) :
    Calls Tryd.prog 4 #[.int .i64 m, .int .u8 v] w fun e w' => e = .returned (.bool true) ∧ Below w.heap.size w w' := by
  have hlt := hL.lt
  have cB := fun w1 (hb : Below w.heap.size w w1) => readBool_any w1 (hL.below hb hlt)
  have hmk := fun W => make_zero4 W
  have hZ : Blk (w.alloc (.cells zq4 5)) w.heap.size 5 zq4 := Blk.new w _ _
  have hZs : zq4.size = 16 := rfl
  have hZb := (Below.refl w.heap.size w).alloc (Nat.le_refl _) (.cells zq4 5)
  have V : IntKind.i64.wrap v = v := IntWalk.i64_in _ (by omega)
  replace cB := hide cB
  replace hZ := hide hZ
  replace hZs := hide hZs
  replace hZb := hide hZb
  clear hL hlt
  go_enter Tryd.func4, Tryd.ntmps4
  go_wp2
  go_loopg [6] 16 (fun k ui wr => ∃ i cur, k + i = 16 ∧ ui = .int .i64 (i : Nat) ∧ Blk wr w.heap.size 5 cur ∧ cur.size = 16 ∧ (∀ j, j < i → cur[j]? = some (.int .u8 v)) ∧ Below w.heap.size w wr)
  case atStart => exact ⟨0, zq4, rfl, rfl, hZ.out, hZs.out, fun j h => by omega, hZb.out⟩
  case round =>
    obtain ⟨i, cur, hi, rfl, hC, hcs, hcv, hb⟩ := hrel
    clear hZ hZs hZb
    replace hcv := hide hcv
    cases gk with
    | succ k =>
      have hin : i < 16 := by omega
      have hii : (i : Int) < 16 := by omega
      have hi0 : (0 : Int) ≤ (i : Int) := by omega
      obtain ⟨e1, h1⟩ : ∃ e, wr.cell? ⟨w.heap.size, i, none⟩ = some e := ⟨_, (hC.cell _).trans (Array.getElem?_eq_getElem (by omega))⟩
      have f1 := hC.frozen i
      replace hC := hide hC
      replace hb := hide hb
      replace hcs := hide hcs
      go_wp2
      go_roundg k
      case measure => omega
      case rel => exact ⟨i + 1, _, by omega, by go_num, hC.out.set_ _ _, by simpa using hcs.out, fun j hj => by
        have hs := hcs.out
        by_cases e : i = j
        · subst e; exact set_eq _ _ _ _ (by omega) rfl
        · rw [set_ne _ _ _ _ e]; exact hcv.out j (by omega), hb.out.setCell (Nat.le_refl _) _⟩
    | zero =>
      have hi16 : i = 16 := by omega
      subst hi16
      have hr : ∀ n, n ≤ 16 → Rd .u8 wr (w.heap.size + 1) (some ⟨w.heap.size, 0, none⟩) (List.replicate n v) := fun n hn => Rd.ofCells (by omega) (fun j hj => by
        have hj' : j < n := by simpa using hj
        rw [Nat.zero_add, hC.cell j, hcv.out j (by omega)]
        simp [hj'])
      have hlt := hide hC.lt
      replace hr := hide hr
      replace hb := hide hb
      clear hC hcv hcs
      go_wp2
      obtain ⟨T10, R10, a1, a2, a3, a4, a5, a6, a7, a8⟩ := turn_ex m 10 (by omega) (by omega)
      obtain ⟨T4, R4, b1, b2, b3, b4, b5, b6, b7, b8⟩ := turn_ex m 4 (by omega) (by omega)
      have cP4 := hide fun (W : World) (hB : Below (w.heap.size + 1) wr W) => implFlat4 _ v a6 a7 ⟨hv1, hv2⟩ (some ⟨w.heap.size, 0, none⟩) (some ⟨w.heap.size, 0, none⟩) 16 16 (w.heap.size + 1) W (by have h1 := hlt.out; have h2 := hB.size; omega) ((hr.out 8 (by decide)).below hB) ((hr.out 4 (by decide)).below hB)
      have cP16 := hide fun (W : World) (hB : Below (w.heap.size + 1) wr W) => implFlat16 _ v b6 b7 ⟨hv1, hv2⟩ (some ⟨w.heap.size, 0, none⟩) (some ⟨w.heap.size, 0, none⟩) 16 16 (w.heap.size + 1) W (by have h1 := hlt.out; have h2 := hB.size; omega) ((hr.out 16 (by decide)).below hB) ((hr.out 16 (by decide)).below hB)
      have cP8 := hide fun (W : World) (hB : Below (w.heap.size + 1) wr W) => implFlat8 _ v b6 b7 ⟨hv1, hv2⟩ (some ⟨w.heap.size, 0, none⟩) (some ⟨w.heap.size, 0, none⟩) 16 16 (w.heap.size + 1) W (by have h1 := hlt.out; have h2 := hB.size; omega) ((hr.out 8 (by decide)).below hB) ((hr.out 8 (by decide)).below hB)
      clear hr
      have hb0 := hide (Below.refl (w.heap.size + 1) wr)
      go_region_held3 (fun _ => True) (trivial) (first | (go_at_call 10; (with_reducible refine (cP4.out _ hb0.out.drew).mono ?_); rintro e w1 ⟨s1, rfl, ho1, hb1⟩; obtain ⟨A1, c1, rfl, _, _⟩ := own_len ho1; replace ho1 := hide ho1; replace hb1 := hide hb1))
      have hb01 := hide ((hb0.out.drew (w := wr)).trans (hb1.out.mono hlt.out))
      have hsz1 := hide hb1.out.size
      clear hb0 hb1 cP4
      go_wp2_with fail
      (with_reducible refine (cP16.out _ hb01.out).mono ?_)
      rintro e w2 ⟨s2, rfl, ho2, hb2⟩
      obtain ⟨A2, c2, rfl, _, _⟩ := own_len ho2
      have ho1b := hide ((Upd.ofBelow (S := []) hb2).own ho1.out (by simp))
      replace ho2 := hide ho2
      have hsz2 := hide hb2.size
      have hb02 := hide (hb01.out.trans (hb2.mono (by have h1 := hlt.out; have h2 := hsz1.out; have : wr.drew.heap.size = wr.heap.size := rfl; omega)))
      clear hb01 hb2 cP16 ho1
      go_wp2_with fail
      go_region_held3 (fun _ => True) (trivial) (first | (go_at_call 8; (with_reducible refine (cP8.out _ hb02.out.drew).mono ?_); rintro e w3 ⟨s3, rfl, ho3, hb3⟩; obtain ⟨A3, c3, rfl, _, _⟩ := own_len ho3; replace ho3 := hide ho3; replace hb3 := hide hb3))
      have hle : wr.heap.size ≤ w2.heap.size := hb02.out.size
      have ho1c := hide ((Upd.ofBelow (S := []) hb3.out).own (w := w2.drew) ho1b.out (by simp))
      have ho2c := hide ((Upd.ofBelow (S := []) hb3.out).own (w := w2.drew) ho2.out (by simp))
      have hb03 := hide ((hb02.out.drew).trans (hb3.out.mono (by have h1 := hlt.out; have : w2.drew.heap.size = w2.heap.size := rfl; omega)))
      have hbw := hide (hb.out.trans (hb03.out.mono (by omega)))
      have g1 := (Rd.ofOwn ho1c.out)
      have g2 := (Rd.ofOwn ho2c.out)
      have g3 := (Rd.ofOwn ho3.out)
      obtain ⟨p1, o1, rfl, _, q1⟩ := g1.at_ (j := 0) (by rw [List.length_replicate]; decide)
      obtain ⟨p2, o2, rfl, _, q2⟩ := g2.at_ (j := 0) (by rw [List.length_replicate]; decide)
      obtain ⟨p3, o3, rfl, _, q3⟩ := g3.at_ (j := 0) (by rw [List.length_replicate]; decide)
      have r1 := hide fun j (hj : j < 16) => (q1 j (by simpa using hj)).trans (congrArg some (congrArg (Value.int .u8) (rep_getD4 v 16 j hj)))
      have r2 := hide fun j (hj : j < 256) => (q2 j (by simpa using hj)).trans (congrArg some (congrArg (Value.int .u8) (rep_getD4 v 256 j hj)))
      have r3 := hide fun j (hj : j < 64) => (q3 j (by simpa using hj)).trans (congrArg some (congrArg (Value.int .u8) (rep_getD4 v 64 j hj)))
      have cBw := hide (cB.out _ hbw.out)
      clear q1 q2 q3 g1 g2 g3 ho1b ho2 ho3 ho1c ho2c hb03 hb02 hb3 cP8 cB hb hsz1 hsz2 hlt hle hmk a1 a2 a3 a4 a5 a6 a7 a8 b1 b2 b3 b4 b5 b6 b7 b8
      go_wp2
      go_loopg [10] 256 (fun k ui wl => ∃ i : Nat, k + i = 256 ∧ ui = .int .i64 i ∧ w3 = wl)
      case atStart => exact ⟨0, rfl, rfl, rfl⟩
      case round =>
        obtain ⟨i, hi, rfl, rfl⟩ := hrel
        cases gk with
        | zero =>
          have hi2 : i = 256 := by omega
          subst hi2
          clear r1 r2 r3
          go_wp2_with fail
          (with_reducible refine (cBw.out).mono ?_)
          rintro e w5 ⟨rfl, hb5⟩
          replace hb5 := hide hb5
          go_wp2
          go_ret
          exact ⟨rfl, hbw.out.trans (hb5.out.mono hbw.out.size)⟩
        | succ k =>
          have hin : i < 256 := by omega
          have hii : (i : Int) < 256 := by omega
          have hi0 : (0 : Int) ≤ (i : Int) := by omega
          have k2 := r2.out i hin
          by_cases h64 : i < 64
          · have h64i : (i : Int) < 64 := by omega
            have k3 := r3.out i h64
            by_cases h16 : i < 16
            · have h16i : (i : Int) < 16 := by omega
              have k1 := r1.out i h16
              clear r1 r2 r3 cBw hbw
              go_wp2
              go_roundg k
              case measure => omega
              case rel => exact ⟨i + 1, by omega, by go_num, rfl⟩
            · have h16i : ¬ (i : Int) < 16 := by omega
              clear r1 r2 r3 cBw hbw
              go_wp2
              go_roundg k
              case measure => omega
              case rel => exact ⟨i + 1, by omega, by go_num, rfl⟩
          · have h64i : ¬ (i : Int) < 64 := by omega
            have h16 : ¬ i < 16 := by omega
            have h16i : ¬ (i : Int) < 16 := by omega
            clear r1 r2 r3 cBw hbw
            go_wp2
            go_roundg k
            case measure => omega
            case rel => exact ⟨i + 1, by omega, by go_num, rfl⟩
end Go.Proofs.YtleiehiabcgalaaDoor
