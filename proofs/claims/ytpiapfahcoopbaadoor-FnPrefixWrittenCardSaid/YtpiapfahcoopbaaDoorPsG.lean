/- The law FnPrefixWritten, for every argument; the tables. -/
import Derived.Test.YtpiapfahcoopbaaDoorPsE
import Derived.Test.YtpiapfahcoopbaaDoorPsP
import Derived.Test.YtpiapfahcoopbaaDoorReadLaw
import Derived.Test.YtpiapfahcoopbaaDoorInts
import Derived.Test.YtpiapfahcoopbaaDoorSums
import Derived.Test.YtpiapfahcoopbaaDoorTruths
namespace Go.Proofs.YtpiapfahcoopbaaDoor
set_option linter.unusedSimpArgs false
set_option linter.unusedVariables false
set_option linter.unnecessarySimpa false
open Go.RowKit Plain

theorem UpdT.cellLow {B : Nat} {ts : List TypeId} {w w' : World} (u : UpdT B ts w w') (hB : B ≤ w.heap.size) {p : Addr} (hp : p.block < B) : w'.cell? p = w.cell? p := World.cell?_of_block (u.low p.block hp (by omega))
set_option maxRecDepth 100000 in
set_option maxHeartbeats 8000000 in
theorem prefLaw_main (Al Ab : Option Addr) (cl cb size : Nat) (l by_ : List Nat) (ar ae au : Addr) (w : World) (hs1 : 1 ≤ size) (hs2 : (size : Int) ≤ 4096) (hl4 : (l.length : Int) ≤ 4096) (hin : within 0 ((size : Int) - 1) (ofN' l) = true) (hls : ∀ x ∈ l, x < size) (hO : Oct by_) (hbl : (by_.length : Int) ≤ 1048576)
    (hl : Rd .i64 w w.heap.size Al (ofN' l)) (hb : Rd .u8 w w.heap.size Ab (ofN' by_)) (hTab : TabH w ar) (hE : Ends w ae au) (hRep : RepH w) :
    Calls Tryd.prog 8 #[.int .i64 (size : Nat), .slice Al l.length cl, .slice Ab by_.length cb] w fun e w' => e = .returned (.bool true) ∧ Below w.heap.size w w' := by
  have cR := inRange_any Al cl w.heap.size (ofN' l) 0 ((size : Int) - 1) w (by rw [ofN'_len]; omega) hl
  rw [hin, ofN'_len] at cR
  have t1 : ¬ (2147483647 : Int) < (l.length : Int) := by omega
  have t2 : ¬ (2147483647 : Int) < (by_.length : Int) := by omega
  have t3 : ¬ (4096 : Int) < (l.length : Int) := by omega
  have t4 : ¬ (1048576 : Int) < (by_.length : Int) := by omega
  have t5 : ¬ (4096 : Int) < (size : Int) := by omega
  have t6 : ¬ (size : Int) < 1 := by omega
  have hTl := hTab.lt
  have hEl := hE.lt
  have hRl := hRep.lt
  replace cR := hide cR
  replace hls := hide hls
  replace hO := hide hO
  replace hl := hide hl
  replace hb := hide hb
  replace hTab := hide hTab
  replace hE := hide hE
  replace hRep := hide hRep
  clear hin
  go_enter Tryd.func8, Tryd.ntmps8
  go_wp2_with fail
  (with_reducible refine (cR.out).mono ?_)
  rintro e w' ⟨rfl, rfl⟩
  have hw0 : w.heap.size ≤ w.heap.size := Nat.le_refl _
  clear cR
  go_wp2_with (first | (refine wpList_makeB _ rfl (.tmp 46) (.tmp 46) rfl w.heap.size _ _ size rfl rfl rfl rfl (by omega) hw0 ?_; intro w1 ho1 hg1 hz1; have hu1 := hide ((Upd.refl [] w).grown hg1 (fun g h => by cases h)); replace ho1 := hide ho1; replace hg1 := hide hg1) | fail)
  have hu1' : UpdT w.heap.size [4] w w1 := hu1.out.typed0
  replace hu1' := hide hu1'
  clear hu1 hg1 hw0
  go_loopg [8] l.length (fun k u8 wr => ∃ (i : Nat) (u : List Bool), k + i = l.length ∧ u8 = .int .i64 (i : Nat) ∧ (∀ j, j < i → u.getD (l.getD j 0) false = true) ∧ wr.ownsRow w.heap.size 4 1 (.slice (some ⟨w.heap.size, 0, none⟩) size size) size (ofB u) ∧ UpdT w.heap.size [4] w wr)
  case atStart => exact ⟨0, _, rfl, rfl, fun j hj => by omega, ho1.out, hu1'.out⟩
  case round =>
    clear ho1 hu1' hz1
    obtain ⟨i, u, hk, rfl, hus, ho, hu⟩ := hrel
    have hul := ownB_len ho
    cases gk with
    | succ k =>
      have hiI : (i : Int) < (l.length : Int) := by omega
      obtain ⟨b, off, rfl, hbb, hc⟩ := (hu.rd (Nat.le_refl _) hl.out).at_ (j := i) (by rw [ofN'_len]; omega)
      have kx := hc i (by rw [ofN'_len]; omega)
      rw [ofN'_get] at kx
      have hsl : l.getD i 0 < size := by
        have e1 : l.getD i 0 = l[i]'(by omega) := by simp [show i < l.length by omega]
        rw [e1]
        exact hls.out _ (List.getElem_mem _)
      have hkc := ownB_cell ho (l.getD i 0) hsl
      have hkf := ho.frozenAt (l.getD i 0)
      have ho8 := own_setB ho (l.getD i 0) true
      obtain ⟨cs, hcs, _⟩ := own_blk' ho
      have hu8 := hu.set (i := l.getD i 0) hcs (Nat.le_refl _) (by simp) (.bool true)
      have hus2 : ∀ j, j < i + 1 → (u.set (l.getD i 0) true).getD (l.getD j 0) false = true := fun j hj => by
        by_cases he : l.getD i 0 = l.getD j 0
        · rw [← he, List.getD_eq_getElem?_getD, List.getElem?_set_self (by omega)]
          rfl
        · rw [List.getD_eq_getElem?_getD, List.getElem?_set_ne he, ← List.getD_eq_getElem?_getD]
          rcases Nat.lt_or_ge j i with h | h
          · exact hus j h
          · rw [show j = i by omega] at he
            exact absurd rfl he
      generalize l.getD i 0 = s at *
      have hsI : (s : Int) < (size : Int) := by omega
      generalize u.getD s false = z at hkc
      replace hus := hide hus
      replace hus2 := hide hus2
      replace ho8 := hide ho8
      replace hu8 := hide hu8
      replace ho := hide ho
      replace hu := hide hu
      replace hul := hide hul
      clear hc hcs
      go_wp2_with fail
      go_roundg k
      case measure => omega
      case rel => exact ⟨i + 1, _, by omega, by go_num, hus2.out, ho8.out, hu8.out⟩
    | zero =>
      obtain rfl : i = l.length := by omega
      obtain ⟨wa, hwa⟩ : ∃ wa, wa = wr := ⟨_, rfl⟩
      subst hwa
      have hiI : ¬ (l.length : Int) < (l.length : Int) := by omega
      replace hus := hide hus
      replace ho := hide ho
      replace hu := hide hu
      replace hul := hide hul
      go_upto_region 11 with fail
      have hGz : w.heap.size < wa.heap.size := (ho.out.lt _ rfl).2
      have huG := hu.out.alloc (.cells #[.slice none 0 0, .int .i64 0] 42)
      have hbG := Blk.new wa 42 #[.slice none 0 0, .int .i64 0]
      have hoG : (wa.alloc (.cells #[.slice none 0 0, .int .i64 0] 42)).ownsRow w.heap.size 4 1 (.slice (some ⟨w.heap.size, 0, none⟩) size size) size (ofB u) := ho.out.alloc _
      have cC := choose_any Ab by_ cb w.heap.size _ (huG.rd (Nat.le_refl _) hb.out) (by omega) hO.out huG.size
      replace cC := hide cC
      replace huG := hide huG
      replace hbG := hide hbG
      replace hoG := hide hoG
      clear ho hu
      go_wp2_with fail
      (with_reducible refine (cC.out).mono ?_)
      rintro e w2 ⟨rfl, hCh, hu2⟩
      generalize hcd : (wa.alloc (.cells #[.slice none 0 0, .int .i64 0] 42)).heap.size = c at *
      have hcB : w.heap.size ≤ c := by rw [← hcd]; exact huG.out.size
      have hbG2 := hbG.out.upd hu2 (by simp)
      have hoG2 := hu2.own hoG.out (by simp)
      have hu02 := huG.out.trans ((hu2.typed0 : UpdT w.heap.size [] _ w2).more (ts' := [4]) (by simp))
      have hW2 : WC w.heap.size c wa.heap.size w.heap.size w2 0 0 w2 := ⟨⟨Nat.le_refl _, hu02.size, Nat.le_of_lt hGz, hcB⟩, ⟨[], none, 0, hbG2, ⟨rfl, .inl ⟨rfl, rfl⟩⟩, WrP.nil⟩, hCh, UpdT.refl _ _ _⟩
      have cP := prefix_any hs1 hs2 (by decide) (Nat.le_refl _) (offN u + 1) u w2 (Nat.lt_succ_self _) hW2 hoG2
      replace cP := hide cP
      replace hu02 := hide hu02
      replace hW2 := hide hW2
      clear cC huG hbG hoG hCh hu2 hbG2 hoG2
      go_wp2_with fail
      (with_reducible refine (cP.out).mono ?_)
      rintro e w3 ⟨L, x, q, val, rfl, hLk, hneed, hX, hWr, hCh, hTo, hqb, hu3⟩
      have hu03 := (hu02.out.more (ts' := 4 :: ([42, 5, 91] : List TypeId)) (by simp)).trans hu3
      have hneed2 : ∀ s ∈ l, s < size ∧ 1 ≤ L.getD s 0 := fun s hs => ⟨hls.out s hs, by
        obtain ⟨j, hj, rfl⟩ := List.getElem_of_mem hs
        have := hus.out j hj
        refine hneed _ (hls.out _ hs) ?_
        rwa [show l.getD j 0 = l[j] by simp [hj]] at this⟩
      have hW3 : WC w.heap.size c wa.heap.size w.heap.size w3 q val w3 := ⟨⟨Nat.le_refl _, hu03.size, Nat.le_of_lt hGz, hcB⟩, hWr, hCh, UpdT.refl _ _ _⟩
      obtain ⟨A1, A2, c1, c2, rfl, _, _⟩ := hX.h
      obtain ⟨x2, hx2⟩ : ∃ x2, x2 = decide (nz L = 1) := ⟨_, rfl⟩
      rw [← hx2] at hX ⊢
      have hW4 := hW3.alloc (.cells #[.slice A1 L.length c1, .slice A2 L.length c2, .bool x2] 44)
      have hX4 := hX.typed ((UpdT.refl w.heap.size [] w3).alloc (.cells #[.slice A1 L.length c1, .slice A2 L.length c2, .bool x2] 44)) (by simp)
      have hb4 := Blk.new w3 44 #[.slice A1 L.length c1, .slice A2 L.length c2, .bool x2]
      have hu04 := hu03.alloc (.cells #[.slice A1 L.length c1, .slice A2 L.length c2, .bool x2] 44)
      replace hX4 := hide hX4
      replace hb4 := hide hb4
      replace hW4 := hide hW4.anew
      replace hu04 := hide hu04
      replace hTo := hide hTo
      replace hneed2 := hide hneed2
      replace hLk := hide hLk
      replace hx2 := hide hx2
      clear cP hu02 hW2 hX hWr hCh hu3 hu03 hneed hW3 hus hul
      go_upto_region 12 with fail
      generalize w3.alloc (.cells #[.slice A1 L.length c1, .slice A2 L.length c2, .bool x2] 44) = w4 at *
      have hX3 : w3.heap.size < w4.heap.size := hb4.out.lt
      generalize w3.heap.size = X at *
      have hB4 : w.heap.size ≤ w4.heap.size := hu04.out.size
      have hq15 : ∀ j, j ≤ l.length → symP L q l j ≤ 100000 + 15 * 4096 := fun j hj => by
        have := symP_le hLk.out.le q l j
        omega
      have cC := hide (fun (W : World) (p v s : Nat) (h : WC w.heap.size c wa.heap.size w.heap.size w4 p v W) (hX : CodeAt W w2.heap.size L (.agg #[.slice A1 L.length c1, .slice A2 L.length c2, .bool x2])) (hs : s < L.length) (hp : (p : Int) ≤ 1000000000) => codeput_wc h w2.heap.size s (s : Int) rfl L _ hX hs hLk.out.le hp)
      replace hq15 := hide hq15
      go_wp2_with fail
      go_loopg [11] l.length (fun k u11 wr => ∃ (j val' : Nat), k + j = l.length ∧ u11 = .int .i64 (j : Nat) ∧ WC w.heap.size c wa.heap.size w.heap.size w4 (symP L q l j) val' wr ∧ Wrote q val (symP L q l j) val' (fun V => SymsTold V L q l j))
      case atStart => exact ⟨0, val, rfl, rfl, hW4.out, Wrote.refl _ _ _ (fun V j hj => by omega)⟩
      case round =>
        clear hW4
        obtain ⟨j, val', hkj, rfl, hW5, hT5⟩ := hrel
        cases gk with
        | succ k =>
          have hjI : (j : Int) < (l.length : Int) := by omega
          have hpb := hq15.out j (by omega)
          obtain ⟨b, off, rfl, hbb, hc⟩ := hl.out.at_ (j := j) (by rw [ofN'_len]; omega)
          have kx0 := hc j (by rw [ofN'_len]; omega)
          rw [ofN'_get] at kx0
          have hsm : l.getD j 0 ∈ l := by
            have e1 : l.getD j 0 = l[j]'(by omega) := by simp [show j < l.length by omega]
            rw [e1]
            exact List.getElem_mem _
          have hsl := (hneed2.out _ hsm).1
          have hTs : ∀ V, SymsTold V L q l j → SymTold V L (symP L q l j) (l.getD j 0) → SymsTold V L q l (j + 1) := fun V h1 h2 => h1.succ h2
          have hpj : symP L q l (j + 1) = symP L q l j + symN L (l.getD j 0) := rfl
          have hst : ∀ V, SymTold V L (symP L q l j) (l.getD j 0) = Told V (symP L q l j) (symN L (l.getD j 0)) (symV L (l.getD j 0)) := fun V => rfl
          generalize l.getD j 0 = s at *
          have hkA : ∀ W2, UpdT w.heap.size ([42, 5, 91] : List TypeId) w4 W2 → ((W2.cell? ⟨X, 0, none⟩ = some (.slice A1 L.length c1) ∧ W2.cell? ⟨X, 1, none⟩ = some (.slice A2 L.length c2) ∧ W2.cell? ⟨X, 2, none⟩ = some (.bool x2)) ∧ W2.cell? ⟨b, off + j, none⟩ = some (.int .i64 (s : Nat))) := fun W2 h => by
            have q4 := h.typ _ _ _ hb4.out (by decide)
            exact ⟨⟨q4.cell 0, q4.cell 1, q4.cell 2⟩, ((hu04.out.trans (h.more (by simp))).cellLow (Nat.le_refl _) hbb).trans kx0⟩
          have hXq := hX4.out.typed hW5.up (by decide)
          have hXqd : CodeAt wr.drew w2.heap.size L (.agg #[.slice A1 L.length c1, .slice A2 L.length c2, .bool x2]) := hX4.out.typed (hW5.up.drewN 1) (by decide)
          obtain ⟨⟨x0, x1, x3⟩, kx⟩ := hkA wr hW5.up
          have hkB : ∀ W2, UpdT w.heap.size ([42, 5, 91] : List TypeId) wr W2 → ((W2.cell? ⟨X, 0, none⟩ = some (.slice A1 L.length c1) ∧ W2.cell? ⟨X, 1, none⟩ = some (.slice A2 L.length c2) ∧ W2.cell? ⟨X, 2, none⟩ = some (.bool x2)) ∧ W2.cell? ⟨b, off + j, none⟩ = some (.int .i64 (s : Nat))) := fun W2 h => hkA W2 (hW5.up.trans h)
          have hkC : ∀ W2, UpdT w.heap.size ([42, 5, 91] : List TypeId) wr.drew W2 → ((W2.cell? ⟨X, 0, none⟩ = some (.slice A1 L.length c1) ∧ W2.cell? ⟨X, 1, none⟩ = some (.slice A2 L.length c2) ∧ W2.cell? ⟨X, 2, none⟩ = some (.bool x2)) ∧ W2.cell? ⟨b, off + j, none⟩ = some (.int .i64 (s : Nat))) := fun W2 h => hkA W2 ((hW5.up.drewN 1).trans h)
          obtain ⟨l6, hl6⟩ : ∃ l6, l6 = symP L q l j := ⟨_, rfl⟩
          rw [← hl6] at hW5 hT5 hTs hpj hst hpb
          have hpbI : (l6 : Int) ≤ 1000000000 := by omega
          have hW5d := hide hW5.drew
          have hsL : s < L.length := by have := hLk.out.len; omega
          replace hW5 := hide hW5
          replace hT5 := hide hT5
          replace hTs := hide hTs
          replace hpj := hide hpj
          replace hst := hide hst
          replace hkA := hide hkA
          replace hkB := hide hkB
          replace hkC := hide hkC
          replace hXq := hide hXq
          replace hXqd := hide hXqd
          replace hl6 := hide hl6
          replace hsm := hide hsm
          clear hc kx0
          go_wp2_with fail
          go_region_held3 (fun W => (W.cell? ⟨X, 0, none⟩ = some (.slice A1 L.length c1) ∧ W.cell? ⟨X, 1, none⟩ = some (.slice A2 L.length c2) ∧ W.cell? ⟨X, 2, none⟩ = some (.bool x2)) ∧ W.cell? ⟨b, off + j, none⟩ = some (.int .i64 (s : Nat)))
            (first | go_keep | exact hkC.out _ hu9.out | exact hkB.out _ hu9.out)
            (first | (go_at_call 24; (with_reducible refine (cC.out _ l6 val' s (by first | exact hW5.out | exact hW5d.out) (by first | exact hXq.out | exact hXqd.out) hsL hpbI).mono ?_); rintro e w9 ⟨rfl, val9, hW9, hT9, hu9⟩; replace hW9 := hide hW9; replace hT9 := hide hT9; replace hu9 := hide hu9))
          go_wp2_with fail
          go_roundg k
          case measure => omega
          case rel =>
            refine ⟨j + 1, val9, by omega, by go_num, by rw [hpj.out]; exact hW9.out, ?_⟩
            rw [hpj.out]
            refine (hT5.out.and hT9.out).mono fun V hV => hTs.out V hV.1 ?_
            rw [hst.out]
            exact hV.2
        | zero =>
          obtain rfl : j = l.length := by omega
          have hjI : ¬ (l.length : Int) < (l.length : Int) := by omega
          have hfb := hq15.out l.length (Nat.le_refl _)
          have hTT := hTo.out.and hT5
          have hlt := hW5.lt
          have cD := done_any wa.heap.size w.heap.size (symP L q l l.length) val' wr hW5.wr
          have hu05 := hu04.out.trans (hW5.up.more (ts' := 4 :: ([42, 5, 91] : List TypeId)) (by simp))
          have hB5 := hu05.size
          replace cD := hide cD
          replace hTT := hide hTT
          replace hu05 := hide hu05
          clear hW5 hT5 cC hu04 hX4 hb4
          go_wp2_with fail
          (with_reducible refine (cD.out).mono ?_)
          rintro e w6 ⟨⟨out, Ao, co, rfl, hoo, hP⟩, rfl⟩
          have hV := hTT.out.told _ _ (Ext.refl _ _)
          rw [← hP.num] at hV
          have hol := hP.size
          have cI := implPrefix_any Ao co size q l.length L out l ar ae au w6 hV.1 hLk.out hs2 hneed2.out hV.2 (by omega) hP.oct (by omega) hl4 rfl (Rd.ofOwn hoo) (hTab.out.keep fun p hp => hu05.out.cellLow (Nat.le_refl _) (by rcases hp with e | e <;> omega)) (hE.out.keep fun p hp => hu05.out.cellLow (Nat.le_refl _) (by rcases hp with e | e <;> omega)) ⟨fun j hj => (hu05.out.cellLow (Nat.le_refl _) hRl.1).trans (hRep.out.bits j hj), fun j hj => (hu05.out.cellLow (Nat.le_refl _) hRl.2.1).trans (hRep.out.offs j hj), fun j hj => (hu05.out.cellLow (Nat.le_refl _) hRl.2.2).trans (hRep.out.ordr j hj)⟩
          replace cI := hide cI
          clear hV hoo hP cD hTT hol
          go_wp2_with fail
          (with_reducible refine (cI.out).mono ?_)
          rintro e w7 ⟨v, rfl, ho7, hu7⟩
          obtain ⟨A7, c7, rfl⟩ := own_shape ho7
          have hu07 := hu05.out.trans ((hu7.typed0 : UpdT w.heap.size [] _ w7).more (ts' := 4 :: ([42, 5, 91] : List TypeId)) (by simp))
          have hr1 := Rd.ofOwn ho7
          have hr2 := hl.out.keep fun p hp => hu07.cellLow (Nat.le_refl _) hp
          have cc := ints_same A7 Al c7 cl (ofN' l) w7 _ _ (by rw [ofN'_len]; omega) hr1 hr2
          rw [ofN'_len] at cc
          replace cc := hide cc
          replace hu07 := hide hu07
          clear ho7 hu7 hr1 hr2 cI hu05
          go_wp2_with fail
          (with_reducible refine (cc.out).mono ?_)
          rintro e w8 ⟨rfl, n8, rfl⟩
          go_wp2_with fail
          refine (readSums_any _).mono ?_
          rintro e w9 ⟨rfl, rfl⟩
          go_wp2_with fail
          go_ret
          exact ⟨rfl, below_drewN (hu07.out.below (Nat.le_refl _)) _⟩
set_option maxRecDepth 100000 in
set_option maxHeartbeats 4000000 in
theorem prefLaw_any (Al Ab : Option Addr) (cl cb : Nat) (n : Int) (l0 l1 : List Int) (ar ae au : Addr) (w : World) (hB : ∀ x ∈ l1, 0 ≤ x ∧ x ≤ 255) (h0 : Rd .i64 w w.heap.size Al l0) (h1 : Rd .u8 w w.heap.size Ab l1) (hm0 : l0.length ≤ 9223372036854775807) (hm1 : l1.length ≤ 9223372036854775807) (hTab : TabH w ar) (hE : Ends w ae au) (hRep : RepH w) :
    Calls Tryd.prog 8 #[.int .i64 n, .slice Al l0.length cl, .slice Ab l1.length cb] w fun e w' => e = .returned (.bool true) ∧ Below w.heap.size w w' := by
  have cR := inRange_any Al cl w.heap.size l0 0 (n - 1) w hm0 h0
  have cQ := hide (readSums_any w)
  by_cases c1 : (2147483647 : Int) < (l0.length : Int)
  · clear h0 h1 hB hE cR hTab hRep
    go_enter Tryd.func8, Tryd.ntmps8
    go_wp2_with fail
    go_ret
    exact ⟨rfl, Below.refl _ _⟩
  by_cases c2 : (2147483647 : Int) < (l1.length : Int)
  · clear h0 h1 hB hE cR hTab hRep
    go_enter Tryd.func8, Tryd.ntmps8
    go_wp2_with fail
    go_ret
    exact ⟨rfl, Below.refl _ _⟩
  by_cases c3 : n < 1
  · clear h0 h1 hB hE cR hTab hRep
    go_enter Tryd.func8, Tryd.ntmps8
    go_wp2_with fail
    (with_reducible refine (cQ.out).mono ?_)
    rintro e w' ⟨rfl, rfl⟩
    go_wp2_with fail
    go_ret
    exact ⟨rfl, Below.refl _ _⟩
  by_cases c4 : (4096 : Int) < n
  · clear h0 h1 hB hE cR hTab hRep
    go_enter Tryd.func8, Tryd.ntmps8
    go_wp2_with fail
    (with_reducible refine (cQ.out).mono ?_)
    rintro e w' ⟨rfl, rfl⟩
    go_wp2_with fail
    go_ret
    exact ⟨rfl, Below.refl _ _⟩
  by_cases c5 : (4096 : Int) < (l0.length : Int)
  · clear h0 h1 hB hE cR hTab hRep
    go_enter Tryd.func8, Tryd.ntmps8
    go_wp2_with fail
    (with_reducible refine (cQ.out).mono ?_)
    rintro e w' ⟨rfl, rfl⟩
    go_wp2_with fail
    go_ret
    exact ⟨rfl, Below.refl _ _⟩
  cases hW : within 0 (n - 1) l0
  · rw [hW] at cR
    replace cR := hide cR
    clear h0 h1 hB hE hTab hRep hW
    go_enter Tryd.func8, Tryd.ntmps8
    go_wp2_with fail
    (with_reducible refine (cR.out).mono ?_)
    rintro e w' ⟨rfl, rfl⟩
    go_wp2_with fail
    (with_reducible refine (cQ.out).mono ?_)
    rintro e w' ⟨rfl, rfl⟩
    go_wp2_with fail
    go_ret
    exact ⟨rfl, Below.refl _ _⟩
  by_cases c6 : (1048576 : Int) < (l1.length : Int)
  · rw [hW] at cR
    replace cR := hide cR
    clear h0 h1 hB hE hTab hRep hW
    go_enter Tryd.func8, Tryd.ntmps8
    go_wp2_with fail
    (with_reducible refine (cR.out).mono ?_)
    rintro e w' ⟨rfl, rfl⟩
    go_wp2_with fail
    (with_reducible refine (cQ.out).mono ?_)
    rintro e w' ⟨rfl, rfl⟩
    go_wp2_with fail
    go_ret
    exact ⟨rfl, Below.refl _ _⟩
  have e0 := natOf_back l0 (fun x hx => (within_all hW x hx).1)
  have e1 := natOf_back l1 (fun x hx => (hB x hx).1)
  obtain ⟨m, rfl⟩ : ∃ m : Nat, n = (m : Int) := ⟨n.toNat, by omega⟩
  have k := prefLaw_main Al Ab cl cb m (natOf l0) (natOf l1) ar ae au w (by omega) (by omega) (by rw [natOf_len]; omega) (by rw [e0]; exact hW)
    (by intro x hx; unfold natOf at hx; rw [List.mem_map] at hx; obtain ⟨y, hy, rfl⟩ := hx; have := within_all hW y hy; omega)
    (by intro x hx; unfold natOf at hx; rw [List.mem_map] at hx; obtain ⟨y, hy, rfl⟩ := hx; have := hB y hy; omega)
    (by rw [natOf_len]; omega) (by rw [e0]; exact h0) (by rw [e1]; exact h1) hTab hE hRep
  rw [natOf_len, natOf_len] at k
  exact k
end Go.Proofs.YtpiapfahcoopbaaDoor
namespace Go.Proofs.YtpiapfahcoopbaaDoor
set_option linter.unusedSimpArgs false
set_option linter.unusedVariables false

def revListP : List Int := [0, 128, 64, 192, 32, 160, 96, 224, 16, 144, 80, 208, 48, 176, 112, 240, 8, 136, 72, 200, 40, 168, 104, 232, 24, 152, 88, 216, 56, 184, 120, 248, 4, 132, 68, 196, 36, 164, 100, 228, 20, 148, 84, 212, 52, 180, 116, 244, 12, 140, 76, 204, 44, 172, 108, 236, 28, 156, 92, 220, 60, 188, 124, 252, 2, 130, 66, 194, 34, 162, 98, 226, 18, 146, 82, 210, 50, 178, 114, 242, 10, 138, 74, 202, 42, 170, 106, 234, 26, 154, 90, 218, 58, 186, 122, 250, 6, 134, 70, 198, 38, 166, 102, 230, 22, 150, 86, 214, 54, 182, 118, 246, 14, 142, 78, 206, 46, 174, 110, 238, 30, 158, 94, 222, 62, 190, 126, 254, 1, 129, 65, 193, 33, 161, 97, 225, 17, 145, 81, 209, 49, 177, 113, 241, 9, 137, 73, 201, 41, 169, 105, 233, 25, 153, 89, 217, 57, 185, 121, 249, 5, 133, 69, 197, 37, 165, 101, 229, 21, 149, 85, 213, 53, 181, 117, 245, 13, 141, 77, 205, 45, 173, 109, 237, 29, 157, 93, 221, 61, 189, 125, 253, 3, 131, 67, 195, 35, 163, 99, 227, 19, 147, 83, 211, 51, 179, 115, 243, 11, 139, 75, 203, 43, 171, 107, 235, 27, 155, 91, 219, 59, 187, 123, 251, 7, 135, 71, 199, 39, 167, 103, 231, 23, 151, 87, 215, 55, 183, 119, 247, 15, 143, 79, 207, 47, 175, 111, 239, 31, 159, 95, 223, 63, 191, 127, 255]
def ordListP : List Int := [17, 18, 0, 1, 2, 3, 4, 5, 16, 6, 7, 8, 9, 10, 11, 12, 13, 14, 15]
def bitListP : List Int := [2, 3, 7]
def offListP : List Int := [3, 3, 11]
theorem rev_tabP : ∀ j, j < 256 → revListP.getD j 0 = ((revN j 8 : Nat) : Int) := by decide +kernel
theorem ord_tabP : ∀ j, j < 19 → ordListP.getD j 0 = ((ord.getD j 0 : Nat) : Int) := by decide +kernel
theorem bit_tabP : ∀ j, j < 3 → bitListP.getD j 0 = (([2, 3, 7].getD j 0 : Nat) : Int) := by decide +kernel
theorem off_tabP : ∀ j, j < 3 → offListP.getD j 0 = (([3, 3, 11].getD j 0 : Nat) : Int) := by decide +kernel
end Go.Proofs.YtpiapfahcoopbaaDoor
