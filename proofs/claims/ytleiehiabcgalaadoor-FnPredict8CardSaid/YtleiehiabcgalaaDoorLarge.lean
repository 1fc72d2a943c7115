/- 'bytesOf', 'predictLarge' and 'Predict8' of the reference: the walks. -/
import Derived.Test.YtleiehiabcgalaaDoorForet
namespace Go.Proofs.YtleiehiabcgalaaDoor
set_option linter.unusedSimpArgs false
set_option linter.unusedVariables false
open Go.RowKit Plain

theorem rowQ8_self (l : List Int) (n : Nat) (h : l.length = n) : rowQ8 (fun k => l.getD k 0) n = l := by
  subst h
  unfold rowQ8
  apply List.ext_getElem
  · simp
  · intro i h1 h2
    simp [h2]
set_option maxRecDepth 100000 in
set_option maxHeartbeats 4000000 in
theorem bytesOf_any (A : Option Addr) (c B : Nat) (l : List Int) (w : World) (hl : l.length ≤ 10000) (hB : B ≤ w.heap.size) (hv : ∀ k, 0 ≤ l.getD k 0 ∧ l.getD k 0 ≤ 255) (hr : Rd .i64 w B A l) :
    Calls Tryd.prog 28 #[.slice A l.length c] w fun e w' => ∃ s, e = .returned s ∧ w'.ownsRow w.heap.size 5 1 s l.length (l.map (Value.int .u8)) ∧ Below w.heap.size w w' := by
  rw [← rowQ8_self l l.length rfl, rowQ8_len]
  replace hv := hide hv
  generalize hn : l.length = n at *
  have hn' : (n : Int) ≤ 10000 := by omega
  replace hn := hide hn
  replace hr := hide hr
  go_enter Tryd.func28, Tryd.ntmps28
  go_wp2
  go_loopg [3, 4] n (fun k us ui wr => ∃ i : Nat, k + i = n ∧ ui = .int .i64 i ∧ wr.ownsRow w.heap.size 5 1 us i ((rowQ8 (fun k => l.getD k 0) i).map (Value.int .u8)) ∧ Below w.heap.size w wr)
  case atStart => exact ⟨0, rfl, rfl, ⟨rfl, .inl ⟨rfl, rfl⟩⟩, Below.refl _ _⟩
  case round =>
    obtain ⟨i, hi, rfl, ho, hbel⟩ := hrel
    replace ho := hide ho
    have hsz := hbel.size
    replace hbel := hide hbel
    cases gk with
    | zero =>
      have hi8 : i = n := by omega
      subst hi8
      clear hr
      go_wp2
      go_ret
      exact ⟨_, rfl, ho.out, hbel.out⟩
    | succ k =>
      have hin : i < n := by omega
      have hii : (i : Int) < n := by omega
      have hi0 : (0 : Int) ≤ (i : Int) := by omega
      obtain ⟨b, off, rfl, hbb, hc⟩ := hr.out.at_ (j := i) (by have := hn.out; omega)
      have k1 := (hbel.out.cell (p := ⟨b, off + i, none⟩) (by show b < _; omega)).trans (hc i (by have := hn.out; omega))
      have bx := hv.out i
      have hrow := rowQ8_succ (fun k => l.getD k 0) i
      generalize l.getD i 0 = x at *
      have V : IntKind.u8.wrap x = x := IntWalk.u8_in _ (by omega)
      replace hrow := hide hrow
      clear hc hr hv
      go_wp2_with (at_builtin; refine wpList_push rfl (.tmp 11) (.tmp 17) _ rfl w.heap.size 5 _ 1 Tryd.underlying22 info_byteq8 rfl u3 i _ rfl ho.out _ rfl rfl (by simp only [maxLen]; omega) (by omega) hsz ?_; intro v' w3 hown3 hg3; replace hown3 := hide hown3; replace hg3 := hide hg3)
      go_roundg k
      case measure => omega
      case rel => exact ⟨i + 1, by omega, by go_num, by rw [hrow.out, List.map_append]; exact hown3.out, hbel.out.grown hg3.out hsz (fun k hk => (ho.out.lt k hk).1)⟩

set_option maxRecDepth 100000 in
set_option maxHeartbeats 4000000 in
theorem largeDC (Aa Al : Option Addr) (ca cl B : Nat) (cv : Int) (va vl : List Int) (w : World) (hB : B ≤ w.heap.size) (hla : va.length = 8) (hll : vl.length = 8) (hcv : 0 ≤ cv ∧ cv ≤ 255) (hva : ∀ k, 0 ≤ va.getD k 0 ∧ va.getD k 0 ≤ 255) (hvl : ∀ k, 0 ≤ vl.getD k 0 ∧ vl.getD k 0 ≤ 255) (hra : Rd .u8 w B Aa va) (hrl : Rd .u8 w B Al vl) :
    Calls Tryd.prog 17 #[.int .i64 8, .int .i64 0, .int .i64 cv, .slice Aa 8 ca, .slice Al 8 cl] w fun e w' => ∃ s, e = .returned s ∧ w'.ownsRow w.heap.size 5 1 s 64 ((rowQ8 (fun q => (fun a b => (8 + sum8 (fun k => va.getD k 0) 8 + sum8 (fun k => vl.getD k 0) 8) / 16) (q / 8) (q % 8)) 64).map (Value.int .u8)) ∧ Below w.heap.size w w' := by
  obtain ⟨ba, oa, rfl, hba, hca⟩ := hra.at_ (j := 0) (by omega)
  obtain ⟨bl, ol, rfl, hbl, hcl⟩ := hrl.at_ (j := 0) (by omega)
  obtain ⟨hcv1, hcv2⟩ := hcv
  have hIn : Blk (w.alloc (.cells #[.bool true, .bool true] 51)) w.heap.size 51 #[.bool true, .bool true] := Blk.new w _ _
  have hb1 := (Below.refl w.heap.size w).alloc (Nat.le_refl _) (.cells #[.bool true, .bool true] 51)
  have hsz1 : (w.alloc (.cells #[.bool true, .bool true] 51)).heap.size = w.heap.size + 1 := by simp
  have hsA8 := sum8_bd (fun k => va.getD k 0) hva 8
  have hsL8 := sum8_bd (fun k => vl.getD k 0) hvl 8
  have hca' : ∀ j, j < 8 → (w.alloc (.cells #[.bool true, .bool true] 51)).cell? ⟨ba, oa + j, none⟩ = some (.int .u8 (va.getD j 0)) := fun j hj => (hb1.cell (p := ⟨ba, oa + j, none⟩) (by show ba < _; omega)).trans (hca j (by omega))
  have hcl' : ∀ j, j < 8 → (w.alloc (.cells #[.bool true, .bool true] 51)).cell? ⟨bl, ol + j, none⟩ = some (.int .u8 (vl.getD j 0)) := fun j hj => (hb1.cell (p := ⟨bl, ol + j, none⟩) (by show bl < _; omega)).trans (hcl j (by omega))
  have hba' : ba < w.heap.size := by omega
  have hbl' : bl < w.heap.size := by omega
  have hGb : ∀ k, 0 ≤ (rowQ8 (fun q => (fun a b => (8 + sum8 (fun k => va.getD k 0) 8 + sum8 (fun k => vl.getD k 0) 8) / 16) (q / 8) (q % 8)) 64).getD k 0 ∧ (rowQ8 (fun q => (fun a b => (8 + sum8 (fun k => va.getD k 0) 8 + sum8 (fun k => vl.getD k 0) 8) / 16) (q / 8) (q % 8)) 64).getD k 0 ≤ 255 := by
    intro k
    by_cases hk : k < 64
    · have e : (rowQ8 (fun q => (fun a b => (8 + sum8 (fun k => va.getD k 0) 8 + sum8 (fun k => vl.getD k 0) 8) / 16) (q / 8) (q % 8)) 64).getD k 0 = (fun a b => (8 + sum8 (fun k => va.getD k 0) 8 + sum8 (fun k => vl.getD k 0) 8) / 16) (k / 8) (k % 8) := by simp [rowQ8, hk]
      rw [e]
      show 0 ≤ (8 + sum8 (fun k => va.getD k 0) 8 + sum8 (fun k => vl.getD k 0) 8) / 16 ∧ (8 + sum8 (fun k => va.getD k 0) 8 + sum8 (fun k => vl.getD k 0) 8) / 16 ≤ 255
      have := hsA8; have := hsL8; omega
    · have e : (rowQ8 (fun q => (fun a b => (8 + sum8 (fun k => va.getD k 0) 8 + sum8 (fun k => vl.getD k 0) 8) / 16) (q / 8) (q % 8)) 64).getD k 0 = 0 := by simp [rowQ8, hk]
      rw [e]
      omega
  have hG64 := rowQ8_len (fun q => (fun a b => (8 + sum8 (fun k => va.getD k 0) 8 + sum8 (fun k => vl.getD k 0) 8) / 16) (q / 8) (q % 8)) 64
  have cF := fun (W : World) (B : Nat) (Aa Al : Option Addr) (ca cl : Nat) hB hra hrl => foretoldDC Aa Al ca cl B cv va vl W hB hla hll ⟨hcv1, hcv2⟩ hva hvl hra hrl
  have cO := fun (W : World) (A : Option Addr) (c : Nat) (hr : Rd .i64 W W.heap.size A (rowQ8 (fun q => (fun a b => (8 + sum8 (fun k => va.getD k 0) 8 + sum8 (fun k => vl.getD k 0) 8) / 16) (q / 8) (q % 8)) 64)) => bytesOf_any A c W.heap.size _ W (by rw [hG64]; decide) (Nat.le_refl _) hGb hr
  rw [hG64] at cO
  have cK := fun W => byteOf_any cv W
  have hK : clp8 cv = cv := by unfold clp8; rw [if_neg (by omega), if_neg (by omega)]
  rw [hK] at cK
  clear hca hcl hra hrl hba hbl hB hsA8 hsL8 hGb hG64 hK
  replace hca' := hide hca'
  replace hcl' := hide hcl'
  replace hva := hide hva
  replace hvl := hide hvl
  replace hla := hide hla
  replace hll := hide hll
  replace hb1 := hide hb1
  replace hIn := hide hIn
  replace hsz1 := hide hsz1
  replace cF := hide cF
  replace cO := hide cO
  replace cK := hide cK
  generalize hRL : rowQ8 (fun q => (fun a b => (8 + sum8 (fun k => va.getD k 0) 8 + sum8 (fun k => vl.getD k 0) 8) / 16) (q / 8) (q % 8)) 64 = RL at *
  replace hRL := hide hRL
  go_enter Tryd.func17, Tryd.ntmps17
  go_wp2
  generalize hw1 : w.alloc (.cells #[.bool true, .bool true] 51) = w1 at *
  replace hw1 := hide hw1
  go_loopg [12, 13, 14] 8 (fun k ua ul ui wr => ∃ i : Nat, k + i = 8 ∧ ui = .int .i64 i ∧ Two w1 wr 3 ua ul i i ((rowQ8 (fun k => va.getD k 0) i).map (Value.int .i64)) ((rowQ8 (fun k => vl.getD k 0) i).map (Value.int .i64)))
  case atStart => exact ⟨0, rfl, rfl, Two.start w1 _⟩
  case round =>
    obtain ⟨i, hi, rfl, hT⟩ := hrel
    have hbel := hT.bel
    have hsz2 := hbel.size
    replace hT := hide hT
    replace hbel := hide hbel
    cases gk with
    | zero =>
      have hi8 : i = 8 := by omega
      subst hi8
      have hTo := hT.out
      rw [rowQ8_self va 8 hla.out, rowQ8_self vl 8 hll.out] at hTo
      obtain ⟨A1, c1, rfl, _, _⟩ := own_len hTo.a
      obtain ⟨A2, c2, rfl, _, _⟩ := own_len hTo.l
      have hrA := hide ((Rd.ofOwn hTo.a).drew)
      have hrL := hide ((Rd.ofOwn hTo.l).drew)
      have hle : Hid (wr.heap.size ≤ wr.drew.heap.size) := hide (Nat.le_refl _)
      have hbr := hide (hbel.out.drew)
      have hIn2 := hIn.out.below hbel.out (by have := hsz1.out; omega)
      have hI0 := hIn2.cell 0
      have hI1 := hIn2.cell 1
      simp only [List.getElem?_toArray, List.getElem?_cons_zero, List.getElem?_cons_succ] at hI0 hI1
      have hblk : w.heap.size < wr.heap.size := by have := hsz1.out; omega
      have hRLn : Hid (RL = rowQ8 (fun q => (fun a b => (8 + sum8 (fun k => va.getD k 0) 8 + sum8 (fun k => vl.getD k 0) 8) / 16) (q / 8) (q % 8)) 64) := hide hRL.out.symm
      clear hTo hT hIn2 hca' hcl' hva hvl hIn hbel
      go_wp2
      go_region_held3 (fun W => W.cell? ⟨w.heap.size, 0, none⟩ = some (.bool true) ∧ W.cell? ⟨w.heap.size, 1, none⟩ = some (.bool true))
        (first
          | go_keep
          | exact ⟨(hb8.out.cell (p := ⟨w.heap.size, 0, none⟩) hblk).trans hI0, (hb8.out.cell (p := ⟨w.heap.size, 1, none⟩) hblk).trans hI1⟩
          | exact ⟨((hb9.out.cell (p := ⟨w.heap.size, 0, none⟩) (Nat.lt_of_lt_of_le hblk hb8.out.size)).trans (hb8.out.cell (p := ⟨w.heap.size, 0, none⟩) hblk)).trans hI0, ((hb9.out.cell (p := ⟨w.heap.size, 1, none⟩) (Nat.lt_of_lt_of_le hblk hb8.out.size)).trans (hb8.out.cell (p := ⟨w.heap.size, 1, none⟩) hblk)).trans hI1⟩)
        (first
          | (go_at_call 30; (with_reducible refine (cK.out _).mono ?_); rintro e w' ⟨rfl, rfl⟩)
          | (go_at_call 29; (with_reducible refine (cF.out _ _ _ _ _ _ hle.out hrA.out hrL.out).mono ?_); rintro e w8 ⟨s8, rfl, ho8, hb8⟩; obtain ⟨A8, c8, rfl, _, _⟩ := own_len ho8; replace ho8 := hide (Rd.ofOwn ho8); replace hb8 := hide hb8)
          | (go_at_call 28; (with_reducible refine (cO.out _ _ _ ho8.out).mono ?_); rintro e w9 ⟨s9, rfl, ho9, hb9⟩; replace ho9 := hide ho9; replace hb9 := hide hb9))
      have z1 := hb1.out.size
      have z3 : wr.heap.size ≤ w8.heap.size := hb8.out.size
      go_wp2
      go_ret
      exact ⟨_, rfl, own_down ho9.out (by omega), hb1.out.trans ((hbr.out.trans ((hb8.out.trans (hb9.out.mono (by exact z3))).mono (by exact hsz2))).mono (by omega))⟩
    | succ k =>
      have hin : i < 8 := by omega
      have hii : (i : Int) < 8 := by omega
      have hi0 : (0 : Int) ≤ (i : Int) := by omega
      have hs1 := hb1.out.size
      have ka := (hbel.out.cell (p := ⟨ba, oa + i, none⟩) (by show ba < _; omega)).trans (hca'.out i hin)
      have kl := (hbel.out.cell (p := ⟨bl, ol + i, none⟩) (by show bl < _; omega)).trans (hcl'.out i hin)
      have bx := hva.out i
      have by' := hvl.out i
      have rA := rowQ8_succ (fun k => va.getD k 0) i
      have rL := rowQ8_succ (fun k => vl.getD k 0) i
      generalize va.getD i 0 = x0 at *
      generalize vl.getD i 0 = y0 at *
      replace rA := hide rA
      replace rL := hide rL
      have VX : IntKind.i64.wrap x0 = x0 := IntWalk.i64_in _ (by omega)
      have VY : IntKind.i64.wrap y0 = y0 := IntWalk.i64_in _ (by omega)
      have hTo := hT.out
      have hnA : ∀ k, wr.heap.size ≤ k → some k ≠ u12.ownBlock := fun k hk e => by have := (hTo.a.lt _ e.symm).2; omega
      have hnL : ∀ k, wr.heap.size ≤ k → some k ≠ u13.ownBlock := fun k hk e => by have := (hTo.l.lt _ e.symm).2; omega
      have hmA : ∀ k, k < w1.heap.size → some k ≠ u12.ownBlock := fun k hk e => by have := (hTo.a.lt _ e.symm).1; omega
      have hmL : ∀ k, k < w1.heap.size → some k ≠ u13.ownBlock := fun k hk e => by have := (hTo.l.lt _ e.symm).1; omega
      have hba1 : ba < w1.heap.size := by omega
      have hbl1 : bl < w1.heap.size := by omega
      have hba2 : ba < wr.heap.size := by omega
      have hbl2 : bl < wr.heap.size := by omega
      have hbaw : ¬ ba = wr.heap.size := by omega
      have hblw : ¬ bl = wr.heap.size := by omega
      have hbaw1 : ¬ ba = wr.heap.size + 1 := by omega
      have hblw1 : ¬ bl = wr.heap.size + 1 := by omega
      replace hnA := hide hnA
      replace hnL := hide hnL
      replace hmA := hide hmA
      replace hmL := hide hmL
      clear hTo hca' hcl' hva hvl cF cO cK
      go_wp2
      go_region_held3 (fun W => W.cell? ⟨ba, oa + i, none⟩ = some (.int .u8 x0) ∧ W.cell? ⟨bl, ol + i, none⟩ = some (.int .u8 y0))
        (first
          | go_keep
          | (refine ⟨?_, ?_⟩ <;> (first
              | (rw [World.cell?_of_block (hg9.out.block _ (by simp; omega) (by first | exact hmA.out _ (by assumption) | exact hmL.out _ (by assumption)))]; simp [*]; done)
              | (rw [World.cell?_of_block (hg8.out.block _ (by simp; omega) (by first | exact hmA.out _ (by assumption) | exact hmL.out _ (by assumption)))]; simp [*]; done))))
        (first
          | (refine step_two2 (.tmp 69) (.tmp 75) 36 w1 3 (.int .i64 0) 8 Tryd.underlying36 info_int8 rfl (.slice (some ⟨g1, 0, none⟩) (i + 1) cap1) u13 (i + 1) i (((rowQ8 (fun k => va.getD k 0) i).map (Value.int .i64)) ++ [.int .i64 x0]) ((rowQ8 (fun k => vl.getD k 0) i).map (Value.int .i64)) (.int .i64 y0) rfl (by simp only [maxLen]; omega) (by omega) ?_; refine ⟨⟨rfl, rfl, rfl, (by first | exact hT8.out | exact hT8.out.alloc _), ⟨_, rfl, (by first | (simp; done) | (rw [World.cell?_of_block (hg8.out.block _ (by simp <;> omega) (hnA.out _ (by simp <;> omega)))]; simp; done))⟩⟩, ?_⟩; intro v' w9 hT9 hg9 hv9; obtain ⟨g2, cap2, rfl⟩ := hv9; have hz9 := hT9.bel.size; replace hT9 := hide hT9; replace hg9 := hide hg9)
          | (refine step_two (.tmp 61) (.tmp 67) 36 w1 3 (.int .i64 0) 8 Tryd.underlying36 info_int8 rfl u12 (.slice (some ⟨g2, 0, none⟩) (i + 1) cap2) i (i + 1) ((rowQ8 (fun k => va.getD k 0) i).map (Value.int .i64)) (((rowQ8 (fun k => vl.getD k 0) i).map (Value.int .i64)) ++ [.int .i64 y0]) (.int .i64 x0) rfl (by simp only [maxLen]; omega) (by omega) ?_; refine ⟨⟨rfl, rfl, rfl, (by first | exact hT9.out | exact hT9.out.alloc _), ⟨_, rfl, (by first | (simp; done) | (rw [World.cell?_of_block (hg9.out.block _ (by simp <;> omega) (hnL.out _ (by simp <;> omega)))]; simp; done))⟩⟩, ?_⟩; intro v' w8 hT8 hg8 hv8; obtain ⟨g1, cap1, rfl⟩ := hv8; have hz8 := hT8.bel.size; replace hT8 := hide hT8; replace hg8 := hide hg8)
          | (refine step_two (.tmp 61) (.tmp 67) 36 w1 3 (.int .i64 0) 8 Tryd.underlying36 info_int8 rfl u12 u13 i i ((rowQ8 (fun k => va.getD k 0) i).map (Value.int .i64)) ((rowQ8 (fun k => vl.getD k 0) i).map (Value.int .i64)) (.int .i64 x0) rfl (by simp only [maxLen]; omega) (by omega) ?_; refine ⟨⟨rfl, rfl, rfl, (by first | exact (hT.out.drew).alloc _ | exact ((hT.out.drew).alloc _).alloc _), ⟨_, rfl, (by simp)⟩⟩, ?_⟩; intro v' w8 hT8 hg8 hv8; obtain ⟨g1, cap1, rfl⟩ := hv8; have hz8 := hT8.bel.size; replace hT8 := hide hT8; replace hg8 := hide hg8)
          | (refine step_two2 (.tmp 69) (.tmp 75) 36 w1 3 (.int .i64 0) 8 Tryd.underlying36 info_int8 rfl u12 u13 i i ((rowQ8 (fun k => va.getD k 0) i).map (Value.int .i64)) ((rowQ8 (fun k => vl.getD k 0) i).map (Value.int .i64)) (.int .i64 y0) rfl (by simp only [maxLen]; omega) (by omega) ?_; refine ⟨⟨rfl, rfl, rfl, (by first | exact (hT.out.drew).alloc _ | exact ((hT.out.drew).alloc _).alloc _), ⟨_, rfl, (by simp)⟩⟩, ?_⟩; intro v' w9 hT9 hg9 hv9; obtain ⟨g2, cap2, rfl⟩ := hv9; have hz9 := hT9.bel.size; replace hT9 := hide hT9; replace hg9 := hide hg9))
      all_goals
        go_wp2
        go_roundg k
        case measure => omega
        case rel => exact ⟨i + 1, by omega, by go_num, by rw [rA.out, rL.out, List.map_append, List.map_append]; first | exact hT9.out | exact hT8.out⟩

set_option maxRecDepth 100000 in
set_option maxHeartbeats 4000000 in
theorem largeTM (Aa Al : Option Addr) (ca cl B : Nat) (cv : Int) (va vl : List Int) (w : World) (hB : B ≤ w.heap.size) (hla : va.length = 8) (hll : vl.length = 8) (hcv : 0 ≤ cv ∧ cv ≤ 255) (hva : ∀ k, 0 ≤ va.getD k 0 ∧ va.getD k 0 ≤ 255) (hvl : ∀ k, 0 ≤ vl.getD k 0 ∧ vl.getD k 0 ≤ 255) (hra : Rd .u8 w B Aa va) (hrl : Rd .u8 w B Al vl) :
    Calls Tryd.prog 17 #[.int .i64 8, .int .i64 1, .int .i64 cv, .slice Aa 8 ca, .slice Al 8 cl] w fun e w' => ∃ s, e = .returned s ∧ w'.ownsRow w.heap.size 5 1 s 64 ((rowQ8 (fun q => (fun a b => clp8 (vl.getD a 0 + va.getD b 0 - cv)) (q / 8) (q % 8)) 64).map (Value.int .u8)) ∧ Below w.heap.size w w' := by
  obtain ⟨ba, oa, rfl, hba, hca⟩ := hra.at_ (j := 0) (by omega)
  obtain ⟨bl, ol, rfl, hbl, hcl⟩ := hrl.at_ (j := 0) (by omega)
  obtain ⟨hcv1, hcv2⟩ := hcv
  have hIn : Blk (w.alloc (.cells #[.bool true, .bool true] 51)) w.heap.size 51 #[.bool true, .bool true] := Blk.new w _ _
  have hb1 := (Below.refl w.heap.size w).alloc (Nat.le_refl _) (.cells #[.bool true, .bool true] 51)
  have hsz1 : (w.alloc (.cells #[.bool true, .bool true] 51)).heap.size = w.heap.size + 1 := by simp
  have hsA8 := sum8_bd (fun k => va.getD k 0) hva 8
  have hsL8 := sum8_bd (fun k => vl.getD k 0) hvl 8
  have hca' : ∀ j, j < 8 → (w.alloc (.cells #[.bool true, .bool true] 51)).cell? ⟨ba, oa + j, none⟩ = some (.int .u8 (va.getD j 0)) := fun j hj => (hb1.cell (p := ⟨ba, oa + j, none⟩) (by show ba < _; omega)).trans (hca j (by omega))
  have hcl' : ∀ j, j < 8 → (w.alloc (.cells #[.bool true, .bool true] 51)).cell? ⟨bl, ol + j, none⟩ = some (.int .u8 (vl.getD j 0)) := fun j hj => (hb1.cell (p := ⟨bl, ol + j, none⟩) (by show bl < _; omega)).trans (hcl j (by omega))
  have hba' : ba < w.heap.size := by omega
  have hbl' : bl < w.heap.size := by omega
  have hGb : ∀ k, 0 ≤ (rowQ8 (fun q => (fun a b => clp8 (vl.getD a 0 + va.getD b 0 - cv)) (q / 8) (q % 8)) 64).getD k 0 ∧ (rowQ8 (fun q => (fun a b => clp8 (vl.getD a 0 + va.getD b 0 - cv)) (q / 8) (q % 8)) 64).getD k 0 ≤ 255 := by
    intro k
    by_cases hk : k < 64
    · have e : (rowQ8 (fun q => (fun a b => clp8 (vl.getD a 0 + va.getD b 0 - cv)) (q / 8) (q % 8)) 64).getD k 0 = (fun a b => clp8 (vl.getD a 0 + va.getD b 0 - cv)) (k / 8) (k % 8) := by simp [rowQ8, hk]
      rw [e]
      show 0 ≤ clp8 (vl.getD (k / 8) 0 + va.getD (k % 8) 0 - cv) ∧ clp8 (vl.getD (k / 8) 0 + va.getD (k % 8) 0 - cv) ≤ 255
      exact clp8_ends _
    · have e : (rowQ8 (fun q => (fun a b => clp8 (vl.getD a 0 + va.getD b 0 - cv)) (q / 8) (q % 8)) 64).getD k 0 = 0 := by simp [rowQ8, hk]
      rw [e]
      omega
  have hG64 := rowQ8_len (fun q => (fun a b => clp8 (vl.getD a 0 + va.getD b 0 - cv)) (q / 8) (q % 8)) 64
  have cF := fun (W : World) (B : Nat) (Aa Al : Option Addr) (ca cl : Nat) hB hra hrl => foretoldTM Aa Al ca cl B cv va vl W hB hla hll ⟨hcv1, hcv2⟩ hva hvl hra hrl
  have cO := fun (W : World) (A : Option Addr) (c : Nat) (hr : Rd .i64 W W.heap.size A (rowQ8 (fun q => (fun a b => clp8 (vl.getD a 0 + va.getD b 0 - cv)) (q / 8) (q % 8)) 64)) => bytesOf_any A c W.heap.size _ W (by rw [hG64]; decide) (Nat.le_refl _) hGb hr
  rw [hG64] at cO
  have cK := fun W => byteOf_any cv W
  have hK : clp8 cv = cv := by unfold clp8; rw [if_neg (by omega), if_neg (by omega)]
  rw [hK] at cK
  clear hca hcl hra hrl hba hbl hB hsA8 hsL8 hGb hG64 hK
  replace hca' := hide hca'
  replace hcl' := hide hcl'
  replace hva := hide hva
  replace hvl := hide hvl
  replace hla := hide hla
  replace hll := hide hll
  replace hb1 := hide hb1
  replace hIn := hide hIn
  replace hsz1 := hide hsz1
  replace cF := hide cF
  replace cO := hide cO
  replace cK := hide cK
  generalize hRL : rowQ8 (fun q => (fun a b => clp8 (vl.getD a 0 + va.getD b 0 - cv)) (q / 8) (q % 8)) 64 = RL at *
  replace hRL := hide hRL
  go_enter Tryd.func17, Tryd.ntmps17
  go_wp2
  generalize hw1 : w.alloc (.cells #[.bool true, .bool true] 51) = w1 at *
  replace hw1 := hide hw1
  go_loopg [12, 13, 14] 8 (fun k ua ul ui wr => ∃ i : Nat, k + i = 8 ∧ ui = .int .i64 i ∧ Two w1 wr 3 ua ul i i ((rowQ8 (fun k => va.getD k 0) i).map (Value.int .i64)) ((rowQ8 (fun k => vl.getD k 0) i).map (Value.int .i64)))
  case atStart => exact ⟨0, rfl, rfl, Two.start w1 _⟩
  case round =>
    obtain ⟨i, hi, rfl, hT⟩ := hrel
    have hbel := hT.bel
    have hsz2 := hbel.size
    replace hT := hide hT
    replace hbel := hide hbel
    cases gk with
    | zero =>
      have hi8 : i = 8 := by omega
      subst hi8
      have hTo := hT.out
      rw [rowQ8_self va 8 hla.out, rowQ8_self vl 8 hll.out] at hTo
      obtain ⟨A1, c1, rfl, _, _⟩ := own_len hTo.a
      obtain ⟨A2, c2, rfl, _, _⟩ := own_len hTo.l
      have hrA := hide ((Rd.ofOwn hTo.a).drew)
      have hrL := hide ((Rd.ofOwn hTo.l).drew)
      have hle : Hid (wr.heap.size ≤ wr.drew.heap.size) := hide (Nat.le_refl _)
      have hbr := hide (hbel.out.drew)
      have hIn2 := hIn.out.below hbel.out (by have := hsz1.out; omega)
      have hI0 := hIn2.cell 0
      have hI1 := hIn2.cell 1
      simp only [List.getElem?_toArray, List.getElem?_cons_zero, List.getElem?_cons_succ] at hI0 hI1
      have hblk : w.heap.size < wr.heap.size := by have := hsz1.out; omega
      have hRLn : Hid (RL = rowQ8 (fun q => (fun a b => clp8 (vl.getD a 0 + va.getD b 0 - cv)) (q / 8) (q % 8)) 64) := hide hRL.out.symm
      clear hTo hT hIn2 hca' hcl' hva hvl hIn hbel
      go_wp2
      go_region_held3 (fun W => W.cell? ⟨w.heap.size, 0, none⟩ = some (.bool true) ∧ W.cell? ⟨w.heap.size, 1, none⟩ = some (.bool true))
        (first
          | go_keep
          | exact ⟨(hb8.out.cell (p := ⟨w.heap.size, 0, none⟩) hblk).trans hI0, (hb8.out.cell (p := ⟨w.heap.size, 1, none⟩) hblk).trans hI1⟩
          | exact ⟨((hb9.out.cell (p := ⟨w.heap.size, 0, none⟩) (Nat.lt_of_lt_of_le hblk hb8.out.size)).trans (hb8.out.cell (p := ⟨w.heap.size, 0, none⟩) hblk)).trans hI0, ((hb9.out.cell (p := ⟨w.heap.size, 1, none⟩) (Nat.lt_of_lt_of_le hblk hb8.out.size)).trans (hb8.out.cell (p := ⟨w.heap.size, 1, none⟩) hblk)).trans hI1⟩)
        (first
          | (go_at_call 30; (with_reducible refine (cK.out _).mono ?_); rintro e w' ⟨rfl, rfl⟩)
          | (go_at_call 29; (with_reducible refine (cF.out _ _ _ _ _ _ hle.out hrA.out hrL.out).mono ?_); rintro e w8 ⟨s8, rfl, ho8, hb8⟩; obtain ⟨A8, c8, rfl, _, _⟩ := own_len ho8; replace ho8 := hide (Rd.ofOwn ho8); replace hb8 := hide hb8)
          | (go_at_call 28; (with_reducible refine (cO.out _ _ _ ho8.out).mono ?_); rintro e w9 ⟨s9, rfl, ho9, hb9⟩; replace ho9 := hide ho9; replace hb9 := hide hb9))
      have z1 := hb1.out.size
      have z3 : wr.heap.size ≤ w8.heap.size := hb8.out.size
      go_wp2
      go_ret
      exact ⟨_, rfl, own_down ho9.out (by omega), hb1.out.trans ((hbr.out.trans ((hb8.out.trans (hb9.out.mono (by exact z3))).mono (by exact hsz2))).mono (by omega))⟩
    | succ k =>
      have hin : i < 8 := by omega
      have hii : (i : Int) < 8 := by omega
      have hi0 : (0 : Int) ≤ (i : Int) := by omega
      have hs1 := hb1.out.size
      have ka := (hbel.out.cell (p := ⟨ba, oa + i, none⟩) (by show ba < _; omega)).trans (hca'.out i hin)
      have kl := (hbel.out.cell (p := ⟨bl, ol + i, none⟩) (by show bl < _; omega)).trans (hcl'.out i hin)
      have bx := hva.out i
      have by' := hvl.out i
      have rA := rowQ8_succ (fun k => va.getD k 0) i
      have rL := rowQ8_succ (fun k => vl.getD k 0) i
      generalize va.getD i 0 = x0 at *
      generalize vl.getD i 0 = y0 at *
      replace rA := hide rA
      replace rL := hide rL
      have VX : IntKind.i64.wrap x0 = x0 := IntWalk.i64_in _ (by omega)
      have VY : IntKind.i64.wrap y0 = y0 := IntWalk.i64_in _ (by omega)
      have hTo := hT.out
      have hnA : ∀ k, wr.heap.size ≤ k → some k ≠ u12.ownBlock := fun k hk e => by have := (hTo.a.lt _ e.symm).2; omega
      have hnL : ∀ k, wr.heap.size ≤ k → some k ≠ u13.ownBlock := fun k hk e => by have := (hTo.l.lt _ e.symm).2; omega
      have hmA : ∀ k, k < w1.heap.size → some k ≠ u12.ownBlock := fun k hk e => by have := (hTo.a.lt _ e.symm).1; omega
      have hmL : ∀ k, k < w1.heap.size → some k ≠ u13.ownBlock := fun k hk e => by have := (hTo.l.lt _ e.symm).1; omega
      have hba1 : ba < w1.heap.size := by omega
      have hbl1 : bl < w1.heap.size := by omega
      have hba2 : ba < wr.heap.size := by omega
      have hbl2 : bl < wr.heap.size := by omega
      have hbaw : ¬ ba = wr.heap.size := by omega
      have hblw : ¬ bl = wr.heap.size := by omega
      have hbaw1 : ¬ ba = wr.heap.size + 1 := by omega
      have hblw1 : ¬ bl = wr.heap.size + 1 := by omega
      replace hnA := hide hnA
      replace hnL := hide hnL
      replace hmA := hide hmA
      replace hmL := hide hmL
      clear hTo hca' hcl' hva hvl cF cO cK
      go_wp2
      go_region_held3 (fun W => W.cell? ⟨ba, oa + i, none⟩ = some (.int .u8 x0) ∧ W.cell? ⟨bl, ol + i, none⟩ = some (.int .u8 y0))
        (first
          | go_keep
          | (refine ⟨?_, ?_⟩ <;> (first
              | (rw [World.cell?_of_block (hg9.out.block _ (by simp; omega) (by first | exact hmA.out _ (by assumption) | exact hmL.out _ (by assumption)))]; simp [*]; done)
              | (rw [World.cell?_of_block (hg8.out.block _ (by simp; omega) (by first | exact hmA.out _ (by assumption) | exact hmL.out _ (by assumption)))]; simp [*]; done))))
        (first
          | (refine step_two2 (.tmp 69) (.tmp 75) 36 w1 3 (.int .i64 0) 8 Tryd.underlying36 info_int8 rfl (.slice (some ⟨g1, 0, none⟩) (i + 1) cap1) u13 (i + 1) i (((rowQ8 (fun k => va.getD k 0) i).map (Value.int .i64)) ++ [.int .i64 x0]) ((rowQ8 (fun k => vl.getD k 0) i).map (Value.int .i64)) (.int .i64 y0) rfl (by simp only [maxLen]; omega) (by omega) ?_; refine ⟨⟨rfl, rfl, rfl, (by first | exact hT8.out | exact hT8.out.alloc _), ⟨_, rfl, (by first | (simp; done) | (rw [World.cell?_of_block (hg8.out.block _ (by simp <;> omega) (hnA.out _ (by simp <;> omega)))]; simp; done))⟩⟩, ?_⟩; intro v' w9 hT9 hg9 hv9; obtain ⟨g2, cap2, rfl⟩ := hv9; have hz9 := hT9.bel.size; replace hT9 := hide hT9; replace hg9 := hide hg9)
          | (refine step_two (.tmp 61) (.tmp 67) 36 w1 3 (.int .i64 0) 8 Tryd.underlying36 info_int8 rfl u12 (.slice (some ⟨g2, 0, none⟩) (i + 1) cap2) i (i + 1) ((rowQ8 (fun k => va.getD k 0) i).map (Value.int .i64)) (((rowQ8 (fun k => vl.getD k 0) i).map (Value.int .i64)) ++ [.int .i64 y0]) (.int .i64 x0) rfl (by simp only [maxLen]; omega) (by omega) ?_; refine ⟨⟨rfl, rfl, rfl, (by first | exact hT9.out | exact hT9.out.alloc _), ⟨_, rfl, (by first | (simp; done) | (rw [World.cell?_of_block (hg9.out.block _ (by simp <;> omega) (hnL.out _ (by simp <;> omega)))]; simp; done))⟩⟩, ?_⟩; intro v' w8 hT8 hg8 hv8; obtain ⟨g1, cap1, rfl⟩ := hv8; have hz8 := hT8.bel.size; replace hT8 := hide hT8; replace hg8 := hide hg8)
          | (refine step_two (.tmp 61) (.tmp 67) 36 w1 3 (.int .i64 0) 8 Tryd.underlying36 info_int8 rfl u12 u13 i i ((rowQ8 (fun k => va.getD k 0) i).map (Value.int .i64)) ((rowQ8 (fun k => vl.getD k 0) i).map (Value.int .i64)) (.int .i64 x0) rfl (by simp only [maxLen]; omega) (by omega) ?_; refine ⟨⟨rfl, rfl, rfl, (by first | exact (hT.out.drew).alloc _ | exact ((hT.out.drew).alloc _).alloc _), ⟨_, rfl, (by simp)⟩⟩, ?_⟩; intro v' w8 hT8 hg8 hv8; obtain ⟨g1, cap1, rfl⟩ := hv8; have hz8 := hT8.bel.size; replace hT8 := hide hT8; replace hg8 := hide hg8)
          | (refine step_two2 (.tmp 69) (.tmp 75) 36 w1 3 (.int .i64 0) 8 Tryd.underlying36 info_int8 rfl u12 u13 i i ((rowQ8 (fun k => va.getD k 0) i).map (Value.int .i64)) ((rowQ8 (fun k => vl.getD k 0) i).map (Value.int .i64)) (.int .i64 y0) rfl (by simp only [maxLen]; omega) (by omega) ?_; refine ⟨⟨rfl, rfl, rfl, (by first | exact (hT.out.drew).alloc _ | exact ((hT.out.drew).alloc _).alloc _), ⟨_, rfl, (by simp)⟩⟩, ?_⟩; intro v' w9 hT9 hg9 hv9; obtain ⟨g2, cap2, rfl⟩ := hv9; have hz9 := hT9.bel.size; replace hT9 := hide hT9; replace hg9 := hide hg9))
      all_goals
        go_wp2
        go_roundg k
        case measure => omega
        case rel => exact ⟨i + 1, by omega, by go_num, by rw [rA.out, rL.out, List.map_append, List.map_append]; first | exact hT9.out | exact hT8.out⟩

set_option maxRecDepth 100000 in
set_option maxHeartbeats 4000000 in
theorem largeVE (Aa Al : Option Addr) (ca cl B : Nat) (cv : Int) (va vl : List Int) (w : World) (hB : B ≤ w.heap.size) (hla : va.length = 8) (hll : vl.length = 8) (hcv : 0 ≤ cv ∧ cv ≤ 255) (hva : ∀ k, 0 ≤ va.getD k 0 ∧ va.getD k 0 ≤ 255) (hvl : ∀ k, 0 ≤ vl.getD k 0 ∧ vl.getD k 0 ≤ 255) (hra : Rd .u8 w B Aa va) (hrl : Rd .u8 w B Al vl) :
    Calls Tryd.prog 17 #[.int .i64 8, .int .i64 2, .int .i64 cv, .slice Aa 8 ca, .slice Al 8 cl] w fun e w' => ∃ s, e = .returned s ∧ w'.ownsRow w.heap.size 5 1 s 64 ((rowQ8 (fun q => (fun a b => va.getD b 0) (q / 8) (q % 8)) 64).map (Value.int .u8)) ∧ Below w.heap.size w w' := by
  obtain ⟨ba, oa, rfl, hba, hca⟩ := hra.at_ (j := 0) (by omega)
  obtain ⟨bl, ol, rfl, hbl, hcl⟩ := hrl.at_ (j := 0) (by omega)
  obtain ⟨hcv1, hcv2⟩ := hcv
  have hIn : Blk (w.alloc (.cells #[.bool true, .bool true] 51)) w.heap.size 51 #[.bool true, .bool true] := Blk.new w _ _
  have hb1 := (Below.refl w.heap.size w).alloc (Nat.le_refl _) (.cells #[.bool true, .bool true] 51)
  have hsz1 : (w.alloc (.cells #[.bool true, .bool true] 51)).heap.size = w.heap.size + 1 := by simp
  have hsA8 := sum8_bd (fun k => va.getD k 0) hva 8
  have hsL8 := sum8_bd (fun k => vl.getD k 0) hvl 8
  have hca' : ∀ j, j < 8 → (w.alloc (.cells #[.bool true, .bool true] 51)).cell? ⟨ba, oa + j, none⟩ = some (.int .u8 (va.getD j 0)) := fun j hj => (hb1.cell (p := ⟨ba, oa + j, none⟩) (by show ba < _; omega)).trans (hca j (by omega))
  have hcl' : ∀ j, j < 8 → (w.alloc (.cells #[.bool true, .bool true] 51)).cell? ⟨bl, ol + j, none⟩ = some (.int .u8 (vl.getD j 0)) := fun j hj => (hb1.cell (p := ⟨bl, ol + j, none⟩) (by show bl < _; omega)).trans (hcl j (by omega))
  have hba' : ba < w.heap.size := by omega
  have hbl' : bl < w.heap.size := by omega
  have hGb : ∀ k, 0 ≤ (rowQ8 (fun q => (fun a b => va.getD b 0) (q / 8) (q % 8)) 64).getD k 0 ∧ (rowQ8 (fun q => (fun a b => va.getD b 0) (q / 8) (q % 8)) 64).getD k 0 ≤ 255 := by
    intro k
    by_cases hk : k < 64
    · have e : (rowQ8 (fun q => (fun a b => va.getD b 0) (q / 8) (q % 8)) 64).getD k 0 = (fun a b => va.getD b 0) (k / 8) (k % 8) := by simp [rowQ8, hk]
      rw [e]
      show 0 ≤ va.getD (k % 8) 0 ∧ va.getD (k % 8) 0 ≤ 255
      exact hva _
    · have e : (rowQ8 (fun q => (fun a b => va.getD b 0) (q / 8) (q % 8)) 64).getD k 0 = 0 := by simp [rowQ8, hk]
      rw [e]
      omega
  have hG64 := rowQ8_len (fun q => (fun a b => va.getD b 0) (q / 8) (q % 8)) 64
  have cF := fun (W : World) (B : Nat) (Aa Al : Option Addr) (ca cl : Nat) hB hra hrl => foretoldVE Aa Al ca cl B cv va vl W hB hla hll ⟨hcv1, hcv2⟩ hva hvl hra hrl
  have cO := fun (W : World) (A : Option Addr) (c : Nat) (hr : Rd .i64 W W.heap.size A (rowQ8 (fun q => (fun a b => va.getD b 0) (q / 8) (q % 8)) 64)) => bytesOf_any A c W.heap.size _ W (by rw [hG64]; decide) (Nat.le_refl _) hGb hr
  rw [hG64] at cO
  have cK := fun W => byteOf_any cv W
  have hK : clp8 cv = cv := by unfold clp8; rw [if_neg (by omega), if_neg (by omega)]
  rw [hK] at cK
  clear hca hcl hra hrl hba hbl hB hsA8 hsL8 hGb hG64 hK
  replace hca' := hide hca'
  replace hcl' := hide hcl'
  replace hva := hide hva
  replace hvl := hide hvl
  replace hla := hide hla
  replace hll := hide hll
  replace hb1 := hide hb1
  replace hIn := hide hIn
  replace hsz1 := hide hsz1
  replace cF := hide cF
  replace cO := hide cO
  replace cK := hide cK
  generalize hRL : rowQ8 (fun q => (fun a b => va.getD b 0) (q / 8) (q % 8)) 64 = RL at *
  replace hRL := hide hRL
  go_enter Tryd.func17, Tryd.ntmps17
  go_wp2
  generalize hw1 : w.alloc (.cells #[.bool true, .bool true] 51) = w1 at *
  replace hw1 := hide hw1
  go_loopg [12, 13, 14] 8 (fun k ua ul ui wr => ∃ i : Nat, k + i = 8 ∧ ui = .int .i64 i ∧ Two w1 wr 3 ua ul i i ((rowQ8 (fun k => va.getD k 0) i).map (Value.int .i64)) ((rowQ8 (fun k => vl.getD k 0) i).map (Value.int .i64)))
  case atStart => exact ⟨0, rfl, rfl, Two.start w1 _⟩
  case round =>
    obtain ⟨i, hi, rfl, hT⟩ := hrel
    have hbel := hT.bel
    have hsz2 := hbel.size
    replace hT := hide hT
    replace hbel := hide hbel
    cases gk with
    | zero =>
      have hi8 : i = 8 := by omega
      subst hi8
      have hTo := hT.out
      rw [rowQ8_self va 8 hla.out, rowQ8_self vl 8 hll.out] at hTo
      obtain ⟨A1, c1, rfl, _, _⟩ := own_len hTo.a
      obtain ⟨A2, c2, rfl, _, _⟩ := own_len hTo.l
      have hrA := hide ((Rd.ofOwn hTo.a).drew)
      have hrL := hide ((Rd.ofOwn hTo.l).drew)
      have hle : Hid (wr.heap.size ≤ wr.drew.heap.size) := hide (Nat.le_refl _)
      have hbr := hide (hbel.out.drew)
      have hIn2 := hIn.out.below hbel.out (by have := hsz1.out; omega)
      have hI0 := hIn2.cell 0
      have hI1 := hIn2.cell 1
      simp only [List.getElem?_toArray, List.getElem?_cons_zero, List.getElem?_cons_succ] at hI0 hI1
      have hblk : w.heap.size < wr.heap.size := by have := hsz1.out; omega
      have hRLn : Hid (RL = rowQ8 (fun q => (fun a b => va.getD b 0) (q / 8) (q % 8)) 64) := hide hRL.out.symm
      clear hTo hT hIn2 hca' hcl' hva hvl hIn hbel
      go_wp2
      go_region_held3 (fun W => W.cell? ⟨w.heap.size, 0, none⟩ = some (.bool true) ∧ W.cell? ⟨w.heap.size, 1, none⟩ = some (.bool true))
        (first
          | go_keep
          | exact ⟨(hb8.out.cell (p := ⟨w.heap.size, 0, none⟩) hblk).trans hI0, (hb8.out.cell (p := ⟨w.heap.size, 1, none⟩) hblk).trans hI1⟩
          | exact ⟨((hb9.out.cell (p := ⟨w.heap.size, 0, none⟩) (Nat.lt_of_lt_of_le hblk hb8.out.size)).trans (hb8.out.cell (p := ⟨w.heap.size, 0, none⟩) hblk)).trans hI0, ((hb9.out.cell (p := ⟨w.heap.size, 1, none⟩) (Nat.lt_of_lt_of_le hblk hb8.out.size)).trans (hb8.out.cell (p := ⟨w.heap.size, 1, none⟩) hblk)).trans hI1⟩)
        (first
          | (go_at_call 30; (with_reducible refine (cK.out _).mono ?_); rintro e w' ⟨rfl, rfl⟩)
          | (go_at_call 29; (with_reducible refine (cF.out _ _ _ _ _ _ hle.out hrA.out hrL.out).mono ?_); rintro e w8 ⟨s8, rfl, ho8, hb8⟩; obtain ⟨A8, c8, rfl, _, _⟩ := own_len ho8; replace ho8 := hide (Rd.ofOwn ho8); replace hb8 := hide hb8)
          | (go_at_call 28; (with_reducible refine (cO.out _ _ _ ho8.out).mono ?_); rintro e w9 ⟨s9, rfl, ho9, hb9⟩; replace ho9 := hide ho9; replace hb9 := hide hb9))
      have z1 := hb1.out.size
      have z3 : wr.heap.size ≤ w8.heap.size := hb8.out.size
      go_wp2
      go_ret
      exact ⟨_, rfl, own_down ho9.out (by omega), hb1.out.trans ((hbr.out.trans ((hb8.out.trans (hb9.out.mono (by exact z3))).mono (by exact hsz2))).mono (by omega))⟩
    | succ k =>
      have hin : i < 8 := by omega
      have hii : (i : Int) < 8 := by omega
      have hi0 : (0 : Int) ≤ (i : Int) := by omega
      have hs1 := hb1.out.size
      have ka := (hbel.out.cell (p := ⟨ba, oa + i, none⟩) (by show ba < _; omega)).trans (hca'.out i hin)
      have kl := (hbel.out.cell (p := ⟨bl, ol + i, none⟩) (by show bl < _; omega)).trans (hcl'.out i hin)
      have bx := hva.out i
      have by' := hvl.out i
      have rA := rowQ8_succ (fun k => va.getD k 0) i
      have rL := rowQ8_succ (fun k => vl.getD k 0) i
      generalize va.getD i 0 = x0 at *
      generalize vl.getD i 0 = y0 at *
      replace rA := hide rA
      replace rL := hide rL
      have VX : IntKind.i64.wrap x0 = x0 := IntWalk.i64_in _ (by omega)
      have VY : IntKind.i64.wrap y0 = y0 := IntWalk.i64_in _ (by omega)
      have hTo := hT.out
      have hnA : ∀ k, wr.heap.size ≤ k → some k ≠ u12.ownBlock := fun k hk e => by have := (hTo.a.lt _ e.symm).2; omega
      have hnL : ∀ k, wr.heap.size ≤ k → some k ≠ u13.ownBlock := fun k hk e => by have := (hTo.l.lt _ e.symm).2; omega
      have hmA : ∀ k, k < w1.heap.size → some k ≠ u12.ownBlock := fun k hk e => by have := (hTo.a.lt _ e.symm).1; omega
      have hmL : ∀ k, k < w1.heap.size → some k ≠ u13.ownBlock := fun k hk e => by have := (hTo.l.lt _ e.symm).1; omega
      have hba1 : ba < w1.heap.size := by omega
      have hbl1 : bl < w1.heap.size := by omega
      have hba2 : ba < wr.heap.size := by omega
      have hbl2 : bl < wr.heap.size := by omega
      have hbaw : ¬ ba = wr.heap.size := by omega
      have hblw : ¬ bl = wr.heap.size := by omega
      have hbaw1 : ¬ ba = wr.heap.size + 1 := by omega
      have hblw1 : ¬ bl = wr.heap.size + 1 := by omega
      replace hnA := hide hnA
      replace hnL := hide hnL
      replace hmA := hide hmA
      replace hmL := hide hmL
      clear hTo hca' hcl' hva hvl cF cO cK
      go_wp2
      go_region_held3 (fun W => W.cell? ⟨ba, oa + i, none⟩ = some (.int .u8 x0) ∧ W.cell? ⟨bl, ol + i, none⟩ = some (.int .u8 y0))
        (first
          | go_keep
          | (refine ⟨?_, ?_⟩ <;> (first
              | (rw [World.cell?_of_block (hg9.out.block _ (by simp; omega) (by first | exact hmA.out _ (by assumption) | exact hmL.out _ (by assumption)))]; simp [*]; done)
              | (rw [World.cell?_of_block (hg8.out.block _ (by simp; omega) (by first | exact hmA.out _ (by assumption) | exact hmL.out _ (by assumption)))]; simp [*]; done))))
        (first
          | (refine step_two2 (.tmp 69) (.tmp 75) 36 w1 3 (.int .i64 0) 8 Tryd.underlying36 info_int8 rfl (.slice (some ⟨g1, 0, none⟩) (i + 1) cap1) u13 (i + 1) i (((rowQ8 (fun k => va.getD k 0) i).map (Value.int .i64)) ++ [.int .i64 x0]) ((rowQ8 (fun k => vl.getD k 0) i).map (Value.int .i64)) (.int .i64 y0) rfl (by simp only [maxLen]; omega) (by omega) ?_; refine ⟨⟨rfl, rfl, rfl, (by first | exact hT8.out | exact hT8.out.alloc _), ⟨_, rfl, (by first | (simp; done) | (rw [World.cell?_of_block (hg8.out.block _ (by simp <;> omega) (hnA.out _ (by simp <;> omega)))]; simp; done))⟩⟩, ?_⟩; intro v' w9 hT9 hg9 hv9; obtain ⟨g2, cap2, rfl⟩ := hv9; have hz9 := hT9.bel.size; replace hT9 := hide hT9; replace hg9 := hide hg9)
          | (refine step_two (.tmp 61) (.tmp 67) 36 w1 3 (.int .i64 0) 8 Tryd.underlying36 info_int8 rfl u12 (.slice (some ⟨g2, 0, none⟩) (i + 1) cap2) i (i + 1) ((rowQ8 (fun k => va.getD k 0) i).map (Value.int .i64)) (((rowQ8 (fun k => vl.getD k 0) i).map (Value.int .i64)) ++ [.int .i64 y0]) (.int .i64 x0) rfl (by simp only [maxLen]; omega) (by omega) ?_; refine ⟨⟨rfl, rfl, rfl, (by first | exact hT9.out | exact hT9.out.alloc _), ⟨_, rfl, (by first | (simp; done) | (rw [World.cell?_of_block (hg9.out.block _ (by simp <;> omega) (hnL.out _ (by simp <;> omega)))]; simp; done))⟩⟩, ?_⟩; intro v' w8 hT8 hg8 hv8; obtain ⟨g1, cap1, rfl⟩ := hv8; have hz8 := hT8.bel.size; replace hT8 := hide hT8; replace hg8 := hide hg8)
          | (refine step_two (.tmp 61) (.tmp 67) 36 w1 3 (.int .i64 0) 8 Tryd.underlying36 info_int8 rfl u12 u13 i i ((rowQ8 (fun k => va.getD k 0) i).map (Value.int .i64)) ((rowQ8 (fun k => vl.getD k 0) i).map (Value.int .i64)) (.int .i64 x0) rfl (by simp only [maxLen]; omega) (by omega) ?_; refine ⟨⟨rfl, rfl, rfl, (by first | exact (hT.out.drew).alloc _ | exact ((hT.out.drew).alloc _).alloc _), ⟨_, rfl, (by simp)⟩⟩, ?_⟩; intro v' w8 hT8 hg8 hv8; obtain ⟨g1, cap1, rfl⟩ := hv8; have hz8 := hT8.bel.size; replace hT8 := hide hT8; replace hg8 := hide hg8)
          | (refine step_two2 (.tmp 69) (.tmp 75) 36 w1 3 (.int .i64 0) 8 Tryd.underlying36 info_int8 rfl u12 u13 i i ((rowQ8 (fun k => va.getD k 0) i).map (Value.int .i64)) ((rowQ8 (fun k => vl.getD k 0) i).map (Value.int .i64)) (.int .i64 y0) rfl (by simp only [maxLen]; omega) (by omega) ?_; refine ⟨⟨rfl, rfl, rfl, (by first | exact (hT.out.drew).alloc _ | exact ((hT.out.drew).alloc _).alloc _), ⟨_, rfl, (by simp)⟩⟩, ?_⟩; intro v' w9 hT9 hg9 hv9; obtain ⟨g2, cap2, rfl⟩ := hv9; have hz9 := hT9.bel.size; replace hT9 := hide hT9; replace hg9 := hide hg9))
      all_goals
        go_wp2
        go_roundg k
        case measure => omega
        case rel => exact ⟨i + 1, by omega, by go_num, by rw [rA.out, rL.out, List.map_append, List.map_append]; first | exact hT9.out | exact hT8.out⟩

set_option maxRecDepth 100000 in
set_option maxHeartbeats 4000000 in
theorem largeHE (Aa Al : Option Addr) (ca cl B : Nat) (cv : Int) (va vl : List Int) (w : World) (hB : B ≤ w.heap.size) (hla : va.length = 8) (hll : vl.length = 8) (hcv : 0 ≤ cv ∧ cv ≤ 255) (hva : ∀ k, 0 ≤ va.getD k 0 ∧ va.getD k 0 ≤ 255) (hvl : ∀ k, 0 ≤ vl.getD k 0 ∧ vl.getD k 0 ≤ 255) (hra : Rd .u8 w B Aa va) (hrl : Rd .u8 w B Al vl) :
    Calls Tryd.prog 17 #[.int .i64 8, .int .i64 3, .int .i64 cv, .slice Aa 8 ca, .slice Al 8 cl] w fun e w' => ∃ s, e = .returned s ∧ w'.ownsRow w.heap.size 5 1 s 64 ((rowQ8 (fun q => (fun a b => vl.getD a 0) (q / 8) (q % 8)) 64).map (Value.int .u8)) ∧ Below w.heap.size w w' := by
  obtain ⟨ba, oa, rfl, hba, hca⟩ := hra.at_ (j := 0) (by omega)
  obtain ⟨bl, ol, rfl, hbl, hcl⟩ := hrl.at_ (j := 0) (by omega)
  obtain ⟨hcv1, hcv2⟩ := hcv
  have hIn : Blk (w.alloc (.cells #[.bool true, .bool true] 51)) w.heap.size 51 #[.bool true, .bool true] := Blk.new w _ _
  have hb1 := (Below.refl w.heap.size w).alloc (Nat.le_refl _) (.cells #[.bool true, .bool true] 51)
  have hsz1 : (w.alloc (.cells #[.bool true, .bool true] 51)).heap.size = w.heap.size + 1 := by simp
  have hsA8 := sum8_bd (fun k => va.getD k 0) hva 8
  have hsL8 := sum8_bd (fun k => vl.getD k 0) hvl 8
  have hca' : ∀ j, j < 8 → (w.alloc (.cells #[.bool true, .bool true] 51)).cell? ⟨ba, oa + j, none⟩ = some (.int .u8 (va.getD j 0)) := fun j hj => (hb1.cell (p := ⟨ba, oa + j, none⟩) (by show ba < _; omega)).trans (hca j (by omega))
  have hcl' : ∀ j, j < 8 → (w.alloc (.cells #[.bool true, .bool true] 51)).cell? ⟨bl, ol + j, none⟩ = some (.int .u8 (vl.getD j 0)) := fun j hj => (hb1.cell (p := ⟨bl, ol + j, none⟩) (by show bl < _; omega)).trans (hcl j (by omega))
  have hba' : ba < w.heap.size := by omega
  have hbl' : bl < w.heap.size := by omega
  have hGb : ∀ k, 0 ≤ (rowQ8 (fun q => (fun a b => vl.getD a 0) (q / 8) (q % 8)) 64).getD k 0 ∧ (rowQ8 (fun q => (fun a b => vl.getD a 0) (q / 8) (q % 8)) 64).getD k 0 ≤ 255 := by
    intro k
    by_cases hk : k < 64
    · have e : (rowQ8 (fun q => (fun a b => vl.getD a 0) (q / 8) (q % 8)) 64).getD k 0 = (fun a b => vl.getD a 0) (k / 8) (k % 8) := by simp [rowQ8, hk]
      rw [e]
      show 0 ≤ vl.getD (k / 8) 0 ∧ vl.getD (k / 8) 0 ≤ 255
      exact hvl _
    · have e : (rowQ8 (fun q => (fun a b => vl.getD a 0) (q / 8) (q % 8)) 64).getD k 0 = 0 := by simp [rowQ8, hk]
      rw [e]
      omega
  have hG64 := rowQ8_len (fun q => (fun a b => vl.getD a 0) (q / 8) (q % 8)) 64
  have cF := fun (W : World) (B : Nat) (Aa Al : Option Addr) (ca cl : Nat) hB hra hrl => foretoldHE Aa Al ca cl B cv va vl W hB hla hll ⟨hcv1, hcv2⟩ hva hvl hra hrl
  have cO := fun (W : World) (A : Option Addr) (c : Nat) (hr : Rd .i64 W W.heap.size A (rowQ8 (fun q => (fun a b => vl.getD a 0) (q / 8) (q % 8)) 64)) => bytesOf_any A c W.heap.size _ W (by rw [hG64]; decide) (Nat.le_refl _) hGb hr
  rw [hG64] at cO
  have cK := fun W => byteOf_any cv W
  have hK : clp8 cv = cv := by unfold clp8; rw [if_neg (by omega), if_neg (by omega)]
  rw [hK] at cK
  clear hca hcl hra hrl hba hbl hB hsA8 hsL8 hGb hG64 hK
  replace hca' := hide hca'
  replace hcl' := hide hcl'
  replace hva := hide hva
  replace hvl := hide hvl
  replace hla := hide hla
  replace hll := hide hll
  replace hb1 := hide hb1
  replace hIn := hide hIn
  replace hsz1 := hide hsz1
  replace cF := hide cF
  replace cO := hide cO
  replace cK := hide cK
  generalize hRL : rowQ8 (fun q => (fun a b => vl.getD a 0) (q / 8) (q % 8)) 64 = RL at *
  replace hRL := hide hRL
  go_enter Tryd.func17, Tryd.ntmps17
  go_wp2
  generalize hw1 : w.alloc (.cells #[.bool true, .bool true] 51) = w1 at *
  replace hw1 := hide hw1
  go_loopg [12, 13, 14] 8 (fun k ua ul ui wr => ∃ i : Nat, k + i = 8 ∧ ui = .int .i64 i ∧ Two w1 wr 3 ua ul i i ((rowQ8 (fun k => va.getD k 0) i).map (Value.int .i64)) ((rowQ8 (fun k => vl.getD k 0) i).map (Value.int .i64)))
  case atStart => exact ⟨0, rfl, rfl, Two.start w1 _⟩
  case round =>
    obtain ⟨i, hi, rfl, hT⟩ := hrel
    have hbel := hT.bel
    have hsz2 := hbel.size
    replace hT := hide hT
    replace hbel := hide hbel
    cases gk with
    | zero =>
      have hi8 : i = 8 := by omega
      subst hi8
      have hTo := hT.out
      rw [rowQ8_self va 8 hla.out, rowQ8_self vl 8 hll.out] at hTo
      obtain ⟨A1, c1, rfl, _, _⟩ := own_len hTo.a
      obtain ⟨A2, c2, rfl, _, _⟩ := own_len hTo.l
      have hrA := hide ((Rd.ofOwn hTo.a).drew)
      have hrL := hide ((Rd.ofOwn hTo.l).drew)
      have hle : Hid (wr.heap.size ≤ wr.drew.heap.size) := hide (Nat.le_refl _)
      have hbr := hide (hbel.out.drew)
      have hIn2 := hIn.out.below hbel.out (by have := hsz1.out; omega)
      have hI0 := hIn2.cell 0
      have hI1 := hIn2.cell 1
      simp only [List.getElem?_toArray, List.getElem?_cons_zero, List.getElem?_cons_succ] at hI0 hI1
      have hblk : w.heap.size < wr.heap.size := by have := hsz1.out; omega
      have hRLn : Hid (RL = rowQ8 (fun q => (fun a b => vl.getD a 0) (q / 8) (q % 8)) 64) := hide hRL.out.symm
      clear hTo hT hIn2 hca' hcl' hva hvl hIn hbel
      go_wp2
      go_region_held3 (fun W => W.cell? ⟨w.heap.size, 0, none⟩ = some (.bool true) ∧ W.cell? ⟨w.heap.size, 1, none⟩ = some (.bool true))
        (first
          | go_keep
          | exact ⟨(hb8.out.cell (p := ⟨w.heap.size, 0, none⟩) hblk).trans hI0, (hb8.out.cell (p := ⟨w.heap.size, 1, none⟩) hblk).trans hI1⟩
          | exact ⟨((hb9.out.cell (p := ⟨w.heap.size, 0, none⟩) (Nat.lt_of_lt_of_le hblk hb8.out.size)).trans (hb8.out.cell (p := ⟨w.heap.size, 0, none⟩) hblk)).trans hI0, ((hb9.out.cell (p := ⟨w.heap.size, 1, none⟩) (Nat.lt_of_lt_of_le hblk hb8.out.size)).trans (hb8.out.cell (p := ⟨w.heap.size, 1, none⟩) hblk)).trans hI1⟩)
        (first
          | (go_at_call 30; (with_reducible refine (cK.out _).mono ?_); rintro e w' ⟨rfl, rfl⟩)
          | (go_at_call 29; (with_reducible refine (cF.out _ _ _ _ _ _ hle.out hrA.out hrL.out).mono ?_); rintro e w8 ⟨s8, rfl, ho8, hb8⟩; obtain ⟨A8, c8, rfl, _, _⟩ := own_len ho8; replace ho8 := hide (Rd.ofOwn ho8); replace hb8 := hide hb8)
          | (go_at_call 28; (with_reducible refine (cO.out _ _ _ ho8.out).mono ?_); rintro e w9 ⟨s9, rfl, ho9, hb9⟩; replace ho9 := hide ho9; replace hb9 := hide hb9))
      have z1 := hb1.out.size
      have z3 : wr.heap.size ≤ w8.heap.size := hb8.out.size
      go_wp2
      go_ret
      exact ⟨_, rfl, own_down ho9.out (by omega), hb1.out.trans ((hbr.out.trans ((hb8.out.trans (hb9.out.mono (by exact z3))).mono (by exact hsz2))).mono (by omega))⟩
    | succ k =>
      have hin : i < 8 := by omega
      have hii : (i : Int) < 8 := by omega
      have hi0 : (0 : Int) ≤ (i : Int) := by omega
      have hs1 := hb1.out.size
      have ka := (hbel.out.cell (p := ⟨ba, oa + i, none⟩) (by show ba < _; omega)).trans (hca'.out i hin)
      have kl := (hbel.out.cell (p := ⟨bl, ol + i, none⟩) (by show bl < _; omega)).trans (hcl'.out i hin)
      have bx := hva.out i
      have by' := hvl.out i
      have rA := rowQ8_succ (fun k => va.getD k 0) i
      have rL := rowQ8_succ (fun k => vl.getD k 0) i
      generalize va.getD i 0 = x0 at *
      generalize vl.getD i 0 = y0 at *
      replace rA := hide rA
      replace rL := hide rL
      have VX : IntKind.i64.wrap x0 = x0 := IntWalk.i64_in _ (by omega)
      have VY : IntKind.i64.wrap y0 = y0 := IntWalk.i64_in _ (by omega)
      have hTo := hT.out
      have hnA : ∀ k, wr.heap.size ≤ k → some k ≠ u12.ownBlock := fun k hk e => by have := (hTo.a.lt _ e.symm).2; omega
      have hnL : ∀ k, wr.heap.size ≤ k → some k ≠ u13.ownBlock := fun k hk e => by have := (hTo.l.lt _ e.symm).2; omega
      have hmA : ∀ k, k < w1.heap.size → some k ≠ u12.ownBlock := fun k hk e => by have := (hTo.a.lt _ e.symm).1; omega
      have hmL : ∀ k, k < w1.heap.size → some k ≠ u13.ownBlock := fun k hk e => by have := (hTo.l.lt _ e.symm).1; omega
      have hba1 : ba < w1.heap.size := by omega
      have hbl1 : bl < w1.heap.size := by omega
      have hba2 : ba < wr.heap.size := by omega
      have hbl2 : bl < wr.heap.size := by omega
      have hbaw : ¬ ba = wr.heap.size := by omega
      have hblw : ¬ bl = wr.heap.size := by omega
      have hbaw1 : ¬ ba = wr.heap.size + 1 := by omega
      have hblw1 : ¬ bl = wr.heap.size + 1 := by omega
      replace hnA := hide hnA
      replace hnL := hide hnL
      replace hmA := hide hmA
      replace hmL := hide hmL
      clear hTo hca' hcl' hva hvl cF cO cK
      go_wp2
      go_region_held3 (fun W => W.cell? ⟨ba, oa + i, none⟩ = some (.int .u8 x0) ∧ W.cell? ⟨bl, ol + i, none⟩ = some (.int .u8 y0))
        (first
          | go_keep
          | (refine ⟨?_, ?_⟩ <;> (first
              | (rw [World.cell?_of_block (hg9.out.block _ (by simp; omega) (by first | exact hmA.out _ (by assumption) | exact hmL.out _ (by assumption)))]; simp [*]; done)
              | (rw [World.cell?_of_block (hg8.out.block _ (by simp; omega) (by first | exact hmA.out _ (by assumption) | exact hmL.out _ (by assumption)))]; simp [*]; done))))
        (first
          | (refine step_two2 (.tmp 69) (.tmp 75) 36 w1 3 (.int .i64 0) 8 Tryd.underlying36 info_int8 rfl (.slice (some ⟨g1, 0, none⟩) (i + 1) cap1) u13 (i + 1) i (((rowQ8 (fun k => va.getD k 0) i).map (Value.int .i64)) ++ [.int .i64 x0]) ((rowQ8 (fun k => vl.getD k 0) i).map (Value.int .i64)) (.int .i64 y0) rfl (by simp only [maxLen]; omega) (by omega) ?_; refine ⟨⟨rfl, rfl, rfl, (by first | exact hT8.out | exact hT8.out.alloc _), ⟨_, rfl, (by first | (simp; done) | (rw [World.cell?_of_block (hg8.out.block _ (by simp <;> omega) (hnA.out _ (by simp <;> omega)))]; simp; done))⟩⟩, ?_⟩; intro v' w9 hT9 hg9 hv9; obtain ⟨g2, cap2, rfl⟩ := hv9; have hz9 := hT9.bel.size; replace hT9 := hide hT9; replace hg9 := hide hg9)
          | (refine step_two (.tmp 61) (.tmp 67) 36 w1 3 (.int .i64 0) 8 Tryd.underlying36 info_int8 rfl u12 (.slice (some ⟨g2, 0, none⟩) (i + 1) cap2) i (i + 1) ((rowQ8 (fun k => va.getD k 0) i).map (Value.int .i64)) (((rowQ8 (fun k => vl.getD k 0) i).map (Value.int .i64)) ++ [.int .i64 y0]) (.int .i64 x0) rfl (by simp only [maxLen]; omega) (by omega) ?_; refine ⟨⟨rfl, rfl, rfl, (by first | exact hT9.out | exact hT9.out.alloc _), ⟨_, rfl, (by first | (simp; done) | (rw [World.cell?_of_block (hg9.out.block _ (by simp <;> omega) (hnL.out _ (by simp <;> omega)))]; simp; done))⟩⟩, ?_⟩; intro v' w8 hT8 hg8 hv8; obtain ⟨g1, cap1, rfl⟩ := hv8; have hz8 := hT8.bel.size; replace hT8 := hide hT8; replace hg8 := hide hg8)
          | (refine step_two (.tmp 61) (.tmp 67) 36 w1 3 (.int .i64 0) 8 Tryd.underlying36 info_int8 rfl u12 u13 i i ((rowQ8 (fun k => va.getD k 0) i).map (Value.int .i64)) ((rowQ8 (fun k => vl.getD k 0) i).map (Value.int .i64)) (.int .i64 x0) rfl (by simp only [maxLen]; omega) (by omega) ?_; refine ⟨⟨rfl, rfl, rfl, (by first | exact (hT.out.drew).alloc _ | exact ((hT.out.drew).alloc _).alloc _), ⟨_, rfl, (by simp)⟩⟩, ?_⟩; intro v' w8 hT8 hg8 hv8; obtain ⟨g1, cap1, rfl⟩ := hv8; have hz8 := hT8.bel.size; replace hT8 := hide hT8; replace hg8 := hide hg8)
          | (refine step_two2 (.tmp 69) (.tmp 75) 36 w1 3 (.int .i64 0) 8 Tryd.underlying36 info_int8 rfl u12 u13 i i ((rowQ8 (fun k => va.getD k 0) i).map (Value.int .i64)) ((rowQ8 (fun k => vl.getD k 0) i).map (Value.int .i64)) (.int .i64 y0) rfl (by simp only [maxLen]; omega) (by omega) ?_; refine ⟨⟨rfl, rfl, rfl, (by first | exact (hT.out.drew).alloc _ | exact ((hT.out.drew).alloc _).alloc _), ⟨_, rfl, (by simp)⟩⟩, ?_⟩; intro v' w9 hT9 hg9 hv9; obtain ⟨g2, cap2, rfl⟩ := hv9; have hz9 := hT9.bel.size; replace hT9 := hide hT9; replace hg9 := hide hg9))
      all_goals
        go_wp2
        go_roundg k
        case measure => omega
        case rel => exact ⟨i + 1, by omega, by go_num, by rw [rA.out, rL.out, List.map_append, List.map_append]; first | exact hT9.out | exact hT8.out⟩

set_option maxRecDepth 100000 in
set_option maxHeartbeats 4000000 in
theorem largeDCTop (Aa Al : Option Addr) (ca cl B : Nat) (cv : Int) (va vl : List Int) (w : World) (hB : B ≤ w.heap.size) (hla : va.length = 8) (hll : vl.length = 8) (hcv : 0 ≤ cv ∧ cv ≤ 255) (hva : ∀ k, 0 ≤ va.getD k 0 ∧ va.getD k 0 ≤ 255) (hvl : ∀ k, 0 ≤ vl.getD k 0 ∧ vl.getD k 0 ≤ 255) (hra : Rd .u8 w B Aa va) (hrl : Rd .u8 w B Al vl) :
    Calls Tryd.prog 17 #[.int .i64 8, .int .i64 10, .int .i64 cv, .slice Aa 8 ca, .slice Al 8 cl] w fun e w' => ∃ s, e = .returned s ∧ w'.ownsRow w.heap.size 5 1 s 64 ((rowQ8 (fun q => (fun a b => (4 + sum8 (fun k => vl.getD k 0) 8) / 8) (q / 8) (q % 8)) 64).map (Value.int .u8)) ∧ Below w.heap.size w w' := by
  obtain ⟨ba, oa, rfl, hba, hca⟩ := hra.at_ (j := 0) (by omega)
  obtain ⟨bl, ol, rfl, hbl, hcl⟩ := hrl.at_ (j := 0) (by omega)
  obtain ⟨hcv1, hcv2⟩ := hcv
  have hIn : Blk (w.alloc (.cells #[.bool false, .bool true] 51)) w.heap.size 51 #[.bool false, .bool true] := Blk.new w _ _
  have hb1 := (Below.refl w.heap.size w).alloc (Nat.le_refl _) (.cells #[.bool false, .bool true] 51)
  have hsz1 : (w.alloc (.cells #[.bool false, .bool true] 51)).heap.size = w.heap.size + 1 := by simp
  have hsA8 := sum8_bd (fun k => va.getD k 0) hva 8
  have hsL8 := sum8_bd (fun k => vl.getD k 0) hvl 8
  have hca' : ∀ j, j < 8 → (w.alloc (.cells #[.bool false, .bool true] 51)).cell? ⟨ba, oa + j, none⟩ = some (.int .u8 (va.getD j 0)) := fun j hj => (hb1.cell (p := ⟨ba, oa + j, none⟩) (by show ba < _; omega)).trans (hca j (by omega))
  have hcl' : ∀ j, j < 8 → (w.alloc (.cells #[.bool false, .bool true] 51)).cell? ⟨bl, ol + j, none⟩ = some (.int .u8 (vl.getD j 0)) := fun j hj => (hb1.cell (p := ⟨bl, ol + j, none⟩) (by show bl < _; omega)).trans (hcl j (by omega))
  have hba' : ba < w.heap.size := by omega
  have hbl' : bl < w.heap.size := by omega
  have hGb : ∀ k, 0 ≤ (rowQ8 (fun q => (fun a b => (4 + sum8 (fun k => vl.getD k 0) 8) / 8) (q / 8) (q % 8)) 64).getD k 0 ∧ (rowQ8 (fun q => (fun a b => (4 + sum8 (fun k => vl.getD k 0) 8) / 8) (q / 8) (q % 8)) 64).getD k 0 ≤ 255 := by
    intro k
    by_cases hk : k < 64
    · have e : (rowQ8 (fun q => (fun a b => (4 + sum8 (fun k => vl.getD k 0) 8) / 8) (q / 8) (q % 8)) 64).getD k 0 = (fun a b => (4 + sum8 (fun k => vl.getD k 0) 8) / 8) (k / 8) (k % 8) := by simp [rowQ8, hk]
      rw [e]
      show 0 ≤ (4 + sum8 (fun k => vl.getD k 0) 8) / 8 ∧ (4 + sum8 (fun k => vl.getD k 0) 8) / 8 ≤ 255
      have := hsL8; omega
    · have e : (rowQ8 (fun q => (fun a b => (4 + sum8 (fun k => vl.getD k 0) 8) / 8) (q / 8) (q % 8)) 64).getD k 0 = 0 := by simp [rowQ8, hk]
      rw [e]
      omega
  have hG64 := rowQ8_len (fun q => (fun a b => (4 + sum8 (fun k => vl.getD k 0) 8) / 8) (q / 8) (q % 8)) 64
  have cF := fun (W : World) (B : Nat) (Aa Al : Option Addr) (ca cl : Nat) hB hra hrl => foretoldDCTop Aa Al ca cl B cv va vl W hB hla hll ⟨hcv1, hcv2⟩ hva hvl hra hrl
  have cO := fun (W : World) (A : Option Addr) (c : Nat) (hr : Rd .i64 W W.heap.size A (rowQ8 (fun q => (fun a b => (4 + sum8 (fun k => vl.getD k 0) 8) / 8) (q / 8) (q % 8)) 64)) => bytesOf_any A c W.heap.size _ W (by rw [hG64]; decide) (Nat.le_refl _) hGb hr
  rw [hG64] at cO
  have cK := fun W => byteOf_any cv W
  have hK : clp8 cv = cv := by unfold clp8; rw [if_neg (by omega), if_neg (by omega)]
  rw [hK] at cK
  clear hca hcl hra hrl hba hbl hB hsA8 hsL8 hGb hG64 hK
  replace hca' := hide hca'
  replace hcl' := hide hcl'
  replace hva := hide hva
  replace hvl := hide hvl
  replace hla := hide hla
  replace hll := hide hll
  replace hb1 := hide hb1
  replace hIn := hide hIn
  replace hsz1 := hide hsz1
  replace cF := hide cF
  replace cO := hide cO
  replace cK := hide cK
  generalize hRL : rowQ8 (fun q => (fun a b => (4 + sum8 (fun k => vl.getD k 0) 8) / 8) (q / 8) (q % 8)) 64 = RL at *
  replace hRL := hide hRL
  go_enter Tryd.func17, Tryd.ntmps17
  go_wp2
  generalize hw1 : w.alloc (.cells #[.bool false, .bool true] 51) = w1 at *
  replace hw1 := hide hw1
  go_loopg [12, 13, 14] 8 (fun k ua ul ui wr => ∃ i : Nat, k + i = 8 ∧ ui = .int .i64 i ∧ Two w1 wr 3 ua ul i i ((rowQ8 (fun k => va.getD k 0) i).map (Value.int .i64)) ((rowQ8 (fun k => vl.getD k 0) i).map (Value.int .i64)))
  case atStart => exact ⟨0, rfl, rfl, Two.start w1 _⟩
  case round =>
    obtain ⟨i, hi, rfl, hT⟩ := hrel
    have hbel := hT.bel
    have hsz2 := hbel.size
    replace hT := hide hT
    replace hbel := hide hbel
    cases gk with
    | zero =>
      have hi8 : i = 8 := by omega
      subst hi8
      have hTo := hT.out
      rw [rowQ8_self va 8 hla.out, rowQ8_self vl 8 hll.out] at hTo
      obtain ⟨A1, c1, rfl, _, _⟩ := own_len hTo.a
      obtain ⟨A2, c2, rfl, _, _⟩ := own_len hTo.l
      have hrA := hide ((Rd.ofOwn hTo.a).drew)
      have hrL := hide ((Rd.ofOwn hTo.l).drew)
      have hle : Hid (wr.heap.size ≤ wr.drew.heap.size) := hide (Nat.le_refl _)
      have hbr := hide (hbel.out.drew)
      have hIn2 := hIn.out.below hbel.out (by have := hsz1.out; omega)
      have hI0 := hIn2.cell 0
      have hI1 := hIn2.cell 1
      simp only [List.getElem?_toArray, List.getElem?_cons_zero, List.getElem?_cons_succ] at hI0 hI1
      have hblk : w.heap.size < wr.heap.size := by have := hsz1.out; omega
      have hRLn : Hid (RL = rowQ8 (fun q => (fun a b => (4 + sum8 (fun k => vl.getD k 0) 8) / 8) (q / 8) (q % 8)) 64) := hide hRL.out.symm
      clear hTo hT hIn2 hca' hcl' hva hvl hIn hbel
      go_wp2
      go_region_held3 (fun W => W.cell? ⟨w.heap.size, 0, none⟩ = some (.bool false) ∧ W.cell? ⟨w.heap.size, 1, none⟩ = some (.bool true))
        (first
          | go_keep
          | exact ⟨(hb8.out.cell (p := ⟨w.heap.size, 0, none⟩) hblk).trans hI0, (hb8.out.cell (p := ⟨w.heap.size, 1, none⟩) hblk).trans hI1⟩
          | exact ⟨((hb9.out.cell (p := ⟨w.heap.size, 0, none⟩) (Nat.lt_of_lt_of_le hblk hb8.out.size)).trans (hb8.out.cell (p := ⟨w.heap.size, 0, none⟩) hblk)).trans hI0, ((hb9.out.cell (p := ⟨w.heap.size, 1, none⟩) (Nat.lt_of_lt_of_le hblk hb8.out.size)).trans (hb8.out.cell (p := ⟨w.heap.size, 1, none⟩) hblk)).trans hI1⟩)
        (first
          | (go_at_call 30; (with_reducible refine (cK.out _).mono ?_); rintro e w' ⟨rfl, rfl⟩)
          | (go_at_call 29; (with_reducible refine (cF.out _ _ _ _ _ _ hle.out hrA.out hrL.out).mono ?_); rintro e w8 ⟨s8, rfl, ho8, hb8⟩; obtain ⟨A8, c8, rfl, _, _⟩ := own_len ho8; replace ho8 := hide (Rd.ofOwn ho8); replace hb8 := hide hb8)
          | (go_at_call 28; (with_reducible refine (cO.out _ _ _ ho8.out).mono ?_); rintro e w9 ⟨s9, rfl, ho9, hb9⟩; replace ho9 := hide ho9; replace hb9 := hide hb9))
      have z1 := hb1.out.size
      have z3 : wr.heap.size ≤ w8.heap.size := hb8.out.size
      go_wp2
      go_ret
      exact ⟨_, rfl, own_down ho9.out (by omega), hb1.out.trans ((hbr.out.trans ((hb8.out.trans (hb9.out.mono (by exact z3))).mono (by exact hsz2))).mono (by omega))⟩
    | succ k =>
      have hin : i < 8 := by omega
      have hii : (i : Int) < 8 := by omega
      have hi0 : (0 : Int) ≤ (i : Int) := by omega
      have hs1 := hb1.out.size
      have ka := (hbel.out.cell (p := ⟨ba, oa + i, none⟩) (by show ba < _; omega)).trans (hca'.out i hin)
      have kl := (hbel.out.cell (p := ⟨bl, ol + i, none⟩) (by show bl < _; omega)).trans (hcl'.out i hin)
      have bx := hva.out i
      have by' := hvl.out i
      have rA := rowQ8_succ (fun k => va.getD k 0) i
      have rL := rowQ8_succ (fun k => vl.getD k 0) i
      generalize va.getD i 0 = x0 at *
      generalize vl.getD i 0 = y0 at *
      replace rA := hide rA
      replace rL := hide rL
      have VX : IntKind.i64.wrap x0 = x0 := IntWalk.i64_in _ (by omega)
      have VY : IntKind.i64.wrap y0 = y0 := IntWalk.i64_in _ (by omega)
      have hTo := hT.out
      have hnA : ∀ k, wr.heap.size ≤ k → some k ≠ u12.ownBlock := fun k hk e => by have := (hTo.a.lt _ e.symm).2; omega
      have hnL : ∀ k, wr.heap.size ≤ k → some k ≠ u13.ownBlock := fun k hk e => by have := (hTo.l.lt _ e.symm).2; omega
      have hmA : ∀ k, k < w1.heap.size → some k ≠ u12.ownBlock := fun k hk e => by have := (hTo.a.lt _ e.symm).1; omega
      have hmL : ∀ k, k < w1.heap.size → some k ≠ u13.ownBlock := fun k hk e => by have := (hTo.l.lt _ e.symm).1; omega
      have hba1 : ba < w1.heap.size := by omega
      have hbl1 : bl < w1.heap.size := by omega
      have hba2 : ba < wr.heap.size := by omega
      have hbl2 : bl < wr.heap.size := by omega
      have hbaw : ¬ ba = wr.heap.size := by omega
      have hblw : ¬ bl = wr.heap.size := by omega
      have hbaw1 : ¬ ba = wr.heap.size + 1 := by omega
      have hblw1 : ¬ bl = wr.heap.size + 1 := by omega
      replace hnA := hide hnA
      replace hnL := hide hnL
      replace hmA := hide hmA
      replace hmL := hide hmL
      clear hTo hca' hcl' hva hvl cF cO cK
      go_wp2
      go_region_held3 (fun W => W.cell? ⟨ba, oa + i, none⟩ = some (.int .u8 x0) ∧ W.cell? ⟨bl, ol + i, none⟩ = some (.int .u8 y0))
        (first
          | go_keep
          | (refine ⟨?_, ?_⟩ <;> (first
              | (rw [World.cell?_of_block (hg9.out.block _ (by simp; omega) (by first | exact hmA.out _ (by assumption) | exact hmL.out _ (by assumption)))]; simp [*]; done)
              | (rw [World.cell?_of_block (hg8.out.block _ (by simp; omega) (by first | exact hmA.out _ (by assumption) | exact hmL.out _ (by assumption)))]; simp [*]; done))))
        (first
          | (refine step_two2 (.tmp 69) (.tmp 75) 36 w1 3 (.int .i64 0) 8 Tryd.underlying36 info_int8 rfl (.slice (some ⟨g1, 0, none⟩) (i + 1) cap1) u13 (i + 1) i (((rowQ8 (fun k => va.getD k 0) i).map (Value.int .i64)) ++ [.int .i64 x0]) ((rowQ8 (fun k => vl.getD k 0) i).map (Value.int .i64)) (.int .i64 y0) rfl (by simp only [maxLen]; omega) (by omega) ?_; refine ⟨⟨rfl, rfl, rfl, (by first | exact hT8.out | exact hT8.out.alloc _), ⟨_, rfl, (by first | (simp; done) | (rw [World.cell?_of_block (hg8.out.block _ (by simp <;> omega) (hnA.out _ (by simp <;> omega)))]; simp; done))⟩⟩, ?_⟩; intro v' w9 hT9 hg9 hv9; obtain ⟨g2, cap2, rfl⟩ := hv9; have hz9 := hT9.bel.size; replace hT9 := hide hT9; replace hg9 := hide hg9)
          | (refine step_two (.tmp 61) (.tmp 67) 36 w1 3 (.int .i64 0) 8 Tryd.underlying36 info_int8 rfl u12 (.slice (some ⟨g2, 0, none⟩) (i + 1) cap2) i (i + 1) ((rowQ8 (fun k => va.getD k 0) i).map (Value.int .i64)) (((rowQ8 (fun k => vl.getD k 0) i).map (Value.int .i64)) ++ [.int .i64 y0]) (.int .i64 x0) rfl (by simp only [maxLen]; omega) (by omega) ?_; refine ⟨⟨rfl, rfl, rfl, (by first | exact hT9.out | exact hT9.out.alloc _), ⟨_, rfl, (by first | (simp; done) | (rw [World.cell?_of_block (hg9.out.block _ (by simp <;> omega) (hnL.out _ (by simp <;> omega)))]; simp; done))⟩⟩, ?_⟩; intro v' w8 hT8 hg8 hv8; obtain ⟨g1, cap1, rfl⟩ := hv8; have hz8 := hT8.bel.size; replace hT8 := hide hT8; replace hg8 := hide hg8)
          | (refine step_two (.tmp 61) (.tmp 67) 36 w1 3 (.int .i64 0) 8 Tryd.underlying36 info_int8 rfl u12 u13 i i ((rowQ8 (fun k => va.getD k 0) i).map (Value.int .i64)) ((rowQ8 (fun k => vl.getD k 0) i).map (Value.int .i64)) (.int .i64 x0) rfl (by simp only [maxLen]; omega) (by omega) ?_; refine ⟨⟨rfl, rfl, rfl, (by first | exact (hT.out.drew).alloc _ | exact ((hT.out.drew).alloc _).alloc _), ⟨_, rfl, (by simp)⟩⟩, ?_⟩; intro v' w8 hT8 hg8 hv8; obtain ⟨g1, cap1, rfl⟩ := hv8; have hz8 := hT8.bel.size; replace hT8 := hide hT8; replace hg8 := hide hg8)
          | (refine step_two2 (.tmp 69) (.tmp 75) 36 w1 3 (.int .i64 0) 8 Tryd.underlying36 info_int8 rfl u12 u13 i i ((rowQ8 (fun k => va.getD k 0) i).map (Value.int .i64)) ((rowQ8 (fun k => vl.getD k 0) i).map (Value.int .i64)) (.int .i64 y0) rfl (by simp only [maxLen]; omega) (by omega) ?_; refine ⟨⟨rfl, rfl, rfl, (by first | exact (hT.out.drew).alloc _ | exact ((hT.out.drew).alloc _).alloc _), ⟨_, rfl, (by simp)⟩⟩, ?_⟩; intro v' w9 hT9 hg9 hv9; obtain ⟨g2, cap2, rfl⟩ := hv9; have hz9 := hT9.bel.size; replace hT9 := hide hT9; replace hg9 := hide hg9))
      all_goals
        go_wp2
        go_roundg k
        case measure => omega
        case rel => exact ⟨i + 1, by omega, by go_num, by rw [rA.out, rL.out, List.map_append, List.map_append]; first | exact hT9.out | exact hT8.out⟩

set_option maxRecDepth 100000 in
set_option maxHeartbeats 4000000 in
theorem largeDCLeft (Aa Al : Option Addr) (ca cl B : Nat) (cv : Int) (va vl : List Int) (w : World) (hB : B ≤ w.heap.size) (hla : va.length = 8) (hll : vl.length = 8) (hcv : 0 ≤ cv ∧ cv ≤ 255) (hva : ∀ k, 0 ≤ va.getD k 0 ∧ va.getD k 0 ≤ 255) (hvl : ∀ k, 0 ≤ vl.getD k 0 ∧ vl.getD k 0 ≤ 255) (hra : Rd .u8 w B Aa va) (hrl : Rd .u8 w B Al vl) :
    Calls Tryd.prog 17 #[.int .i64 8, .int .i64 11, .int .i64 cv, .slice Aa 8 ca, .slice Al 8 cl] w fun e w' => ∃ s, e = .returned s ∧ w'.ownsRow w.heap.size 5 1 s 64 ((rowQ8 (fun q => (fun a b => (4 + sum8 (fun k => va.getD k 0) 8) / 8) (q / 8) (q % 8)) 64).map (Value.int .u8)) ∧ Below w.heap.size w w' := by
  obtain ⟨ba, oa, rfl, hba, hca⟩ := hra.at_ (j := 0) (by omega)
  obtain ⟨bl, ol, rfl, hbl, hcl⟩ := hrl.at_ (j := 0) (by omega)
  obtain ⟨hcv1, hcv2⟩ := hcv
  have hIn : Blk (w.alloc (.cells #[.bool true, .bool false] 51)) w.heap.size 51 #[.bool true, .bool false] := Blk.new w _ _
  have hb1 := (Below.refl w.heap.size w).alloc (Nat.le_refl _) (.cells #[.bool true, .bool false] 51)
  have hsz1 : (w.alloc (.cells #[.bool true, .bool false] 51)).heap.size = w.heap.size + 1 := by simp
  have hsA8 := sum8_bd (fun k => va.getD k 0) hva 8
  have hsL8 := sum8_bd (fun k => vl.getD k 0) hvl 8
  have hca' : ∀ j, j < 8 → (w.alloc (.cells #[.bool true, .bool false] 51)).cell? ⟨ba, oa + j, none⟩ = some (.int .u8 (va.getD j 0)) := fun j hj => (hb1.cell (p := ⟨ba, oa + j, none⟩) (by show ba < _; omega)).trans (hca j (by omega))
  have hcl' : ∀ j, j < 8 → (w.alloc (.cells #[.bool true, .bool false] 51)).cell? ⟨bl, ol + j, none⟩ = some (.int .u8 (vl.getD j 0)) := fun j hj => (hb1.cell (p := ⟨bl, ol + j, none⟩) (by show bl < _; omega)).trans (hcl j (by omega))
  have hba' : ba < w.heap.size := by omega
  have hbl' : bl < w.heap.size := by omega
  have hGb : ∀ k, 0 ≤ (rowQ8 (fun q => (fun a b => (4 + sum8 (fun k => va.getD k 0) 8) / 8) (q / 8) (q % 8)) 64).getD k 0 ∧ (rowQ8 (fun q => (fun a b => (4 + sum8 (fun k => va.getD k 0) 8) / 8) (q / 8) (q % 8)) 64).getD k 0 ≤ 255 := by
    intro k
    by_cases hk : k < 64
    · have e : (rowQ8 (fun q => (fun a b => (4 + sum8 (fun k => va.getD k 0) 8) / 8) (q / 8) (q % 8)) 64).getD k 0 = (fun a b => (4 + sum8 (fun k => va.getD k 0) 8) / 8) (k / 8) (k % 8) := by simp [rowQ8, hk]
      rw [e]
      show 0 ≤ (4 + sum8 (fun k => va.getD k 0) 8) / 8 ∧ (4 + sum8 (fun k => va.getD k 0) 8) / 8 ≤ 255
      have := hsA8; omega
    · have e : (rowQ8 (fun q => (fun a b => (4 + sum8 (fun k => va.getD k 0) 8) / 8) (q / 8) (q % 8)) 64).getD k 0 = 0 := by simp [rowQ8, hk]
      rw [e]
      omega
  have hG64 := rowQ8_len (fun q => (fun a b => (4 + sum8 (fun k => va.getD k 0) 8) / 8) (q / 8) (q % 8)) 64
  have cF := fun (W : World) (B : Nat) (Aa Al : Option Addr) (ca cl : Nat) hB hra hrl => foretoldDCLeft Aa Al ca cl B cv va vl W hB hla hll ⟨hcv1, hcv2⟩ hva hvl hra hrl
  have cO := fun (W : World) (A : Option Addr) (c : Nat) (hr : Rd .i64 W W.heap.size A (rowQ8 (fun q => (fun a b => (4 + sum8 (fun k => va.getD k 0) 8) / 8) (q / 8) (q % 8)) 64)) => bytesOf_any A c W.heap.size _ W (by rw [hG64]; decide) (Nat.le_refl _) hGb hr
  rw [hG64] at cO
  have cK := fun W => byteOf_any cv W
  have hK : clp8 cv = cv := by unfold clp8; rw [if_neg (by omega), if_neg (by omega)]
  rw [hK] at cK
  clear hca hcl hra hrl hba hbl hB hsA8 hsL8 hGb hG64 hK
  replace hca' := hide hca'
  replace hcl' := hide hcl'
  replace hva := hide hva
  replace hvl := hide hvl
  replace hla := hide hla
  replace hll := hide hll
  replace hb1 := hide hb1
  replace hIn := hide hIn
  replace hsz1 := hide hsz1
  replace cF := hide cF
  replace cO := hide cO
  replace cK := hide cK
  generalize hRL : rowQ8 (fun q => (fun a b => (4 + sum8 (fun k => va.getD k 0) 8) / 8) (q / 8) (q % 8)) 64 = RL at *
  replace hRL := hide hRL
  go_enter Tryd.func17, Tryd.ntmps17
  go_wp2
  generalize hw1 : w.alloc (.cells #[.bool true, .bool false] 51) = w1 at *
  replace hw1 := hide hw1
  go_loopg [12, 13, 14] 8 (fun k ua ul ui wr => ∃ i : Nat, k + i = 8 ∧ ui = .int .i64 i ∧ Two w1 wr 3 ua ul i i ((rowQ8 (fun k => va.getD k 0) i).map (Value.int .i64)) ((rowQ8 (fun k => vl.getD k 0) i).map (Value.int .i64)))
  case atStart => exact ⟨0, rfl, rfl, Two.start w1 _⟩
  case round =>
    obtain ⟨i, hi, rfl, hT⟩ := hrel
    have hbel := hT.bel
    have hsz2 := hbel.size
    replace hT := hide hT
    replace hbel := hide hbel
    cases gk with
    | zero =>
      have hi8 : i = 8 := by omega
      subst hi8
      have hTo := hT.out
      rw [rowQ8_self va 8 hla.out, rowQ8_self vl 8 hll.out] at hTo
      obtain ⟨A1, c1, rfl, _, _⟩ := own_len hTo.a
      obtain ⟨A2, c2, rfl, _, _⟩ := own_len hTo.l
      have hrA := hide ((Rd.ofOwn hTo.a).drew)
      have hrL := hide ((Rd.ofOwn hTo.l).drew)
      have hle : Hid (wr.heap.size ≤ wr.drew.heap.size) := hide (Nat.le_refl _)
      have hbr := hide (hbel.out.drew)
      have hIn2 := hIn.out.below hbel.out (by have := hsz1.out; omega)
      have hI0 := hIn2.cell 0
      have hI1 := hIn2.cell 1
      simp only [List.getElem?_toArray, List.getElem?_cons_zero, List.getElem?_cons_succ] at hI0 hI1
      have hblk : w.heap.size < wr.heap.size := by have := hsz1.out; omega
      have hRLn : Hid (RL = rowQ8 (fun q => (fun a b => (4 + sum8 (fun k => va.getD k 0) 8) / 8) (q / 8) (q % 8)) 64) := hide hRL.out.symm
      clear hTo hT hIn2 hca' hcl' hva hvl hIn hbel
      go_wp2
      go_region_held3 (fun W => W.cell? ⟨w.heap.size, 0, none⟩ = some (.bool true) ∧ W.cell? ⟨w.heap.size, 1, none⟩ = some (.bool false))
        (first
          | go_keep
          | exact ⟨(hb8.out.cell (p := ⟨w.heap.size, 0, none⟩) hblk).trans hI0, (hb8.out.cell (p := ⟨w.heap.size, 1, none⟩) hblk).trans hI1⟩
          | exact ⟨((hb9.out.cell (p := ⟨w.heap.size, 0, none⟩) (Nat.lt_of_lt_of_le hblk hb8.out.size)).trans (hb8.out.cell (p := ⟨w.heap.size, 0, none⟩) hblk)).trans hI0, ((hb9.out.cell (p := ⟨w.heap.size, 1, none⟩) (Nat.lt_of_lt_of_le hblk hb8.out.size)).trans (hb8.out.cell (p := ⟨w.heap.size, 1, none⟩) hblk)).trans hI1⟩)
        (first
          | (go_at_call 30; (with_reducible refine (cK.out _).mono ?_); rintro e w' ⟨rfl, rfl⟩)
          | (go_at_call 29; (with_reducible refine (cF.out _ _ _ _ _ _ hle.out hrA.out hrL.out).mono ?_); rintro e w8 ⟨s8, rfl, ho8, hb8⟩; obtain ⟨A8, c8, rfl, _, _⟩ := own_len ho8; replace ho8 := hide (Rd.ofOwn ho8); replace hb8 := hide hb8)
          | (go_at_call 28; (with_reducible refine (cO.out _ _ _ ho8.out).mono ?_); rintro e w9 ⟨s9, rfl, ho9, hb9⟩; replace ho9 := hide ho9; replace hb9 := hide hb9))
      have z1 := hb1.out.size
      have z3 : wr.heap.size ≤ w8.heap.size := hb8.out.size
      go_wp2
      go_ret
      exact ⟨_, rfl, own_down ho9.out (by omega), hb1.out.trans ((hbr.out.trans ((hb8.out.trans (hb9.out.mono (by exact z3))).mono (by exact hsz2))).mono (by omega))⟩
    | succ k =>
      have hin : i < 8 := by omega
      have hii : (i : Int) < 8 := by omega
      have hi0 : (0 : Int) ≤ (i : Int) := by omega
      have hs1 := hb1.out.size
      have ka := (hbel.out.cell (p := ⟨ba, oa + i, none⟩) (by show ba < _; omega)).trans (hca'.out i hin)
      have kl := (hbel.out.cell (p := ⟨bl, ol + i, none⟩) (by show bl < _; omega)).trans (hcl'.out i hin)
      have bx := hva.out i
      have by' := hvl.out i
      have rA := rowQ8_succ (fun k => va.getD k 0) i
      have rL := rowQ8_succ (fun k => vl.getD k 0) i
      generalize va.getD i 0 = x0 at *
      generalize vl.getD i 0 = y0 at *
      replace rA := hide rA
      replace rL := hide rL
      have VX : IntKind.i64.wrap x0 = x0 := IntWalk.i64_in _ (by omega)
      have VY : IntKind.i64.wrap y0 = y0 := IntWalk.i64_in _ (by omega)
      have hTo := hT.out
      have hnA : ∀ k, wr.heap.size ≤ k → some k ≠ u12.ownBlock := fun k hk e => by have := (hTo.a.lt _ e.symm).2; omega
      have hnL : ∀ k, wr.heap.size ≤ k → some k ≠ u13.ownBlock := fun k hk e => by have := (hTo.l.lt _ e.symm).2; omega
      have hmA : ∀ k, k < w1.heap.size → some k ≠ u12.ownBlock := fun k hk e => by have := (hTo.a.lt _ e.symm).1; omega
      have hmL : ∀ k, k < w1.heap.size → some k ≠ u13.ownBlock := fun k hk e => by have := (hTo.l.lt _ e.symm).1; omega
      have hba1 : ba < w1.heap.size := by omega
      have hbl1 : bl < w1.heap.size := by omega
      have hba2 : ba < wr.heap.size := by omega
      have hbl2 : bl < wr.heap.size := by omega
      have hbaw : ¬ ba = wr.heap.size := by omega
      have hblw : ¬ bl = wr.heap.size := by omega
      have hbaw1 : ¬ ba = wr.heap.size + 1 := by omega
      have hblw1 : ¬ bl = wr.heap.size + 1 := by omega
      replace hnA := hide hnA
      replace hnL := hide hnL
      replace hmA := hide hmA
      replace hmL := hide hmL
      clear hTo hca' hcl' hva hvl cF cO cK
      go_wp2
      go_region_held3 (fun W => W.cell? ⟨ba, oa + i, none⟩ = some (.int .u8 x0) ∧ W.cell? ⟨bl, ol + i, none⟩ = some (.int .u8 y0))
        (first
          | go_keep
          | (refine ⟨?_, ?_⟩ <;> (first
              | (rw [World.cell?_of_block (hg9.out.block _ (by simp; omega) (by first | exact hmA.out _ (by assumption) | exact hmL.out _ (by assumption)))]; simp [*]; done)
              | (rw [World.cell?_of_block (hg8.out.block _ (by simp; omega) (by first | exact hmA.out _ (by assumption) | exact hmL.out _ (by assumption)))]; simp [*]; done))))
        (first
          | (refine step_two2 (.tmp 69) (.tmp 75) 36 w1 3 (.int .i64 0) 8 Tryd.underlying36 info_int8 rfl (.slice (some ⟨g1, 0, none⟩) (i + 1) cap1) u13 (i + 1) i (((rowQ8 (fun k => va.getD k 0) i).map (Value.int .i64)) ++ [.int .i64 x0]) ((rowQ8 (fun k => vl.getD k 0) i).map (Value.int .i64)) (.int .i64 y0) rfl (by simp only [maxLen]; omega) (by omega) ?_; refine ⟨⟨rfl, rfl, rfl, (by first | exact hT8.out | exact hT8.out.alloc _), ⟨_, rfl, (by first | (simp; done) | (rw [World.cell?_of_block (hg8.out.block _ (by simp <;> omega) (hnA.out _ (by simp <;> omega)))]; simp; done))⟩⟩, ?_⟩; intro v' w9 hT9 hg9 hv9; obtain ⟨g2, cap2, rfl⟩ := hv9; have hz9 := hT9.bel.size; replace hT9 := hide hT9; replace hg9 := hide hg9)
          | (refine step_two (.tmp 61) (.tmp 67) 36 w1 3 (.int .i64 0) 8 Tryd.underlying36 info_int8 rfl u12 (.slice (some ⟨g2, 0, none⟩) (i + 1) cap2) i (i + 1) ((rowQ8 (fun k => va.getD k 0) i).map (Value.int .i64)) (((rowQ8 (fun k => vl.getD k 0) i).map (Value.int .i64)) ++ [.int .i64 y0]) (.int .i64 x0) rfl (by simp only [maxLen]; omega) (by omega) ?_; refine ⟨⟨rfl, rfl, rfl, (by first | exact hT9.out | exact hT9.out.alloc _), ⟨_, rfl, (by first | (simp; done) | (rw [World.cell?_of_block (hg9.out.block _ (by simp <;> omega) (hnL.out _ (by simp <;> omega)))]; simp; done))⟩⟩, ?_⟩; intro v' w8 hT8 hg8 hv8; obtain ⟨g1, cap1, rfl⟩ := hv8; have hz8 := hT8.bel.size; replace hT8 := hide hT8; replace hg8 := hide hg8)
          | (refine step_two (.tmp 61) (.tmp 67) 36 w1 3 (.int .i64 0) 8 Tryd.underlying36 info_int8 rfl u12 u13 i i ((rowQ8 (fun k => va.getD k 0) i).map (Value.int .i64)) ((rowQ8 (fun k => vl.getD k 0) i).map (Value.int .i64)) (.int .i64 x0) rfl (by simp only [maxLen]; omega) (by omega) ?_; refine ⟨⟨rfl, rfl, rfl, (by first | exact (hT.out.drew).alloc _ | exact ((hT.out.drew).alloc _).alloc _), ⟨_, rfl, (by simp)⟩⟩, ?_⟩; intro v' w8 hT8 hg8 hv8; obtain ⟨g1, cap1, rfl⟩ := hv8; have hz8 := hT8.bel.size; replace hT8 := hide hT8; replace hg8 := hide hg8)
          | (refine step_two2 (.tmp 69) (.tmp 75) 36 w1 3 (.int .i64 0) 8 Tryd.underlying36 info_int8 rfl u12 u13 i i ((rowQ8 (fun k => va.getD k 0) i).map (Value.int .i64)) ((rowQ8 (fun k => vl.getD k 0) i).map (Value.int .i64)) (.int .i64 y0) rfl (by simp only [maxLen]; omega) (by omega) ?_; refine ⟨⟨rfl, rfl, rfl, (by first | exact (hT.out.drew).alloc _ | exact ((hT.out.drew).alloc _).alloc _), ⟨_, rfl, (by simp)⟩⟩, ?_⟩; intro v' w9 hT9 hg9 hv9; obtain ⟨g2, cap2, rfl⟩ := hv9; have hz9 := hT9.bel.size; replace hT9 := hide hT9; replace hg9 := hide hg9))
      all_goals
        go_wp2
        go_roundg k
        case measure => omega
        case rel => exact ⟨i + 1, by omega, by go_num, by rw [rA.out, rL.out, List.map_append, List.map_append]; first | exact hT9.out | exact hT8.out⟩

set_option maxRecDepth 100000 in
set_option maxHeartbeats 4000000 in
theorem largeDCTopLeft (Aa Al : Option Addr) (ca cl B : Nat) (cv : Int) (va vl : List Int) (w : World) (hB : B ≤ w.heap.size) (hla : va.length = 8) (hll : vl.length = 8) (hcv : 0 ≤ cv ∧ cv ≤ 255) (hva : ∀ k, 0 ≤ va.getD k 0 ∧ va.getD k 0 ≤ 255) (hvl : ∀ k, 0 ≤ vl.getD k 0 ∧ vl.getD k 0 ≤ 255) (hra : Rd .u8 w B Aa va) (hrl : Rd .u8 w B Al vl) :
    Calls Tryd.prog 17 #[.int .i64 8, .int .i64 12, .int .i64 cv, .slice Aa 8 ca, .slice Al 8 cl] w fun e w' => ∃ s, e = .returned s ∧ w'.ownsRow w.heap.size 5 1 s 64 ((rowQ8 (fun q => (fun a b => 128) (q / 8) (q % 8)) 64).map (Value.int .u8)) ∧ Below w.heap.size w w' := by
  obtain ⟨ba, oa, rfl, hba, hca⟩ := hra.at_ (j := 0) (by omega)
  obtain ⟨bl, ol, rfl, hbl, hcl⟩ := hrl.at_ (j := 0) (by omega)
  obtain ⟨hcv1, hcv2⟩ := hcv
  have hIn : Blk (w.alloc (.cells #[.bool false, .bool false] 51)) w.heap.size 51 #[.bool false, .bool false] := Blk.new w _ _
  have hb1 := (Below.refl w.heap.size w).alloc (Nat.le_refl _) (.cells #[.bool false, .bool false] 51)
  have hsz1 : (w.alloc (.cells #[.bool false, .bool false] 51)).heap.size = w.heap.size + 1 := by simp
  have hsA8 := sum8_bd (fun k => va.getD k 0) hva 8
  have hsL8 := sum8_bd (fun k => vl.getD k 0) hvl 8
  have hca' : ∀ j, j < 8 → (w.alloc (.cells #[.bool false, .bool false] 51)).cell? ⟨ba, oa + j, none⟩ = some (.int .u8 (va.getD j 0)) := fun j hj => (hb1.cell (p := ⟨ba, oa + j, none⟩) (by show ba < _; omega)).trans (hca j (by omega))
  have hcl' : ∀ j, j < 8 → (w.alloc (.cells #[.bool false, .bool false] 51)).cell? ⟨bl, ol + j, none⟩ = some (.int .u8 (vl.getD j 0)) := fun j hj => (hb1.cell (p := ⟨bl, ol + j, none⟩) (by show bl < _; omega)).trans (hcl j (by omega))
  have hba' : ba < w.heap.size := by omega
  have hbl' : bl < w.heap.size := by omega
  have hGb : ∀ k, 0 ≤ (rowQ8 (fun q => (fun a b => 128) (q / 8) (q % 8)) 64).getD k 0 ∧ (rowQ8 (fun q => (fun a b => 128) (q / 8) (q % 8)) 64).getD k 0 ≤ 255 := by
    intro k
    by_cases hk : k < 64
    · have e : (rowQ8 (fun q => (fun a b => 128) (q / 8) (q % 8)) 64).getD k 0 = (fun a b => 128) (k / 8) (k % 8) := by simp [rowQ8, hk]
      rw [e]
      show 0 ≤ 128 ∧ 128 ≤ 255
      omega
    · have e : (rowQ8 (fun q => (fun a b => 128) (q / 8) (q % 8)) 64).getD k 0 = 0 := by simp [rowQ8, hk]
      rw [e]
      omega
  have hG64 := rowQ8_len (fun q => (fun a b => 128) (q / 8) (q % 8)) 64
  have cF := fun (W : World) (B : Nat) (Aa Al : Option Addr) (ca cl : Nat) hB hra hrl => foretoldDCTopLeft Aa Al ca cl B cv va vl W hB hla hll ⟨hcv1, hcv2⟩ hva hvl hra hrl
  have cO := fun (W : World) (A : Option Addr) (c : Nat) (hr : Rd .i64 W W.heap.size A (rowQ8 (fun q => (fun a b => 128) (q / 8) (q % 8)) 64)) => bytesOf_any A c W.heap.size _ W (by rw [hG64]; decide) (Nat.le_refl _) hGb hr
  rw [hG64] at cO
  have cK := fun W => byteOf_any cv W
  have hK : clp8 cv = cv := by unfold clp8; rw [if_neg (by omega), if_neg (by omega)]
  rw [hK] at cK
  clear hca hcl hra hrl hba hbl hB hsA8 hsL8 hGb hG64 hK
  replace hca' := hide hca'
  replace hcl' := hide hcl'
  replace hva := hide hva
  replace hvl := hide hvl
  replace hla := hide hla
  replace hll := hide hll
  replace hb1 := hide hb1
  replace hIn := hide hIn
  replace hsz1 := hide hsz1
  replace cF := hide cF
  replace cO := hide cO
  replace cK := hide cK
  generalize hRL : rowQ8 (fun q => (fun a b => 128) (q / 8) (q % 8)) 64 = RL at *
  replace hRL := hide hRL
  go_enter Tryd.func17, Tryd.ntmps17
  go_wp2
  generalize hw1 : w.alloc (.cells #[.bool false, .bool false] 51) = w1 at *
  replace hw1 := hide hw1
  go_loopg [12, 13, 14] 8 (fun k ua ul ui wr => ∃ i : Nat, k + i = 8 ∧ ui = .int .i64 i ∧ Two w1 wr 3 ua ul i i ((rowQ8 (fun k => va.getD k 0) i).map (Value.int .i64)) ((rowQ8 (fun k => vl.getD k 0) i).map (Value.int .i64)))
  case atStart => exact ⟨0, rfl, rfl, Two.start w1 _⟩
  case round =>
    obtain ⟨i, hi, rfl, hT⟩ := hrel
    have hbel := hT.bel
    have hsz2 := hbel.size
    replace hT := hide hT
    replace hbel := hide hbel
    cases gk with
    | zero =>
      have hi8 : i = 8 := by omega
      subst hi8
      have hTo := hT.out
      rw [rowQ8_self va 8 hla.out, rowQ8_self vl 8 hll.out] at hTo
      obtain ⟨A1, c1, rfl, _, _⟩ := own_len hTo.a
      obtain ⟨A2, c2, rfl, _, _⟩ := own_len hTo.l
      have hrA := hide ((Rd.ofOwn hTo.a).drew)
      have hrL := hide ((Rd.ofOwn hTo.l).drew)
      have hle : Hid (wr.heap.size ≤ wr.drew.heap.size) := hide (Nat.le_refl _)
      have hbr := hide (hbel.out.drew)
      have hIn2 := hIn.out.below hbel.out (by have := hsz1.out; omega)
      have hI0 := hIn2.cell 0
      have hI1 := hIn2.cell 1
      simp only [List.getElem?_toArray, List.getElem?_cons_zero, List.getElem?_cons_succ] at hI0 hI1
      have hblk : w.heap.size < wr.heap.size := by have := hsz1.out; omega
      have hRLn : Hid (RL = rowQ8 (fun q => (fun a b => 128) (q / 8) (q % 8)) 64) := hide hRL.out.symm
      clear hTo hT hIn2 hca' hcl' hva hvl hIn hbel
      go_wp2
      go_region_held3 (fun W => W.cell? ⟨w.heap.size, 0, none⟩ = some (.bool false) ∧ W.cell? ⟨w.heap.size, 1, none⟩ = some (.bool false))
        (first
          | go_keep
          | exact ⟨(hb8.out.cell (p := ⟨w.heap.size, 0, none⟩) hblk).trans hI0, (hb8.out.cell (p := ⟨w.heap.size, 1, none⟩) hblk).trans hI1⟩
          | exact ⟨((hb9.out.cell (p := ⟨w.heap.size, 0, none⟩) (Nat.lt_of_lt_of_le hblk hb8.out.size)).trans (hb8.out.cell (p := ⟨w.heap.size, 0, none⟩) hblk)).trans hI0, ((hb9.out.cell (p := ⟨w.heap.size, 1, none⟩) (Nat.lt_of_lt_of_le hblk hb8.out.size)).trans (hb8.out.cell (p := ⟨w.heap.size, 1, none⟩) hblk)).trans hI1⟩)
        (first
          | (go_at_call 30; (with_reducible refine (cK.out _).mono ?_); rintro e w' ⟨rfl, rfl⟩)
          | (go_at_call 29; (with_reducible refine (cF.out _ _ _ _ _ _ hle.out hrA.out hrL.out).mono ?_); rintro e w8 ⟨s8, rfl, ho8, hb8⟩; obtain ⟨A8, c8, rfl, _, _⟩ := own_len ho8; replace ho8 := hide (Rd.ofOwn ho8); replace hb8 := hide hb8)
          | (go_at_call 28; (with_reducible refine (cO.out _ _ _ ho8.out).mono ?_); rintro e w9 ⟨s9, rfl, ho9, hb9⟩; replace ho9 := hide ho9; replace hb9 := hide hb9))
      have z1 := hb1.out.size
      have z3 : wr.heap.size ≤ w8.heap.size := hb8.out.size
      go_wp2
      go_ret
      exact ⟨_, rfl, own_down ho9.out (by omega), hb1.out.trans ((hbr.out.trans ((hb8.out.trans (hb9.out.mono (by exact z3))).mono (by exact hsz2))).mono (by omega))⟩
    | succ k =>
      have hin : i < 8 := by omega
      have hii : (i : Int) < 8 := by omega
      have hi0 : (0 : Int) ≤ (i : Int) := by omega
      have hs1 := hb1.out.size
      have ka := (hbel.out.cell (p := ⟨ba, oa + i, none⟩) (by show ba < _; omega)).trans (hca'.out i hin)
      have kl := (hbel.out.cell (p := ⟨bl, ol + i, none⟩) (by show bl < _; omega)).trans (hcl'.out i hin)
      have bx := hva.out i
      have by' := hvl.out i
      have rA := rowQ8_succ (fun k => va.getD k 0) i
      have rL := rowQ8_succ (fun k => vl.getD k 0) i
      generalize va.getD i 0 = x0 at *
      generalize vl.getD i 0 = y0 at *
      replace rA := hide rA
      replace rL := hide rL
      have VX : IntKind.i64.wrap x0 = x0 := IntWalk.i64_in _ (by omega)
      have VY : IntKind.i64.wrap y0 = y0 := IntWalk.i64_in _ (by omega)
      have hTo := hT.out
      have hnA : ∀ k, wr.heap.size ≤ k → some k ≠ u12.ownBlock := fun k hk e => by have := (hTo.a.lt _ e.symm).2; omega
      have hnL : ∀ k, wr.heap.size ≤ k → some k ≠ u13.ownBlock := fun k hk e => by have := (hTo.l.lt _ e.symm).2; omega
      have hmA : ∀ k, k < w1.heap.size → some k ≠ u12.ownBlock := fun k hk e => by have := (hTo.a.lt _ e.symm).1; omega
      have hmL : ∀ k, k < w1.heap.size → some k ≠ u13.ownBlock := fun k hk e => by have := (hTo.l.lt _ e.symm).1; omega
      have hba1 : ba < w1.heap.size := by omega
      have hbl1 : bl < w1.heap.size := by omega
      have hba2 : ba < wr.heap.size := by omega
      have hbl2 : bl < wr.heap.size := by omega
      have hbaw : ¬ ba = wr.heap.size := by omega
      have hblw : ¬ bl = wr.heap.size := by omega
      have hbaw1 : ¬ ba = wr.heap.size + 1 := by omega
      have hblw1 : ¬ bl = wr.heap.size + 1 := by omega
      replace hnA := hide hnA
      replace hnL := hide hnL
      replace hmA := hide hmA
      replace hmL := hide hmL
      clear hTo hca' hcl' hva hvl cF cO cK
      go_wp2
      go_region_held3 (fun W => W.cell? ⟨ba, oa + i, none⟩ = some (.int .u8 x0) ∧ W.cell? ⟨bl, ol + i, none⟩ = some (.int .u8 y0))
        (first
          | go_keep
          | (refine ⟨?_, ?_⟩ <;> (first
              | (rw [World.cell?_of_block (hg9.out.block _ (by simp; omega) (by first | exact hmA.out _ (by assumption) | exact hmL.out _ (by assumption)))]; simp [*]; done)
              | (rw [World.cell?_of_block (hg8.out.block _ (by simp; omega) (by first | exact hmA.out _ (by assumption) | exact hmL.out _ (by assumption)))]; simp [*]; done))))
        (first
          | (refine step_two2 (.tmp 69) (.tmp 75) 36 w1 3 (.int .i64 0) 8 Tryd.underlying36 info_int8 rfl (.slice (some ⟨g1, 0, none⟩) (i + 1) cap1) u13 (i + 1) i (((rowQ8 (fun k => va.getD k 0) i).map (Value.int .i64)) ++ [.int .i64 x0]) ((rowQ8 (fun k => vl.getD k 0) i).map (Value.int .i64)) (.int .i64 y0) rfl (by simp only [maxLen]; omega) (by omega) ?_; refine ⟨⟨rfl, rfl, rfl, (by first | exact hT8.out | exact hT8.out.alloc _), ⟨_, rfl, (by first | (simp; done) | (rw [World.cell?_of_block (hg8.out.block _ (by simp <;> omega) (hnA.out _ (by simp <;> omega)))]; simp; done))⟩⟩, ?_⟩; intro v' w9 hT9 hg9 hv9; obtain ⟨g2, cap2, rfl⟩ := hv9; have hz9 := hT9.bel.size; replace hT9 := hide hT9; replace hg9 := hide hg9)
          | (refine step_two (.tmp 61) (.tmp 67) 36 w1 3 (.int .i64 0) 8 Tryd.underlying36 info_int8 rfl u12 (.slice (some ⟨g2, 0, none⟩) (i + 1) cap2) i (i + 1) ((rowQ8 (fun k => va.getD k 0) i).map (Value.int .i64)) (((rowQ8 (fun k => vl.getD k 0) i).map (Value.int .i64)) ++ [.int .i64 y0]) (.int .i64 x0) rfl (by simp only [maxLen]; omega) (by omega) ?_; refine ⟨⟨rfl, rfl, rfl, (by first | exact hT9.out | exact hT9.out.alloc _), ⟨_, rfl, (by first | (simp; done) | (rw [World.cell?_of_block (hg9.out.block _ (by simp <;> omega) (hnL.out _ (by simp <;> omega)))]; simp; done))⟩⟩, ?_⟩; intro v' w8 hT8 hg8 hv8; obtain ⟨g1, cap1, rfl⟩ := hv8; have hz8 := hT8.bel.size; replace hT8 := hide hT8; replace hg8 := hide hg8)
          | (refine step_two (.tmp 61) (.tmp 67) 36 w1 3 (.int .i64 0) 8 Tryd.underlying36 info_int8 rfl u12 u13 i i ((rowQ8 (fun k => va.getD k 0) i).map (Value.int .i64)) ((rowQ8 (fun k => vl.getD k 0) i).map (Value.int .i64)) (.int .i64 x0) rfl (by simp only [maxLen]; omega) (by omega) ?_; refine ⟨⟨rfl, rfl, rfl, (by first | exact (hT.out.drew).alloc _ | exact ((hT.out.drew).alloc _).alloc _), ⟨_, rfl, (by simp)⟩⟩, ?_⟩; intro v' w8 hT8 hg8 hv8; obtain ⟨g1, cap1, rfl⟩ := hv8; have hz8 := hT8.bel.size; replace hT8 := hide hT8; replace hg8 := hide hg8)
          | (refine step_two2 (.tmp 69) (.tmp 75) 36 w1 3 (.int .i64 0) 8 Tryd.underlying36 info_int8 rfl u12 u13 i i ((rowQ8 (fun k => va.getD k 0) i).map (Value.int .i64)) ((rowQ8 (fun k => vl.getD k 0) i).map (Value.int .i64)) (.int .i64 y0) rfl (by simp only [maxLen]; omega) (by omega) ?_; refine ⟨⟨rfl, rfl, rfl, (by first | exact (hT.out.drew).alloc _ | exact ((hT.out.drew).alloc _).alloc _), ⟨_, rfl, (by simp)⟩⟩, ?_⟩; intro v' w9 hT9 hg9 hv9; obtain ⟨g2, cap2, rfl⟩ := hv9; have hz9 := hT9.bel.size; replace hT9 := hide hT9; replace hg9 := hide hg9))
      all_goals
        go_wp2
        go_roundg k
        case measure => omega
        case rel => exact ⟨i + 1, by omega, by go_num, by rw [rA.out, rL.out, List.map_append, List.map_append]; first | exact hT9.out | exact hT8.out⟩
end Go.Proofs.YtleiehiabcgalaaDoor
