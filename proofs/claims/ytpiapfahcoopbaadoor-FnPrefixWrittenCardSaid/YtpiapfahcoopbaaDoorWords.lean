/- Lists of numbers turned into other kinds; 'isWholeTree': the walks. -/
import Derived.Test.YtpiapfahcoopbaaDoorCodesPlain
import Derived.Test.YtpiapfahcoopbaaDoorReadLaw
namespace Go.Proofs.YtpiapfahcoopbaaDoor
set_option linter.unusedSimpArgs false
set_option linter.unusedVariables false
open Go.RowKit Plain

theorem info_u32 : (Tryd.prog.info? 59).map (fun i => (i.zero, i.size, i.bytes)) = some (some (Value.int .u32 0), 1, 4) := by kernel_rfl
theorem take_get (l : List Nat) (m : Nat) (h : m < l.length) : ofN' (l.take (m + 1)) = ofN' (l.take m) ++ [((l.getD m 0 : Nat) : Int)] := by
  have e : l.getD m 0 = l[m] := by simp [h]
  unfold ofN'
  rw [List.take_succ_eq_append_getElem h, List.map_append, e]
  rfl

set_option maxRecDepth 100000 in
set_option maxHeartbeats 2000000 in
theorem words_any (A : Option Addr) (cap : Nat) (L : List Nat) (w : World) (hl : (L.length : Int) ≤ 1048576) (hL : ∀ x ∈ L, x ≤ 1000000) (hS : Rd .i64 w w.heap.size A (ofN' L)) :
    Calls Tryd.prog 37 #[.slice A L.length cap] w fun e w' => ∃ v, e = .returned v ∧ w'.ownsRow w.heap.size 59 1 v L.length ((ofN' L).map (Value.int .u32)) ∧ Below w.heap.size w w' := by
  replace hS := hide hS
  replace hL := hide hL
  go_enter Tryd.func37, Tryd.ntmps37
  go_wp2
  go_loopg [3, 8] L.length (fun k u3 u8 wr => ∃ m : Nat, k + m = L.length ∧ u8 = .int .i64 m ∧ wr.ownsRow w.heap.size 59 1 u3 m ((ofN' (L.take m)).map (Value.int .u32)) ∧ Below w.heap.size w wr)
  case atStart => exact ⟨0, rfl, rfl, ⟨rfl, .inl ⟨rfl, rfl⟩⟩, Below.refl _ _⟩
  case round =>
    obtain ⟨m, hm, rfl, hown, hbel⟩ := hrel
    cases gk with
    | zero =>
      have hm' : m = L.length := by omega
      subst hm'
      have hmn : ¬ (L.length : Int) < (L.length : Int) := by omega
      rw [List.take_length] at hown
      replace hown := hide hown
      replace hbel := hide hbel
      go_wp2
      go_ret
      exact ⟨_, rfl, hown.out, hbel.out⟩
    | succ k =>
      have hmn : m < L.length := by omega
      have hmi : (m : Int) < (L.length : Int) := by omega
      obtain ⟨b, off, rfl, hbb, hc⟩ := hS.out.at_ (j := m) (by rw [ofN'_len]; omega)
      have hx := (hbel.cell (p := ⟨b, off + m, none⟩) hbb).trans (hc m (by rw [ofN'_len]; omega))
      rw [ofN'_get] at hx
      have hxb : L.getD m 0 ≤ 1000000 := hL.out _ (by simp [hmn])
      have htk := take_get L m hmn
      clear hc
      generalize L.getD m 0 = x at *
      have hxi : (x : Int) ≤ 1000000 := by omega
      have hsz := hbel.size
      replace htk := hide htk
      replace hown := hide hown
      replace hbel := hide hbel
      go_wp2_with (at_builtin; refine wpList_push rfl (.tmp 12) (.tmp 15) _ rfl w.heap.size 59 _ 4 Tryd.underlying69 info_u32 rfl u3 m _ rfl hown.out _ rfl rfl (by simp only [maxLen]; omega) (by omega) hsz ?_; intro v' w3 hown3 hg3; replace hown3 := hide hown3; replace hg3 := hide hg3)
      go_roundg k
      case measure => omega
      case rel => exact ⟨m + 1, by omega, by go_num, by rw [htk.out]; simpa using hown3.out, hbel.out.grown hg3.out hsz (fun g hg => (hown.out.lt g hg).1)⟩

set_option maxRecDepth 100000 in
set_option maxHeartbeats 2000000 in
theorem isWhole_any (A : Option Addr) (cap B : Nat) (L : List Nat) (w : World) (hl : (L.length : Int) ≤ 4096) (hL : ∀ x ∈ L, x ≤ 15) (hS : Rd .i64 w B A (ofN' L)) :
    Calls Tryd.prog 16 #[.slice A L.length cap] w fun e w' => e = .returned (.bool (wholeB L)) ∧ w = w' := by
  replace hS := hide hS
  replace hL := hide hL
  go_enter Tryd.func16, Tryd.ntmps16
  go_wp2
  go_loopg [3, 4, 5] L.length (fun k u3 u4 u5 wr => ∃ m : Nat, k + m = L.length ∧ u5 = .int .i64 m ∧ u3 = .int .i64 (kT L m : Nat) ∧ u4 = .int .i64 (nzT L m : Nat) ∧ w = wr)
  case atStart => exact ⟨0, rfl, rfl, rfl, rfl, rfl⟩
  case round =>
    obtain ⟨m, hm, rfl, rfl, rfl, rfl⟩ := hrel
    have hk0 := kT_le L m
    have hn0 := nzT_le L m
    cases gk with
    | zero =>
      have hm' : m = L.length := by omega
      subst hm'
      have hmn : ¬ (L.length : Int) < (L.length : Int) := by omega
      have hw : wholeB L = decide (1 < nzT L L.length ∧ kT L L.length = 32768) := by rw [nzT_all, kT_all]; rfl
      generalize kT L L.length = sk at *
      generalize nzT L L.length = sn at *
      replace hw := hide hw
      by_cases h1 : 1 < sn
      · have h1i : (1 : Int) < (sn : Int) := by omega
        by_cases h2 : sk = 32768
        · have h2i : ((sk : Int) == 32768) = true := by simp; omega
          go_wp2
          go_ret
          refine ⟨?_, rfl⟩
          rw [hw.out, decide_eq_true ⟨h1, h2⟩]
          rfl
        · have h2i : ((sk : Int) == 32768) = false := by simp; omega
          go_wp2
          go_ret
          refine ⟨?_, rfl⟩
          rw [hw.out, decide_eq_false (fun h => h2 h.2)]
          rfl
      · have h1i : ¬ (1 : Int) < (sn : Int) := by omega
        go_wp2
        go_ret
        refine ⟨?_, rfl⟩
        rw [hw.out, decide_eq_false (fun h => h1 h.1)]
        rfl
    | succ k =>
      have hmn : m < L.length := by omega
      have hmi : (m : Int) < (L.length : Int) := by omega
      obtain ⟨b, off, rfl, hbb, hc⟩ := hS.out.at_ (j := m) (by rw [ofN'_len]; omega)
      have hx := hc m (by rw [ofN'_len]; omega)
      rw [ofN'_get] at hx
      have hxb : L.getD m 0 ≤ 15 := hL.out _ (by simp [hmn])
      have hks := kT_succ L m hmn
      have hns := nzT_succ L m hmn
      clear hc
      generalize L.getD m 0 = x at *
      have hxi : (x : Int) ≤ 15 := by omega
      generalize kT L m = sk at *
      generalize nzT L m = sn at *
      have hski : (sk : Int) ≤ 67108864 := by omega
      have hsni : (sn : Int) ≤ 4096 := by omega
      by_cases h0 : x = 0
      · subst h0
        have h0i : ¬ (0 : Int) < ((0 : Nat) : Int) := by omega
        have hks' : Hid (kT L (m + 1) = sk) := hide (by rw [hks]; simp [wgt])
        have hns' : Hid (nzT L (m + 1) = sn) := hide (by rw [hns]; simp)
        clear hks hns
        go_wp2
        go_roundg k
        case measure => omega
        case rel => exact ⟨m + 1, by omega, by go_num, by rw [hks'.out], by rw [hns'.out], rfl⟩
      · have h0i : (0 : Int) < (x : Int) := by omega
        have hp : (2 : Nat) ^ (15 - x) ≤ 2 ^ 15 := Nat.pow_le_pow_right (by decide) (by omega)
        have hpi : ((2 : Int) ^ (15 - x)) ≤ 32768 := by
          have h4 := Int.ofNat_le.2 hp
          rw [Int.natCast_pow, Int.natCast_pow] at h4
          exact h4
        have hp0 : (0 : Int) < 2 ^ (15 - x) := Int.pow_pos (by decide)
        have hks' : Hid (((kT L (m + 1) : Nat) : Int) = (sk : Int) + 2 ^ (15 - x)) := hide (by rw [hks, wgt, if_neg h0]; simp)
        have hns' : Hid (nzT L (m + 1) = sn + 1) := hide (by rw [hns, if_neg h0])
        have hsub : ((15 : Int) - (x : Int)).toNat = 15 - x := by omega
        clear hks hns hp
        go_wp2
        go_roundg k
        case measure => omega
        case rel => exact ⟨m + 1, by omega, by go_num, by rw [hks'.out], by rw [hns'.out]; go_num, rfl⟩
end Go.Proofs.YtpiapfahcoopbaaDoor
