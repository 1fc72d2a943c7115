/- Pixels out of bytes and back: the walks. -/
import Derived.Test.YtpiapfahcoopbaaPixPlain
import Derived.Test.YtpiapfahcoopbaaPlain
import Derived.Test.YtpiapfahcoopbaaRows
import Derived.Outline
import Derived.WalkLawsBesides
import Derived.RegionTactic
import Derived.Deep.QuietTactic
import Derived.BigQuiet
import Derived.Deep.LoopGhost
import Derived.Test.YtpiapfahcoopbaaStep
import Derived.Deep.RegionWith
import Derived.Deep.RegionHeld3
namespace Go.Proofs.Ytpiapfahcoopbaa
set_option linter.unusedSimpArgs false
set_option linter.unusedVariables false
open Go.RowKit Plain

theorem below_drew {b : Nat} {w w' : World} (h : Below b w w') : Below b w w'.drew := ⟨h.os, h.tape, h.output, h.size, h.block⟩
theorem and255 (x : Int) : bits .and .i64 x 255 = x % 256 := and_mask .i64 8 (by decide) x
theorem and255u (x : Int) : bits .and .u32 x 255 = x % 256 := and_mask .u32 8 (by decide) x
theorem u32_wrap (n : Int) (h0 : 0 ≤ n) (h1 : n < 2 ^ 32) : IntKind.u32.wrap n = n := by
  have h1' : n < 4294967296 := by simpa using h1
  exact IntWalk.u32_in n (by omega)
theorem or_join (i : Nat) (x y : Int) (h0 : 0 ≤ x) (hx : x % 2 ^ i = 0) (h1 : x < 4294967296) (h2 : 0 ≤ y) (h3 : y < 2 ^ i) (h4 : y < 4294967296) : bits .or .u32 x y = x + y :=
  bits_join .u32 32 (by decide) u32_wrap i x y h0 hx (by simpa using h1) h2 h3 (by simpa using h4)

theorem pixel_any (b g r a : Int) (w : World) : Calls Try.prog 11 #[.int .i64 b, .int .i64 g, .int .i64 r, .int .i64 a] w fun e w' => e = .returned (.int .u32 (pix4 (r % 256) (g % 256) (b % 256) (a % 256))) ∧ w = w' := by
  have ha := and255 a
  have hr := and255 r
  have hg := and255 g
  have hb := and255 b
  unfold pix4
  have ba : 0 ≤ a % 256 ∧ a % 256 < 256 := by omega
  have br : 0 ≤ r % 256 ∧ r % 256 < 256 := by omega
  have bg : 0 ≤ g % 256 ∧ g % 256 < 256 := by omega
  have bb : 0 ≤ b % 256 ∧ b % 256 < 256 := by omega
  generalize a % 256 = xa at *
  generalize r % 256 = xr at *
  generalize g % 256 = xg at *
  generalize b % 256 = xb at *
  have o1 := or_join 24 (xa * 16777216) (xr * 65536) (by omega) (by omega) (by omega) (by omega) (by omega) (by omega)
  have o2 := or_join 16 (xa * 16777216 + xr * 65536) (xg * 256) (by omega) (by omega) (by omega) (by omega) (by omega) (by omega)
  have o3 := or_join 8 (xa * 16777216 + xr * 65536 + xg * 256) xb (by omega) (by omega) (by omega) (by omega) (by omega) (by omega)
  go_enter Try.func11, Try.ntmps11
  go_wp2
  go_ret
  exact ⟨rfl, rfl⟩

def pixAt (P : List Int) (i : Nat) : Int := pix4 (P.getD (4 * i) 0) (P.getD (4 * i + 1) 0) (P.getD (4 * i + 2) 0) (P.getD (4 * i + 3) 0)
def joinN (P : List Int) (n : Nat) : List Int := (List.range n).map (pixAt P)
theorem joinN_succ (P : List Int) (n : Nat) : joinN P (n + 1) = joinN P n ++ [pixAt P n] := by simp [joinN, List.range_succ]
theorem joinN_len (P : List Int) (n : Nat) : (joinN P n).length = n := by simp [joinN]
theorem joinN_get (P : List Int) (n i : Nat) (h : i < n) : (joinN P n).getD i 0 = pixAt P i := by simp [joinN, h]
def Byt (P : List Int) : Prop := ∀ k, 0 ≤ P.getD k 0 ∧ P.getD k 0 ≤ 255
theorem Byt.pix {P : List Int} (h : Byt P) (i : Nat) : IsB4 (P.getD (4 * i) 0) (P.getD (4 * i + 1) 0) (P.getD (4 * i + 2) 0) (P.getD (4 * i + 3) 0) := ⟨h _, h _, h _, h _⟩

theorem info_u8p : (Try.prog.info? 5).map (fun i => (i.zero, i.size, i.bytes)) = some (some (Value.int .u8 0), 1, 1) := by kernel_rfl
theorem rfl_wrap8 (x : Int) : IntKind.u8.wrap x = x % 256 := by simp [IntKind.wrap, IntKind.bits, IntKind.signed]
theorem info_u32 : (Try.prog.info? 34).map (fun i => (i.zero, i.size, i.bytes)) = some (some (Value.int .u32 0), 1, 4) := by kernel_rfl

set_option maxRecDepth 100000 in
set_option maxHeartbeats 2000000 in
theorem joined4_any (A : Option Addr) (cap N : Nat) (P : List Int) (w : World) (hP : P.length = 4 * N) (hN : (N : Int) ≤ 262144) (hB : Byt P) (hr : Rd .u8 w w.heap.size A P) :
    Calls Try.prog 8 #[.slice A P.length cap] w fun e w' => ∃ v, e = .returned v ∧ w'.ownsRow w.heap.size 34 1 v N ((joinN P N).map (Value.int .u32)) ∧ Below w.heap.size w w' := by
  rw [hP]
  replace hP := hide hP
  replace hB := hide hB
  go_enter Try.func8, Try.ntmps8
  go_wp2
  go_loopg [3, 4] N (fun k u3 u4 wr => ∃ m : Nat, k + m = N ∧ u4 = .int .i64 (4 * (m : Int)) ∧ wr.ownsRow w.heap.size 34 1 u3 m ((joinN P m).map (Value.int .u32)) ∧ Below w.heap.size w wr)
  case atStart => exact ⟨0, rfl, rfl, ⟨rfl, .inl ⟨rfl, rfl⟩⟩, Below.refl _ _⟩
  case round =>
    obtain ⟨m, hm, rfl, ho, hb⟩ := hrel
    have hcast : ((4 * N : Nat) : Int) = 4 * (N : Int) := by omega
    cases gk with
    | zero =>
      have hm' : m = N := by omega
      subst hm'
      replace ho := hide ho
      replace hb := hide hb
      clear hr
      go_wp2
      go_ret
      exact ⟨_, rfl, ho.out, hb.out⟩
    | succ k =>
      have hPl := hP.out
      obtain ⟨b, off, rfl, hbb, hc⟩ := hr.at_ (j := 4 * m) (by omega)
      have c0 := (hb.cell (p := ⟨b, off + 4 * m, none⟩) hbb).trans (hc (4 * m) (by omega))
      have c1 := (hb.cell (p := ⟨b, off + (4 * m + 1), none⟩) hbb).trans (hc (4 * m + 1) (by omega))
      have c2 := (hb.cell (p := ⟨b, off + (4 * m + 2), none⟩) hbb).trans (hc (4 * m + 2) (by omega))
      have c3 := (hb.cell (p := ⟨b, off + (4 * m + 3), none⟩) hbb).trans (hc (4 * m + 3) (by omega))
      have hs := joinN_succ P m
      unfold pixAt at hs
      obtain ⟨h0, h1, h2, h3⟩ := hB.out.pix m
      clear hc hPl
      generalize P.getD (4 * m) 0 = x0 at *
      generalize P.getD (4 * m + 1) 0 = x1 at *
      generalize P.getD (4 * m + 2) 0 = x2 at *
      generalize P.getD (4 * m + 3) 0 = x3 at *
      have cP := fun w' => pixel_any x2 x1 x0 x3 w'
      rw [show x0 % 256 = x0 by omega, show x1 % 256 = x1 by omega, show x2 % 256 = x2 by omega, show x3 % 256 = x3 by omega] at cP
      generalize pix4 x0 x1 x2 x3 = px at *
      have e0 : (4 * (m : Int)).toNat = 4 * m := by omega
      have e1 : (4 * (m : Int) + 1).toNat = 4 * m + 1 := by omega
      have e2 : (4 * (m : Int) + 2).toNat = 4 * m + 2 := by omega
      have e3 : (4 * (m : Int) + 3).toNat = 4 * m + 3 := by omega
      have i0 : 4 * (m : Int) < 4 * (N : Int) := by omega
      have i1 : 4 * (m : Int) + 1 < 4 * (N : Int) := by omega
      have i2 : 4 * (m : Int) + 2 < 4 * (N : Int) := by omega
      have i3 : 4 * (m : Int) + 3 < 4 * (N : Int) := by omega
      have hm0 : (0 : Int) ≤ (m : Int) := by omega
      have hmN : (m : Int) ≤ 262144 := by omega
      have hsz := hb.size
      replace hs := hide hs
      replace ho := hide ho
      replace hb := hide hb
      replace cP := hide cP
      clear hr
      go_wp2
      have W1 : IntKind.i64.wrap (4 * (m : Int) + 1) = 4 * (m : Int) + 1 := IntWalk.i64_in _ (by omega)
      have W2 : IntKind.i64.wrap (4 * (m : Int) + 2) = 4 * (m : Int) + 2 := IntWalk.i64_in _ (by omega)
      have W3 : IntKind.i64.wrap (4 * (m : Int) + 3) = 4 * (m : Int) + 3 := IntWalk.i64_in _ (by omega)
      have n0 : 0 ≤ 4 * (m : Int) := by omega
      have n1 : 0 ≤ 4 * (m : Int) + 1 := by omega
      have n2 : 0 ≤ 4 * (m : Int) + 2 := by omega
      have n3 : 0 ≤ 4 * (m : Int) + 3 := by omega
      have V0 : IntKind.i64.wrap x0 = x0 := IntWalk.i64_in _ (by omega)
      have V1 : IntKind.i64.wrap x1 = x1 := IntWalk.i64_in _ (by omega)
      have V2 : IntKind.i64.wrap x2 = x2 := IntWalk.i64_in _ (by omega)
      have V3 : IntKind.i64.wrap x3 = x3 := IntWalk.i64_in _ (by omega)
      have iN : m < N := by omega
      have hbw : b < wr.heap.size := by omega
      have hbn : ¬ b = wr.heap.size := by omega
      have hbn' : ¬ wr.heap.size = b := by omega
      have HC : ∀ j u, ([.int .u32 px] : List Value)[j]? = some u → (wr.alloc (.cells #[.int .u32 px] 34)).cell? ⟨wr.heap.size, j, none⟩ = some u := by
        intro j u hj
        rw [World.cell?_alloc_new]
        simpa using hj
      replace HC := hide HC
      have hne3 : some b ≠ u3.ownBlock := fun e => by have := (ho.out.lt b e.symm).1; omega
      go_region_held3 (fun W => W.cell? ⟨b, off + 4 * m, none⟩ = some (.int .u8 x0) ∧ W.cell? ⟨b, off + (4 * m + 1), none⟩ = some (.int .u8 x1) ∧ W.cell? ⟨b, off + (4 * m + 2), none⟩ = some (.int .u8 x2) ∧ W.cell? ⟨b, off + (4 * m + 3), none⟩ = some (.int .u8 x3))
        (first
          | go_keep
          | (go_split_ands
             refine ⟨?_, ?_, ?_, ?_⟩
             all_goals
               rw [World.cell?_of_block (hg9.out.block b (by simp; omega) hne3)]
               simp [hbn, *]))
        (first
          | (go_at_call 11; (with_reducible refine (cP.out _).mono ?_); rintro e w' ⟨rfl, rfl⟩)
          | (refine step_pushN (.tmp 12) (.tmp 37) 27 w.heap.size 34 (.int .u32 0) 4 Try.underlying27 info_u32 rfl u3 m 1 ((joinN P m).map (Value.int .u32)) [.int .u32 px] rfl (by simp [Value.oneCell']) wr.heap.size (by simp only [maxLen]; omega) (by omega) ?_; refine ⟨⟨rfl, rfl, rfl, ho.out.alloc _, rfl, HC.out, by simp <;> omega⟩, ?_⟩; intro v' w9 hown9 hg9; replace hown9 := hide hown9; replace hg9 := hide hg9))
      go_wp2
      go_roundg k
      case measure => omega
      case rel => exact ⟨m + 1, by omega, by go_num, by rw [hs.out]; simpa using hown9.out, (below_drew (hb.out.alloc hsz _)).grown hg9.out (by simp; omega) (fun k hk => (ho.out.lt k hk).1)⟩

def splitN (Q : List Int) : Nat → List Int
  | 0 => []
  | n + 1 => splitN Q n ++ [Q.getD n 0 / 65536 % 256, Q.getD n 0 / 256 % 256, Q.getD n 0 % 256, Q.getD n 0 / 16777216 % 256]
theorem splitN_len (Q : List Int) (n : Nat) : (splitN Q n).length = 4 * n := by
  induction n with
  | zero => rfl
  | succ n ih => simp [splitN, ih]; omega

set_option maxRecDepth 100000 in
set_option maxHeartbeats 2000000 in
theorem split4_any (A : Option Addr) (cap : Nat) (Q : List Int) (w : World) (hN : (Q.length : Int) ≤ 262144) (hB : ∀ k, 0 ≤ Q.getD k 0 ∧ Q.getD k 0 ≤ 4294967295) (hr : Rd .u32 w w.heap.size A Q) :
    Calls Try.prog 15 #[.slice A Q.length cap] w fun e w' => ∃ v, e = .returned v ∧ w'.ownsRow w.heap.size 5 1 v (4 * Q.length) ((splitN Q Q.length).map (Value.int .u8)) ∧ Below w.heap.size w w' := by
  replace hB := hide hB
  go_enter Try.func15, Try.ntmps15
  go_wp2
  go_loopg [3, 4] Q.length (fun k u3 u4 wr => ∃ m : Nat, k + m = Q.length ∧ u4 = .int .i64 m ∧ wr.ownsRow w.heap.size 5 1 u3 (4 * m) ((splitN Q m).map (Value.int .u8)) ∧ Below w.heap.size w wr)
  case atStart => exact ⟨0, rfl, rfl, ⟨rfl, .inl ⟨rfl, rfl⟩⟩, Below.refl _ _⟩
  case round =>
    obtain ⟨m, hm, rfl, ho, hb⟩ := hrel
    cases gk with
    | zero =>
      have hm' : m = Q.length := by omega
      subst hm'
      replace ho := hide ho
      replace hb := hide hb
      clear hr
      go_wp2
      go_ret
      exact ⟨_, rfl, ho.out, hb.out⟩
    | succ k =>
      obtain ⟨b, off, rfl, hbb, hc⟩ := hr.at_ (j := m) (by omega)
      have c0 := (hb.cell (p := ⟨b, off + m, none⟩) hbb).trans (hc m (by omega))
      have hs : splitN Q (m + 1) = splitN Q m ++ [Q.getD m 0 / 65536 % 256, Q.getD m 0 / 256 % 256, Q.getD m 0 % 256, Q.getD m 0 / 16777216 % 256] := rfl
      obtain ⟨h0, h1⟩ := hB.out m
      clear hc
      generalize Q.getD m 0 = x at *
      have hml : (m : Int) < (Q.length : Int) := by omega
      have hmN : (m : Int) ≤ 262144 := by omega
      have hm0 : (0 : Int) ≤ (m : Int) := by omega
      have hsz := hb.size
      replace hs := hide hs
      replace ho := hide ho
      replace hb := hide hb
      clear hr
      go_wp2
      have hbw : b < wr.heap.size := by omega
      have hbn : ¬ b = wr.heap.size := by omega
      have hbn' : ¬ wr.heap.size = b := by omega
      have E1 : IntKind.u8.wrap (x / 65536) = x / 65536 % 256 := rfl_wrap8 _
      have E2 : IntKind.u8.wrap (x / 256) = x / 256 % 256 := rfl_wrap8 _
      have E3 : IntKind.u8.wrap x = x % 256 := rfl_wrap8 _
      have E4 : IntKind.u8.wrap (x / 16777216) = x / 16777216 % 256 := rfl_wrap8 _
      have HC : ∀ j u, ([.int .u8 (x / 65536 % 256), .int .u8 (x / 256 % 256), .int .u8 (x % 256), .int .u8 (x / 16777216 % 256)] : List Value)[j]? = some u → (wr.alloc (.cells #[.int .u8 (x / 65536 % 256), .int .u8 (x / 256 % 256), .int .u8 (x % 256), .int .u8 (x / 16777216 % 256)] 5)).cell? ⟨wr.heap.size, j, none⟩ = some u := by
        intro j u hj
        rw [World.cell?_alloc_new]
        simpa using hj
      replace HC := hide HC
      have hne3 : some b ≠ u3.ownBlock := fun e => by have := (ho.out.lt b e.symm).1; omega
      go_region_held3 (fun W => W.cell? ⟨b, off + m, none⟩ = some (.int .u32 x))
        (first
          | go_keep
          | (rw [World.cell?_of_block (hg9.out.block b (by simp; omega) hne3)]
             simp [hbn, *]))
        (first
          | (refine step_pushN (.tmp 11) (.tmp 35) 22 w.heap.size 5 (.int .u8 0) 1 Try.underlying22 info_u8p rfl u3 (4 * m) 4 ((splitN Q m).map (Value.int .u8)) [.int .u8 (x / 65536 % 256), .int .u8 (x / 256 % 256), .int .u8 (x % 256), .int .u8 (x / 16777216 % 256)] rfl (by simp [Value.oneCell']) wr.heap.size (by simp only [maxLen]; omega) (by omega) ?_; refine ⟨⟨rfl, rfl, rfl, ho.out.alloc _, rfl, HC.out, by simp <;> omega⟩, ?_⟩; intro v' w9 hown9 hg9; replace hown9 := hide hown9; replace hg9 := hide hg9))
      go_wp2
      go_roundg k
      case measure => omega
      case rel =>
        refine ⟨m + 1, by omega, by go_num, ?_, (below_drew (hb.out.alloc hsz _)).grown hg9.out (by simp; omega) (fun k hk => (ho.out.lt k hk).1)⟩
        have h9 := hown9.out
        rw [hs.out, show 4 * (m + 1) = 4 * m + 4 by omega]
        simpa using h9
end Go.Proofs.Ytpiapfahcoopbaa
