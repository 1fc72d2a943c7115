/- 'joined', 'split', 'rounded' and 'part' of the reference: the walks. -/
import Derived.Test.YtpiapfahcoopbaaColorLaw
namespace Go.Proofs.Ytpiapfahcoopbaa
set_option linter.unusedSimpArgs false
set_option linter.unusedVariables false
open Go.RowKit Plain

theorem wpList_pushL {P : Program} {w : World} {ops : Array Oper} {rest : List Oper} {o : Oper} {a : Act} {Q : Exit → Act → World → Prop} (hgd : o.guard = none) (s x : Operand) (t : TypeId)
    (ho : o.op = .call { callee := .builtin .append, args := #[s, x], argTypes := #[t, t] })
    (base : Nat) (e : TypeId) (z : Value) (bytes : Nat) (ht : P.underlying t = some (.slice e)) (hi : (P.info? e).map (fun i => (i.zero, i.size, i.bytes)) = some (some z, 1, bytes)) (hzs : z.cells.size = 1)
    (v : Value) (n m : Nat) (xs : List Value) (hs : a.eval s = v) (hown : w.ownsRow base e 1 v n xs) (cs : Array Value) (hcs : cs.size = m) (hu : ∀ u ∈ cs.toList, u.oneCell' = true)
    (hx : a.eval x = .slice (some ⟨w.heap.size, 0, none⟩) m m) (h63 : n + m ≤ maxLen) (hbytes : (n + m) * bytes ≤ 140737488355328) (hbase : base ≤ w.heap.size)
    (h : ∀ v' w', w'.ownsRow base e 1 v' (n + m) (xs ++ cs.toList) → w.grownBy w' v.ownBlock → wpList P ops Q rest (a.put o.dst v') w') : wpList P ops Q (o :: rest) a (w.alloc (.cells cs e)) := by
  obtain ⟨i, hi, hz, h1, h2⟩ := info_parts hi
  refine wpList_append_own (w.alloc (.cells cs e)) hgd s x t ho base e i z 1 bytes ht hi hz h1 h2 hzs (by decide) v n xs hs (hown.alloc _) ⟨w.heap.size, 0, none⟩ m m cs.toList hx (by simp [hcs]) ?_ hu h63 hbytes (by simp; omega) ?_
  · intro j y hy
    rw [Addr.add_lit, Nat.zero_add, World.cell?_alloc_new]
    simpa using hy
  · intro v' w' h1 h2 _
    refine h v' w' h1 ⟨h2.os, h2.tape, h2.output, Nat.le_trans (by simp) h2.size, fun k hk hne => ?_⟩
    rw [h2.block k (by simp; omega) hne]
    exact Below.heap_alloc w _ k hk

theorem rounded_any (n s : Nat) (w : World) (hn : (n : Int) ≤ 16384) (hs : s ≤ 9) : Calls Try.prog 34 #[.int .i64 n, .int .i64 s] w fun e w' => e = .returned (.int .i64 (blkN n s : Nat)) ∧ w = w' := by
  obtain ⟨p1, p2⟩ := pow_bd s hs
  have hp : 1 ≤ 2 ^ s := Nat.one_le_two_pow
  have e : ((blkN n s : Nat) : Int) = ((n : Int) + 2 ^ s - 1) / 2 ^ s := by
    unfold blkN
    rw [Int.natCast_ediv, Int.ofNat_sub (by omega), Int.natCast_add]
    simp
  rw [e]
  clear e hp
  go_enter Try.func34, Try.ntmps34
  go_wp2
  go_ret
  exact ⟨rfl, rfl⟩
theorem spart1_any (p : Int) (w : World) (h0 : 0 ≤ p) (h1 : p ≤ 4294967295) : Calls Try.prog 35 #[.int .u32 p, .int .i64 1] w fun e w' => e = .returned (.int .i64 (p / 256 % 256)) ∧ w = w' := by
  have a := and255u (p / 256)
  go_enter Try.func35, Try.ntmps35
  go_wp2
  go_ret
  exact ⟨rfl, rfl⟩

set_option maxRecDepth 100000 in
set_option maxHeartbeats 2000000 in
theorem joined_any (A : Option Addr) (cap N : Nat) (P : List Int) (w : World) (hP : P.length = 4 * N) (hN : (N : Int) ≤ 262144) (hB : Byt P) (hr : Rd .u8 w w.heap.size A P) :
    Calls Try.prog 28 #[.slice A P.length cap] w fun e w' => ∃ v, e = .returned v ∧ w'.ownsRow w.heap.size 34 1 v N ((joinN P N).map (Value.int .u32)) ∧ Below w.heap.size w w' := by
  rw [hP]
  replace hP := hide hP
  replace hB := hide hB
  go_enter Try.func28, Try.ntmps28
  go_wp2
  go_loopg [3, 4] N (fun k u3 u4 wr => ∃ m : Nat, k + m = N ∧ u4 = .int .i64 (4 * (m : Int)) ∧ wr.ownsRow w.heap.size 34 1 u3 m ((joinN P m).map (Value.int .u32)) ∧ Below w.heap.size w wr)
  case atStart => exact ⟨0, rfl, rfl, ⟨rfl, .inl ⟨rfl, rfl⟩⟩, Below.refl _ _⟩
  case round =>
    obtain ⟨m, hm, rfl, ho, hb⟩ := hrel
    have hcast : ((4 * N : Nat) : Int) = 4 * (N : Int) := by omega
    cases gk with
    | zero =>
      have hm' : m = N := by omega
      subst hm'
      replace ho := hide ho
      replace hb := hide hb
      clear hr
      go_wp2
      go_ret
      exact ⟨_, rfl, ho.out, hb.out⟩
    | succ k =>
      have hPl := hP.out
      obtain ⟨b, off, rfl, hbb, hc⟩ := hr.at_ (j := 4 * m) (by omega)
      have c0 := (hb.cell (p := ⟨b, off + 4 * m, none⟩) hbb).trans (hc (4 * m) (by omega))
      have c1 := (hb.cell (p := ⟨b, off + (4 * m + 1), none⟩) hbb).trans (hc (4 * m + 1) (by omega))
      have c2 := (hb.cell (p := ⟨b, off + (4 * m + 2), none⟩) hbb).trans (hc (4 * m + 2) (by omega))
      have c3 := (hb.cell (p := ⟨b, off + (4 * m + 3), none⟩) hbb).trans (hc (4 * m + 3) (by omega))
      have hs := joinN_succ P m
      unfold pixAt at hs
      obtain ⟨h0, h1, h2, h3⟩ := hB.out.pix m
      clear hc hPl
      generalize P.getD (4 * m) 0 = x0 at *
      generalize P.getD (4 * m + 1) 0 = x1 at *
      generalize P.getD (4 * m + 2) 0 = x2 at *
      generalize P.getD (4 * m + 3) 0 = x3 at *
      unfold pix4 at hs
      have o1 := or_join 24 (x3 * 16777216) (x0 * 65536) (by omega) (by omega) (by omega) (by omega) (by omega) (by omega)
      have o2 := or_join 16 (x3 * 16777216 + x0 * 65536) (x1 * 256) (by omega) (by omega) (by omega) (by omega) (by omega) (by omega)
      have o3 := or_join 8 (x3 * 16777216 + x0 * 65536 + x1 * 256) x2 (by omega) (by omega) (by omega) (by omega) (by omega) (by omega)
      have e0 : (4 * (m : Int)).toNat = 4 * m := by omega
      have e1 : (4 * (m : Int) + 1).toNat = 4 * m + 1 := by omega
      have e2 : (4 * (m : Int) + 2).toNat = 4 * m + 2 := by omega
      have e3 : (4 * (m : Int) + 3).toNat = 4 * m + 3 := by omega
      have i0 : 4 * (m : Int) < 4 * (N : Int) := by omega
      have i1 : 4 * (m : Int) + 1 < 4 * (N : Int) := by omega
      have i2 : 4 * (m : Int) + 2 < 4 * (N : Int) := by omega
      have i3 : 4 * (m : Int) + 3 < 4 * (N : Int) := by omega
      have hm0 : (0 : Int) ≤ (m : Int) := by omega
      have hmN : (m : Int) ≤ 262144 := by omega
      have hsz := hb.size
      replace hs := hide hs
      replace ho := hide ho
      replace hb := hide hb
      clear hr
      go_wp2
      have W1 : IntKind.i64.wrap (4 * (m : Int) + 1) = 4 * (m : Int) + 1 := IntWalk.i64_in _ (by omega)
      have W2 : IntKind.i64.wrap (4 * (m : Int) + 2) = 4 * (m : Int) + 2 := IntWalk.i64_in _ (by omega)
      have W3 : IntKind.i64.wrap (4 * (m : Int) + 3) = 4 * (m : Int) + 3 := IntWalk.i64_in _ (by omega)
      have n0 : 0 ≤ 4 * (m : Int) := by omega
      have n1 : 0 ≤ 4 * (m : Int) + 1 := by omega
      have n2 : 0 ≤ 4 * (m : Int) + 2 := by omega
      have n3 : 0 ≤ 4 * (m : Int) + 3 := by omega
      have V0 : IntKind.u32.wrap x0 = x0 := u32_wrap _ (by omega) (by omega)
      have V1 : IntKind.u32.wrap x1 = x1 := u32_wrap _ (by omega) (by omega)
      have V2 : IntKind.u32.wrap x2 = x2 := u32_wrap _ (by omega) (by omega)
      have V3 : IntKind.u32.wrap x3 = x3 := u32_wrap _ (by omega) (by omega)
      have V4 : IntKind.u32.wrap (x3 * 16777216) = x3 * 16777216 := u32_wrap _ (by omega) (by omega)
      have V5 : IntKind.u32.wrap (x0 * 65536) = x0 * 65536 := u32_wrap _ (by omega) (by omega)
      have V6 : IntKind.u32.wrap (x1 * 256) = x1 * 256 := u32_wrap _ (by omega) (by omega)
      have iN : m < N := by omega
      have hbw : b < wr.heap.size := by omega
      have hbn : ¬ b = wr.heap.size := by omega
      have hbn' : ¬ wr.heap.size = b := by omega
      generalize hpx : x3 * 16777216 + x0 * 65536 + x1 * 256 + x2 = px at *
      replace hpx := hide hpx
      have HC : ∀ j u, ([.int .u32 px] : List Value)[j]? = some u → (wr.alloc (.cells #[.int .u32 px] 34)).cell? ⟨wr.heap.size, j, none⟩ = some u := by
        intro j u hj
        rw [World.cell?_alloc_new]
        simpa using hj
      replace HC := hide HC
      have hne3 : some b ≠ u3.ownBlock := fun e => by have := (ho.out.lt b e.symm).1; omega
      go_region_held3 (fun W => W.cell? ⟨b, off + 4 * m, none⟩ = some (.int .u8 x0) ∧ W.cell? ⟨b, off + (4 * m + 1), none⟩ = some (.int .u8 x1) ∧ W.cell? ⟨b, off + (4 * m + 2), none⟩ = some (.int .u8 x2) ∧ W.cell? ⟨b, off + (4 * m + 3), none⟩ = some (.int .u8 x3))
        (first
          | go_keep
          | (go_split_ands
             refine ⟨?_, ?_, ?_, ?_⟩
             all_goals
               rw [World.cell?_of_block (hg9.out.block b (by simp; omega) hne3)]
               simp [hbn, *]))
        (first
          | (refine step_pushN (.tmp 12) (.tmp 42) 27 w.heap.size 34 (.int .u32 0) 4 Try.underlying27 info_u32 rfl u3 m 1 ((joinN P m).map (Value.int .u32)) [.int .u32 px] rfl (by simp [Value.oneCell']) wr.heap.size (by simp only [maxLen]; omega) (by omega) ?_; refine ⟨⟨rfl, rfl, rfl, ho.out.alloc _, rfl, HC.out, by simp <;> omega⟩, ?_⟩; intro v' w9 hown9 hg9; replace hown9 := hide hown9; replace hg9 := hide hg9))
      go_wp2
      go_roundg k
      case measure => omega
      case rel => exact ⟨m + 1, by omega, by go_num, by rw [hs.out]; simpa using hown9.out, (below_drew (hb.out.alloc hsz _)).grown hg9.out (by simp; omega) (fun k hk => (ho.out.lt k hk).1)⟩

set_option maxRecDepth 100000 in
set_option maxHeartbeats 2000000 in
theorem split_any (A : Option Addr) (cap : Nat) (Q : List Int) (w : World) (hN : (Q.length : Int) ≤ 262144) (hB : ∀ k, 0 ≤ Q.getD k 0 ∧ Q.getD k 0 ≤ 4294967295) (hr : Rd .u32 w w.heap.size A Q) :
    Calls Try.prog 26 #[.slice A Q.length cap] w fun e w' => ∃ v, e = .returned v ∧ w'.ownsRow w.heap.size 5 1 v (4 * Q.length) ((splitN Q Q.length).map (Value.int .u8)) ∧ Below w.heap.size w w' := by
  replace hB := hide hB
  go_enter Try.func26, Try.ntmps26
  go_wp2
  go_loopg [3, 8] Q.length (fun k u3 u8 wr => ∃ m : Nat, k + m = Q.length ∧ u8 = .int .i64 m ∧ wr.ownsRow w.heap.size 5 1 u3 (4 * m) ((splitN Q m).map (Value.int .u8)) ∧ Below w.heap.size w wr)
  case atStart => exact ⟨0, rfl, rfl, ⟨rfl, .inl ⟨rfl, rfl⟩⟩, Below.refl _ _⟩
  case round =>
    obtain ⟨m, hm, rfl, ho, hb⟩ := hrel
    cases gk with
    | zero =>
      have hm' : m = Q.length := by omega
      subst hm'
      replace ho := hide ho
      replace hb := hide hb
      clear hr
      go_wp2
      go_ret
      exact ⟨_, rfl, ho.out, hb.out⟩
    | succ k =>
      obtain ⟨b, off, rfl, hbb, hc⟩ := hr.at_ (j := m) (by omega)
      have c0 := (hb.cell (p := ⟨b, off + m, none⟩) hbb).trans (hc m (by omega))
      have hs : splitN Q (m + 1) = splitN Q m ++ [Q.getD m 0 / 65536 % 256, Q.getD m 0 / 256 % 256, Q.getD m 0 % 256, Q.getD m 0 / 16777216 % 256] := rfl
      obtain ⟨h0, h1⟩ := hB.out m
      clear hc
      generalize Q.getD m 0 = x at *
      have hml : (m : Int) < (Q.length : Int) := by omega
      have hmN : (m : Int) ≤ 262144 := by omega
      have hm0 : (0 : Int) ≤ (m : Int) := by omega
      have hsz := hb.size
      have hbw : b < wr.heap.size := by omega
      have hbn : ¬ b = wr.heap.size := by omega
      have hbn' : ¬ wr.heap.size = b := by omega
      have E1 : IntKind.u8.wrap (x / 65536) = x / 65536 % 256 := rfl_wrap8 _
      have E2 : IntKind.u8.wrap (x / 256) = x / 256 % 256 := rfl_wrap8 _
      have E3 : IntKind.u8.wrap x = x % 256 := rfl_wrap8 _
      have E4 : IntKind.u8.wrap (x / 16777216) = x / 16777216 % 256 := rfl_wrap8 _
      replace hs := hide hs
      replace ho := hide ho
      replace hb := hide hb
      clear hr
      go_wp2_with (at_builtin; refine wpList_pushL rfl (.tmp 12) (.tmp 24) _ rfl w.heap.size 5 _ 1 Try.underlying22 info_u8p rfl u3 (4 * m) 4 _ rfl ho.out _ rfl (by intro u hu; simp at hu; rcases hu with rfl | rfl | rfl | rfl <;> rfl) rfl (by simp only [maxLen]; omega) (by omega) hsz ?_; intro v' w9 hown9 hg9; replace hown9 := hide hown9; replace hg9 := hide hg9)
      go_roundg k
      case measure => omega
      case rel =>
        refine ⟨m + 1, by omega, by go_num, ?_, hb.out.grown hg9.out hsz (fun k hk => (ho.out.lt k hk).1)⟩
        have h9 := hown9.out
        rw [hs.out, show 4 * (m + 1) = 4 * m + 4 by omega]
        simpa using h9
end Go.Proofs.Ytpiapfahcoopbaa
