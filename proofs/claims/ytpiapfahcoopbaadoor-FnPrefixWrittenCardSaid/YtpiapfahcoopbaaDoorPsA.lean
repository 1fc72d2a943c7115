/- A writer of bits and its choices; codes. -/
import Derived.Test.YtpiapfahcoopbaaDoorBitsPlain
import Derived.Test.YtpiapfahcoopbaaDoorMake
import Derived.Test.YtpiapfahcoopbaaDoorBits
import Derived.Deep.RegionHeld3
import Derived.BigRegion
import Derived.BigQuiet
import Derived.Deep.DeepCutAuto
import Derived.Deep.CutBlock
import Derived.Test.YtpiapfahcoopbaaDoorHitPlain
import Derived.Test.YtpiapfahcoopbaaDoorCodesImpl
namespace Go.Proofs.YtpiapfahcoopbaaDoor
set_option linter.unusedSimpArgs false
set_option linter.unusedVariables false

/-- What was written: len bits, which make the number val. -/
structure WrP (out : List Nat) (len val : Nat) : Prop where
  oct : Oct out
  size : out.length = (len + 7) / 8
  num : leN out = val
  lt : val < 2 ^ len
theorem WrP.nil : WrP [] 0 0 := ⟨fun x h => by simp at h, rfl, rfl, by decide⟩
theorem leN_set : ∀ (l : List Nat) (i y : Nat), i < l.length → leN (l.set i y) + 2 ^ (8 * i) * l.getD i 0 = leN l + 2 ^ (8 * i) * y
  | [], i, y, h => by simp at h
  | x :: l, 0, y, _ => by simp [leN]; omega
  | x :: l, i + 1, y, h => by
    have ih := leN_set l i y (by simpa using h)
    have e : (2 : Nat) ^ (8 * (i + 1)) = 256 * 2 ^ (8 * i) := by rw [Nat.mul_add, Nat.pow_add, Nat.mul_comm]
    rw [List.set_cons_succ, leN, leN, List.getD_cons_succ, e, Nat.mul_assoc, Nat.mul_assoc]
    omega
theorem leN_ge : ∀ (l : List Nat) (i : Nat), 2 ^ (8 * i) * l.getD i 0 ≤ leN l
  | [], i => by simp
  | x :: l, 0 => by simp [leN]
  | x :: l, i + 1 => by
    have ih := leN_ge l i
    have e : (2 : Nat) ^ (8 * (i + 1)) = 256 * 2 ^ (8 * i) := by rw [Nat.mul_add, Nat.pow_add, Nat.mul_comm]
    rw [leN, List.getD_cons_succ, e, Nat.mul_assoc]
    omega
/-- A bit more, where a byte begins. -/
theorem WrP.fresh {out : List Nat} {len val : Nat} (h : WrP out len val) (h8 : len % 8 = 0) {b : Nat} (hb : b ≤ 1) : WrP (out ++ [b]) (len + 1) (val + b * 2 ^ len) := by
  obtain ⟨h1, h2, h3, h4⟩ := h
  have hl : 8 * out.length = len := by omega
  refine ⟨fun x hx => ?_, by simp; omega, ?_, ?_⟩
  · rcases List.mem_append.1 hx with h | h
    · exact h1 x h
    · simp at h; omega
  · rw [leN_append, hl, h3]
    simp [leN, Nat.mul_comm]
  · rw [Nat.pow_succ]
    have : b * 2 ^ len ≤ 1 * 2 ^ len := Nat.mul_le_mul_right _ hb
    omega
/-- The byte at hand holds less than what is next. -/
theorem WrP.room {out : List Nat} {len val : Nat} (h : WrP out len val) (h8 : len % 8 ≠ 0) : len / 8 < out.length ∧ out.getD (len / 8) 0 < 2 ^ (len % 8) := by
  obtain ⟨h1, h2, h3, h4⟩ := h
  refine ⟨by omega, ?_⟩
  have h5 := leN_ge out (len / 8)
  rw [h3] at h5
  have e : (2 : Nat) ^ len = 2 ^ (8 * (len / 8)) * 2 ^ (len % 8) := by rw [← Nat.pow_add]; congr 1; omega
  rw [e] at h4
  exact Nat.lt_of_mul_lt_mul_left (Nat.lt_of_le_of_lt h5 h4)
/-- A bit more, within a byte. -/
theorem WrP.within {out : List Nat} {len val : Nat} (h : WrP out len val) (h8 : len % 8 ≠ 0) {b : Nat} (hb : b ≤ 1) : WrP (out.set (len / 8) (out.getD (len / 8) 0 + b * 2 ^ (len % 8))) (len + 1) (val + b * 2 ^ len) := by
  obtain ⟨hi, hx⟩ := h.room h8
  obtain ⟨h1, h2, h3, h4⟩ := h
  have e : (2 : Nat) ^ len = 2 ^ (8 * (len / 8)) * 2 ^ (len % 8) := by rw [← Nat.pow_add]; congr 1; omega
  have h7 : (2 : Nat) ^ (len % 8) ≤ 128 := by
    have : len % 8 < 8 := Nat.mod_lt _ (by decide)
    exact Nat.le_trans (Nat.pow_le_pow_right (by decide) (show len % 8 ≤ 7 by omega)) (by decide)
  have hbm : b * 2 ^ (len % 8) ≤ 1 * 2 ^ (len % 8) := Nat.mul_le_mul_right _ hb
  refine ⟨fun x hx' => ?_, by rw [List.length_set]; omega, ?_, ?_⟩
  · rcases List.mem_or_eq_of_mem_set hx' with h | h
    · exact h1 x h
    · omega
  · have h5 := leN_set out (len / 8) (out.getD (len / 8) 0 + b * 2 ^ (len % 8)) hi
    rw [Nat.mul_add, h3] at h5
    have e2 : 2 ^ (8 * (len / 8)) * (b * 2 ^ (len % 8)) = b * 2 ^ len := by rw [e, Nat.mul_left_comm]
    rw [e2] at h5
    omega
  · rw [Nat.pow_succ]
    have : b * 2 ^ len ≤ 1 * 2 ^ len := Nat.mul_le_mul_right _ hb
    omega
/-- n bits more of a number. -/
def putV (len val v n : Nat) : Nat := val + v % 2 ^ n * 2 ^ len
theorem putV_zero (len val v : Nat) : putV len val v 0 = val := by simp [putV, Nat.mod_one]
theorem putV_succ (len val v n : Nat) : putV len val v (n + 1) = putV len val v n + v / 2 ^ n % 2 * 2 ^ (len + n) := by
  unfold putV
  have e : v % 2 ^ (n + 1) = v % 2 ^ n + v / 2 ^ n % 2 * 2 ^ n := by rw [Nat.mod_pow_succ, Nat.mul_comm (2 ^ n)]
  rw [e, Nat.add_mul, Nat.mul_assoc, ← Nat.pow_add, Nat.add_comm n len, Nat.add_assoc]
/-- What is written later stands above. -/
def Ext (len val len' val' : Nat) : Prop := len ≤ len' ∧ ∃ X, val' = val + X * 2 ^ len
theorem Ext.refl (len val : Nat) : Ext len val len val := ⟨Nat.le_refl _, 0, by simp⟩
theorem Ext.trans {a b c d e f : Nat} (h : Ext a b c d) (h' : Ext c d e f) : Ext a b e f := by
  obtain ⟨h1, X, hX⟩ := h
  obtain ⟨h2, Y, hY⟩ := h'
  refine ⟨Nat.le_trans h1 h2, X + Y * 2 ^ (c - a), ?_⟩
  rw [hY, hX, Nat.add_mul, Nat.mul_assoc, ← Nat.pow_add, Nat.sub_add_cancel h1]
  omega
theorem Ext.put (len val v n : Nat) : Ext len val (len + n) (putV len val v n) := ⟨Nat.le_add_right _ _, v % 2 ^ n, rfl⟩
/-- The n bits from the place p on of a number make v. -/
def Told (V p n v : Nat) : Prop := V / 2 ^ p % 2 ^ n = v
theorem told_put {len val v n len' V : Nat} (hv : val < 2 ^ len) (h : Ext (len + n) (putV len val v n) len' V) : Told V len n (v % 2 ^ n) := by
  obtain ⟨_, X, rfl⟩ := h
  unfold Told putV
  have hp : 0 < 2 ^ len := Nat.pow_pos (by decide)
  have e : val + v % 2 ^ n * 2 ^ len + X * 2 ^ (len + n) = val + (v % 2 ^ n + X * 2 ^ n) * 2 ^ len := by
    rw [Nat.pow_add, Nat.add_mul, Nat.mul_assoc, Nat.mul_comm (2 ^ n) (2 ^ len)]
    omega
  rw [e, Nat.add_mul_div_right _ _ hp, Nat.div_eq_of_lt hv, Nat.zero_add, Nat.add_mul_mod_self_right, Nat.mod_mod]
end Go.Proofs.YtpiapfahcoopbaaDoor
namespace Go.Proofs.YtpiapfahcoopbaaDoor
set_option linter.unusedSimpArgs false
set_option linter.unusedVariables false
open Go.RowKit Plain

theorem own_shape {w : World} {base : Nat} {e : TypeId} {size : Nat} {v : Value} {n : Nat} {xs : List Value} (h : w.ownsRow base e size v n xs) : ∃ A c, v = .slice A n c := by
  rcases h.2 with ⟨rfl, rfl⟩ | ⟨g, cap, cur, rfl, _⟩
  · exact ⟨none, 0, rfl⟩
  · exact ⟨_, _, rfl⟩
/-- Below B nothing has turned, and of the blocks that stood only those of these types may have. -/
structure UpdT (B : Nat) (ts : List TypeId) (w w' : World) : Prop where
  os : w'.os = w.os
  tape : w'.tape = w.tape
  output : w'.output = w.output
  size : w.heap.size ≤ w'.heap.size
  low : ∀ k, k < B → k < w.heap.size → w'.heap[k]? = w.heap[k]?
  typ : ∀ k t cs, Blk w k t cs → t ∉ ts → Blk w' k t cs
theorem Blk.typ_eq {w : World} {k : Nat} {t t' : TypeId} {cs cs' : Array Value} (h : Blk w k t cs) (h' : Blk w k t' cs') : t = t' := by
  unfold Blk at h h'
  rw [h] at h'
  injection h' with h'
  injection h' with _ h'
theorem Upd.typed {B : Nat} {ts : List TypeId} {S : List Nat} {w w' : World} (u : Upd S w w') (hB : ∀ k ∈ S, B ≤ k) (hS : ∀ k ∈ S, k < w.heap.size → ∃ t cs, Blk w k t cs ∧ t ∈ ts) : UpdT B ts w w' :=
  ⟨u.os, u.tape, u.output, u.size, fun k hk hlt => u.block k hlt (fun hm => by have := hB k hm; omega), fun k t cs hb ht => hb.upd u (fun hm => by
    obtain ⟨t', cs', hb', ht'⟩ := hS k hm hb.lt
    rw [hb.typ_eq hb'] at ht
    exact ht ht')⟩
theorem Upd.typed0 {B : Nat} {ts : List TypeId} {w w' : World} (u : Upd [] w w') : UpdT B ts w w' := u.typed (by simp) (by simp)
namespace UpdT
variable {B : Nat} {ts : List TypeId} {w w' w'' : World}
theorem trans (h : UpdT B ts w w') (h' : UpdT B ts w' w'') : UpdT B ts w w'' :=
  ⟨h'.os.trans h.os, h'.tape.trans h.tape, h'.output.trans h.output, Nat.le_trans h.size h'.size, fun k hk hlt => (h'.low k hk (Nat.lt_of_lt_of_le hlt h.size)).trans (h.low k hk hlt), fun k t cs hb ht => h'.typ k t cs (h.typ k t cs hb ht) ht⟩
theorem more {ts' : List TypeId} (h : UpdT B ts w w') (ht : ∀ t ∈ ts, t ∈ ts') : UpdT B ts' w w' := ⟨h.os, h.tape, h.output, h.size, h.low, fun k t cs hb hn => h.typ k t cs hb (fun hm => hn (ht t hm))⟩
theorem own (h : UpdT B ts w w') {base size n : Nat} {e : TypeId} {v : Value} {xs : List Value} (ho : w.ownsRow base e size v n xs) (he : e ∉ ts) : w'.ownsRow base e size v n xs := by
  obtain ⟨h1, h2⟩ := ho
  refine ⟨h1, ?_⟩
  rcases h2 with h2 | ⟨g, cap, cur, hv, hg, hh, r⟩
  · exact .inl h2
  · exact .inr ⟨g, cap, cur, hv, hg, h.typ g e cur hh he, r⟩
theorem rd (h : UpdT B ts w w') (hB : B ≤ w.heap.size) {k : IntKind} {A : Option Addr} {l : List Int} (hr : Rd k w B A l) : Rd k w' B A l :=
  hr.keep fun q hq => World.cell?_of_block (h.low q.block hq (by omega))
theorem drewN (h : UpdT B ts w w') (n : Nat) : UpdT B ts w (w'.drewN n) := ⟨h.os, h.tape, h.output, h.size, h.low, h.typ⟩
theorem refl (B : Nat) (ts : List TypeId) (w : World) : UpdT B ts w w := ⟨rfl, rfl, rfl, Nat.le_refl _, fun _ _ _ => rfl, fun _ _ _ h _ => h⟩
theorem alloc (h : UpdT B ts w w') (o : Obj) : UpdT B ts w (w'.alloc o) := h.trans (((Upd.refl [] w').alloc o).typed0)
theorem set (h : UpdT B ts w w') {g i : Nat} {t : TypeId} {cs : Array Value} (hb : Blk w' g t cs) (hB : B ≤ g) (ht : t ∈ ts) (v : Value) : UpdT B ts w (w'.setCell ⟨g, i, none⟩ v) :=
  h.trans (((Upd.refl [g] w').setCell (p := ⟨g, i, none⟩) (.inl (by simp)) v).typed (by simpa using hB) (fun k hk _ => by simp at hk; subst hk; exact ⟨_, _, hb, ht⟩))
theorem below (h : UpdT B ts w w') (hB : B ≤ w.heap.size) : Below B w w' := ⟨h.os, h.tape, h.output, h.size, fun k hk => h.low k hk (by omega)⟩
theorem low' (h : UpdT B ts w w') {B' : Nat} (hB : B' ≤ B) : UpdT B' ts w w' := ⟨h.os, h.tape, h.output, h.size, fun k hk hlt => h.low k (by omega) hlt, h.typ⟩
end UpdT
theorem own_cap' {w : World} {base : Nat} {e : TypeId} {size : Nat} {A : Option Addr} {n cap : Nat} {xs : List Value} (h : w.ownsRow base e size (.slice A n cap) n xs) : n ≤ cap := by
  rcases h.2 with ⟨h0, h1⟩ | ⟨g, cap2, cur, hv, hb, hh, hc, _⟩
  · omega
  · injection hv with _ _ h2
    omega
/-- A row of the call's own has grown. -/
theorem grown_typed {w w' : World} {B size n : Nat} {e : TypeId} {v : Value} {xs : List Value} (ho : w.ownsRow B e size v n xs) (hg : w.grownBy w' v.ownBlock) : UpdT B [e] w w' := by
  refine ((Upd.refl v.ownBlock.toList w).grown hg (fun g h => .inl (by rw [h]; simp))).typed (fun k hk => (ho.lt k (by simpa using hk)).1) (fun k hk _ => ?_)
  have hk' : v.ownBlock = some k := by simpa using hk
  rcases ho.2 with ⟨h0, _⟩ | ⟨g, cap, cur, hv, _, hh, _⟩
  · rw [h0] at hk'; cases hk'
  · rw [hv] at hk'
    injection hk' with hk'
    subst hk'
    exact ⟨e, cur, hh, by simp⟩
theorem own_blk' {w : World} {base : Nat} {e : TypeId} {g n m : Nat} {xs : List Value} (h : w.ownsRow base e 1 (.slice (some ⟨g, 0, none⟩) n m) n xs) : ∃ cs, Blk w g e cs ∧ cs.size = m := by
  rcases h.2 with ⟨h, _⟩ | ⟨g', cap, cur, hv, _, hh, _, _, hs, _⟩
  · cases h
  · injection hv with h1 _ h2
    injection h1 with h1
    injection h1 with h1
    subst h1 h2
    exact ⟨cur, hh, by omega⟩
/-- A writer of bits. -/
structure WrAt (w : World) (g base len val : Nat) : Prop where
  h : ∃ (out : List Nat) (A : Option Addr) (c : Nat), Blk w g 42 #[.slice A out.length c, .int .i64 (len : Nat)] ∧ w.ownsRow base 5 1 (.slice A out.length c) out.length ((ofN' out).map (Value.int .u8)) ∧ WrP out len val
theorem WrAt.typed {w w' : World} {g base len val B : Nat} {ts : List TypeId} (h : WrAt w g base len val) (u : UpdT B ts w w') (h1 : 42 ∉ ts) (h2 : 5 ∉ ts) : WrAt w' g base len val := by
  obtain ⟨out, A, c, a, b, d⟩ := h.h
  exact ⟨out, A, c, u.typ _ _ _ a h1, u.own b h2, d⟩
/-- Choices. -/
structure ChAt (w : World) (B g : Nat) : Prop where
  h : ∃ (l : List Nat) (A : Option Addr) (c i : Nat) (p : Bool), Blk w g 91 #[.slice A l.length c, .int .i64 (i : Nat), .bool p] ∧ Rd .u8 w B A (ofN' l) ∧ i ≤ l.length ∧ (l.length : Int) ≤ 1073741824 ∧ Oct l
theorem ChAt.typed {w w' : World} {g B : Nat} {ts : List TypeId} (h : ChAt w B g) (u : UpdT B ts w w') (h1 : 91 ∉ ts) (hB : B ≤ w.heap.size) : ChAt w' B g := by
  obtain ⟨l, A, c, i, p, a, b, d⟩ := h.h
  exact ⟨l, A, c, i, p, u.typ _ _ _ a h1, u.rd hB b, d⟩
end Go.Proofs.YtpiapfahcoopbaaDoor
namespace Go.Proofs.YtpiapfahcoopbaaDoor
set_option linter.unusedSimpArgs false
set_option linter.unusedVariables false
set_option linter.unnecessarySimpa false
open Go.RowKit Plain

def NumPost (B c : Nat) (m : Int) (w : World) (e : Ending) (w' : World) : Prop := ∃ x : Nat, e = .returned (.int .i64 (x : Nat)) ∧ (x : Int) < m ∧ ChAt w' B c ∧ UpdT B [91] w w'
set_option maxRecDepth 100000 in
set_option maxHeartbeats 8000000 in
theorem byte_any (B c : Nat) (w : World) (hC : ChAt w B c) (hB : B ≤ c) (hBw : B ≤ w.heap.size) :
    Calls Tryd.prog 58 #[.pointer (some ⟨c, 0, none⟩)] w (NumPost B c 256 w) := by
  obtain ⟨l, A, cp, i, p, hb, hr, hi, hl, hO⟩ := hC.h
  have k0 : w.cell? ⟨c, 0, none⟩ = some (.slice A l.length cp) := hb.cell 0
  have k1 : w.cell? ⟨c, 1, none⟩ = some (.int .i64 (i : Nat)) := hb.cell 1
  have z1 := hb.frozen 1
  have hu0 := hide (UpdT.refl B [91] w)
  by_cases hend : i = l.length
  · have hge : (l.length : Int) ≤ (i : Int) := by omega
    have hC' := hide hC
    clear hC hb hr hO
    subst hend
    go_enter Tryd.func58, Tryd.ntmps58
    go_wp2_with fail
    go_quiet (fail)
    go_wp2_with fail
    go_ret
    exact ⟨0, rfl, by decide, hC'.out.typed (ts := []) ((UpdT.refl B [] w).drewN _) (by simp) hBw, hu0.out.drewN _⟩
  · have hge : ¬ (l.length : Int) ≤ (i : Int) := by omega
    have hlt : i < l.length := by omega
    obtain ⟨q, o, rfl, hq, hc⟩ := hr.at_ (j := i) (by simp [ofN']; exact hlt)
    have kx := hc i (by simp [ofN']; exact hlt)
    have e : (ofN' l).getD i 0 = ((l.getD i 0 : Nat) : Int) := by simp [ofN', hlt]
    rw [e] at kx
    have hx : l.getD i 0 ≤ 255 := by
      have : l.getD i 0 = l[i] := by simp [hlt]
      rw [this]; exact hO _ (List.getElem_mem hlt)
    generalize l.getD i 0 = x at *
    have hqc : ¬ q = c := by omega
    have hqc' : ¬ c = q := by omega
    have hiI : (i : Int) < (l.length : Int) := by omega
    have hxI : (x : Int) ≤ 255 := by omega
    have hwi : IntKind.i64.wrap ((i : Int) + 1) = (i : Int) + 1 := IntWalk.i64_in _ (by omega)
    have hwj : IntKind.i64.wrap ((i : Int) + 1 - 1) = (i : Int) := by rw [IntWalk.i64_in _ (by omega)]; omega
    have hb2 : ∀ n, Blk ((w.drewN n).setCell ⟨c, 1, none⟩ (.int .i64 ((i : Int) + 1))) c 91 #[.slice (some ⟨q, o, none⟩) l.length cp, .int .i64 ((i : Int) + 1), .bool p] := fun n => ((Blk.drewN hb n).set_ 1 (.int .i64 ((i : Int) + 1))).to rfl (by simp)
    have hu2 : ∀ n, UpdT B [91] w ((w.drewN n).setCell ⟨c, 1, none⟩ (.int .i64 ((i : Int) + 1))) := fun n => (hu0.out.drewN n).set (Blk.drewN hb n) hB (by simp) _
    have kx2 : ∀ n, ((w.drewN n).setCell ⟨c, 1, none⟩ (.int .i64 ((i : Int) + 1))).cell? ⟨q, o + i, none⟩ = some (.int .u8 (x : Nat)) := fun n => (World.cell?_setCell_other _ _ _ _ (fun e => by injection e with e1; exact hqc' e1)).trans kx
    replace hb2 := hide hb2
    replace hu2 := hide hu2
    replace kx2 := hide kx2
    have hO' := hO
    replace hr := hide hr
    replace hO := hide hO
    clear hC hb hc e
    go_enter Tryd.func58, Tryd.ntmps58
    go_wp2_with fail
    go_quiet (fail)
    go_wp2_with fail
    have k0' := (hb2.out nq).cell 0
    have k1' := (hb2.out nq).cell 1
    have kx' := kx2.out nq
    have hu3 := hide (hu2.out nq)
    have hb3 := hide (hb2.out nq)
    clear k0 k1 kx z1 hb2 hu2 kx2
    generalize (w.drewN nq).setCell ⟨c, 1, none⟩ (.int .i64 ((i : Int) + 1)) = w2 at *
    replace k0' : w2.cell? ⟨c, 0, none⟩ = some (.slice (some ⟨q, o, none⟩) l.length cp) := k0'
    replace k1' : w2.cell? ⟨c, 1, none⟩ = some (.int .i64 ((i : Int) + 1)) := k1'
    go_quiet (fail)
    go_wp2_with fail
    go_ret
    refine ⟨x, rfl, by omega, ?_, hu3.out.drewN _⟩
    exact ⟨l, some ⟨q, o, none⟩, cp, i + 1, p, (Blk.drewN hb3.out _).to rfl (by simp), (hu3.out.drewN _).rd hBw hr.out, by omega, hl, hO.out⟩
theorem wraps63c (n : Int) (h0 : 0 ≤ n) (h1 : n < 2 ^ 62) : IntKind.i64.wrap n = n := by
  have h1' : n < 4611686018427387904 := by simpa using h1
  exact IntWalk.i64_in n (by omega)
theorem three_bytes (x y z : Nat) (hx : x < 256) (hy : y < 256) (hz : z < 256) : bits .or .i64 ((x : Int) * 65536) ((y : Int) * 256) = (x : Int) * 65536 + (y : Int) * 256 ∧ bits .or .i64 ((x : Int) * 65536 + (y : Int) * 256) (z : Int) = (x : Int) * 65536 + (y : Int) * 256 + z := by
  have p : (2 : Int) ^ 62 = 4611686018427387904 := by decide
  have p16 : (2 : Int) ^ 16 = 65536 := by decide
  have p8 : (2 : Int) ^ 8 = 256 := by decide
  refine ⟨bits_join .i64 62 (by decide) wraps63c 16 _ _ (by omega) (by rw [p16]; omega) (by rw [p]; omega) (by omega) (by rw [p16]; omega) (by rw [p]; omega), bits_join .i64 62 (by decide) wraps63c 8 _ _ (by omega) (by rw [p8]; omega) (by rw [p]; omega) (by omega) (by rw [p8]; omega) (by rw [p]; omega)⟩
set_option maxRecDepth 100000 in
set_option maxHeartbeats 8000000 in
theorem nextc_any (B c n : Nat) (w : World) (hC : ChAt w B c) (hB : B ≤ c) (hBw : B ≤ w.heap.size) (h1 : 1 ≤ n) (hn : (n : Int) ≤ 1073741824) :
    Calls Tryd.prog 43 #[.pointer (some ⟨c, 0, none⟩), .int .i64 (n : Nat)] w (NumPost B c n w) := by
  have hnI : (1 : Int) ≤ (n : Int) := by omega
  have cB := hide (fun (W : World) (h : ChAt W B c) (hW : B ≤ W.heap.size) => byte_any B c W h hB hW)
  have hu0 := hide (UpdT.refl B [91] w)
  replace hC := hide hC
  by_cases hn1 : n = 1
  · subst hn1
    go_enter Tryd.func43, Tryd.ntmps43
    go_wp2_with fail
    go_ret
    exact ⟨0, rfl, by decide, hC.out, hu0.out⟩
  · have h2I : ¬ (n : Int) ≤ 1 := by omega
    by_cases h256 : n ≤ 256
    · have h256I : (n : Int) ≤ 256 := by omega
      have hn0 : ¬ (n : Int) = 0 := by omega
      have cB0 := hide (cB.out w hC.out hBw)
      go_enter Tryd.func43, Tryd.ntmps43
      go_wp2_with (first | (go_at_call 58; (with_reducible refine (cB0.out).mono ?_); rintro e w1 ⟨x, rfl, hx, hC1, hu1⟩; have htm : (x : Int).tmod (n : Int) = ((x % n : Nat) : Int) := (by rw [Int.tmod_eq_emod_of_nonneg (by omega)]; simp); replace hC1 := hide hC1; replace hu1 := hide hu1) | fail)
      go_ret
      exact ⟨x % n, rfl, by have := Nat.mod_lt x (show n > 0 by omega); omega, hC1.out, hu1.out⟩
    · have h256I : ¬ (n : Int) ≤ 256 := by omega
      have hn0 : ¬ (n : Int) = 0 := by omega
      have cB0 := hide (cB.out w hC.out hBw)
      go_enter Tryd.func43, Tryd.ntmps43
      go_wp2_with fail
      (with_reducible refine (cB0.out).mono ?_)
      rintro e w1 ⟨x, rfl, hx, hC1, hu1⟩
      have cB1 := hide (cB.out w1 hC1 (Nat.le_trans hBw hu1.size))
      replace hu1 := hide hu1
      clear cB0
      go_wp2_with fail
      (with_reducible refine (cB1.out).mono ?_)
      rintro e w2 ⟨y, rfl, hy, hC2, hu2⟩
      have cB2 := hide (cB.out w2 hC2 (Nat.le_trans hBw (hu1.out.trans hu2).size))
      replace hu2 := hide (hu1.out.trans hu2)
      clear cB1
      go_wp2_with fail
      (with_reducible refine (cB2.out).mono ?_)
      rintro e w3 ⟨z, rfl, hz, hC3, hu3⟩
      replace hu3 := hide (hu2.out.trans hu3)
      replace hC3 := hide hC3
      obtain ⟨o1, o2⟩ := three_bytes x y z (by omega) (by omega) (by omega)
      have hN : ((x : Int) * 65536 + (y : Int) * 256 + z) = ((x * 65536 + y * 256 + z : Nat) : Int) := by simp
      have htm : ((x : Int) * 65536 + (y : Int) * 256 + z).tmod (n : Int) = (((x * 65536 + y * 256 + z) % n : Nat) : Int) := by rw [hN, Int.tmod_eq_emod_of_nonneg (by omega)]; simp
      obtain ⟨r, hr⟩ : ∃ r, r = (x * 65536 + y * 256 + z) % n := ⟨_, rfl⟩
      rw [← hr] at htm
      have hrn : r < n := by rw [hr]; exact Nat.mod_lt _ (by omega)
      clear hN hr cB2
      go_wp2_with fail
      go_ret
      exact ⟨r, rfl, by omega, hC3.out, hu3.out⟩
def TruthPost (B c : Nat) (w : World) (e : Ending) (w' : World) : Prop := ∃ x : Bool, e = .returned (.bool x) ∧ ChAt w' B c ∧ UpdT B [91] w w'
set_option maxRecDepth 100000 in
set_option maxHeartbeats 8000000 in
theorem is_any (B c n : Nat) (w : World) (hC : ChAt w B c) (hB : B ≤ c) (hBw : B ≤ w.heap.size) (h1 : 1 ≤ n) (hn : (n : Int) ≤ 1073741824) :
    Calls Tryd.prog 42 #[.pointer (some ⟨c, 0, none⟩), .int .i64 (n : Nat)] w (TruthPost B c w) := by
  have cN := hide (nextc_any B c n w hC hB hBw h1 hn)
  clear hC
  go_enter Tryd.func42, Tryd.ntmps42
  go_wp2_with (first | (go_at_call 43; (with_reducible refine (cN.out).mono ?_); rintro e w1 ⟨x, rfl, hx, hC1, hu1⟩; replace hC1 := hide hC1; replace hu1 := hide hu1) | fail)
  go_ret
  exact ⟨_, rfl, hC1.out, hu1.out⟩
theorem choose_any (A : Option Addr) (l : List Nat) (cp B : Nat) (w : World) (hr : Rd .u8 w B A (ofN' l)) (hl : (l.length : Int) ≤ 1073741824) (hO : Oct l) (hB : B ≤ w.heap.size) :
    Calls Tryd.prog 23 #[.slice A l.length cp] w fun e w' => e = .returned (.pointer (some ⟨w.heap.size, 0, none⟩)) ∧ ChAt w' B w.heap.size ∧ Upd [] w w' := by
  have hu := hide ((Upd.refl [] w).alloc (.cells #[.slice A l.length cp, .int .i64 0, .bool false] 91))
  have hb := hide (Blk.new w 91 #[.slice A l.length cp, .int .i64 0, .bool false])
  have hr' := hide (hr.upd hu.out hB (by simp))
  replace hO := hide hO
  clear hr
  go_enter Tryd.func23, Tryd.ntmps23
  go_wp2_with fail
  go_ret
  exact ⟨rfl, ⟨l, A, cp, 0, false, hb.out, hr'.out, Nat.zero_le _, hl, hO.out⟩, hu.out⟩
end Go.Proofs.YtpiapfahcoopbaaDoor
namespace Go.Proofs.YtpiapfahcoopbaaDoor
set_option linter.unusedSimpArgs false
set_option linter.unusedVariables false
set_option linter.unnecessarySimpa false
open Go.RowKit Plain

theorem info_u8w : (Tryd.prog.info? 5).map (fun i => (i.zero, i.size, i.bytes)) = some (some (Value.int .u8 0), 1, 1) := by kernel_rfl
theorem wraps8 (n : Int) (h0 : 0 ≤ n) (h1 : n < 2 ^ 8) : IntKind.u8.wrap n = n := by
  have h1' : n < 256 := by simpa using h1
  exact IntWalk.u8_in n (by omega)
theorem put_bit (v j x r b : Nat) (hb : b = v / 2 ^ j % 2) (hr : r < 8) (hx : x < 2 ^ r) : bits BinOp.or IntKind.u8 (x : Int) (wrap64 (bits BinOp.and IntKind.i64 ((v : Int) / 2 ^ j) 1 * 2 ^ r) % 256) = ((x + b * 2 ^ r : Nat) : Int) := by
  have hw : ∀ z, wrap64 z = IntKind.i64.wrap z := fun z => by unfold wrap64; rw [IntKind.wrap_i64]
  rw [hw]
  have e1 : bits BinOp.and IntKind.i64 ((v : Int) / 2 ^ j) 1 = (b : Int) := by
    have := and_mask .i64 1 (by decide) ((v : Int) / 2 ^ j)
    rw [show (2 : Int) ^ 1 - 1 = 1 from rfl] at this
    rw [this, hb]
    simp
  have h7 : (2 : Nat) ^ r ≤ 128 := Nat.le_trans (Nat.pow_le_pow_right (by decide) (show r ≤ 7 by omega)) (by decide)
  have hb1 : b ≤ 1 := by omega
  have hbr : b * 2 ^ r ≤ 1 * 2 ^ r := Nat.mul_le_mul_right _ hb1
  have e2 : (b : Int) * 2 ^ r = ((b * 2 ^ r : Nat) : Int) := by simp
  rw [e1, e2, IntWalk.i64_in _ (by omega), Int.emod_eq_of_lt (by omega) (by omega)]
  rw [bits_join_low .u8 8 (by decide) wraps8 r (x : Int) ((b * 2 ^ r : Nat) : Int) (by omega) (by exact_mod_cast hx) (by rw [show (2 : Int) ^ 8 = 256 from rfl]; omega) (by omega) (by rw [← e2]; exact Int.mul_emod_left _ _) (by rw [show (2 : Int) ^ 8 = 256 from rfl]; omega)]
  omega
theorem ofN'_lenP (l : List Nat) : (ofN' l).length = l.length := by simp [ofN']
set_option maxRecDepth 100000 in
set_option maxHeartbeats 8000000 in
theorem put_any (g base B v n len val : Nat) (w : World) (hW : WrAt w g base len val) (hB : B ≤ base) (hbw : base ≤ w.heap.size) (hg : B ≤ g) (hl : (len : Int) + n ≤ 1073741824) (hv : (v : Int) ≤ 1073741824) (hn : (n : Int) ≤ 32) :
    Calls Tryd.prog 47 #[.pointer (some ⟨g, 0, none⟩), .int .i64 (v : Nat), .int .i64 (n : Nat)] w fun e w' => e = .returned (.tuple #[]) ∧ WrAt w' g base (len + n) (putV len val v n) ∧ UpdT B [42, 5] w w' := by
  go_enter Tryd.func47, Tryd.ntmps47
  go_wp2
  go_loopg [6] n (fun k v6 wr => ∃ j : Nat, k + j = n ∧ v6 = .int .i64 (j : Nat) ∧ WrAt wr g base (len + j) (putV len val v j) ∧ UpdT B [42, 5] w wr)
  case atStart => exact ⟨0, by omega, rfl, by rw [putV_zero]; exact hW, UpdT.refl _ _ _⟩
  case round =>
    obtain ⟨j, hj, rfl, hW, hu⟩ := hrel
    cases gk with
    | zero =>
      have hj' : j = n := by omega
      subst hj'
      replace hW := hide hW
      replace hu := hide hu
      go_wp2_with fail
      go_end0
      exact ⟨rfl, hW.out, hu.out⟩
    | succ k =>
      have hjn : j < n := by omega
      have hjI : (j : Int) < (n : Int) := by omega
      obtain ⟨out, A, c, hb, ho, hP⟩ := hW.h
      obtain ⟨P, hPd⟩ : ∃ P, P = len + j := ⟨_, rfl⟩
      have hsucc := putV_succ len val v j
      have hlj : len + (j + 1) = P + 1 := by omega
      rw [← hPd] at hb hP hsucc
      have hPI : (P : Int) ≤ 1073741824 := by omega
      have c0 := hb.cell 0
      have c1 := hb.cell 1
      have z0 := hb.frozen 0
      have z1 := hb.frozen 1
      replace c0 : wr.cell? _ = some _ := c0
      replace c1 : wr.cell? _ = some _ := c1
      have hne := own_ne ho hb (by decide)
      have hsz := hu.size
      have hol := hP.size
      have hcap := own_cap' ho
      have hbl : v / 2 ^ j % 2 = 0 ∨ v / 2 ^ j % 2 = 1 := by omega
      have htm : (P : Int).tmod 8 = ((P % 8 : Nat) : Int) := by rw [Int.tmod_eq_emod_of_nonneg (by omega)]; omega
      replace hol := hide hol
      obtain ⟨r8, hr8⟩ : ∃ r8, r8 = P % 8 := ⟨_, rfl⟩
      obtain ⟨q8, hq8⟩ : ∃ q8, q8 = P / 8 := ⟨_, rfl⟩
      rw [← hr8] at htm
      have htd : (P : Int).tdiv 8 = (q8 : Int) := by rw [Int.tdiv_eq_ediv_of_nonneg (by omega)]; omega
      replace hb := hide hb
      replace ho := hide ho
      replace hu := hide hu
      replace hP := hide hP
      replace hsucc := hide hsucc
      replace hW := hide hW
      replace hne := hide hne
      replace hr8 := hide hr8
      replace hq8 := hide hq8
      clear hPd
      go_upto_if 17 with fail
      go_cut [] from 18 to 26 (fun wc => ∃ (out' : List Nat) (A' : Option Addr) (c' : Nat), Blk wc g 42 #[.slice A' out'.length c', .int .i64 (P : Nat)] ∧ wc.ownsRow base 5 1 (.slice A' out'.length c') out'.length ((ofN' out').map (Value.int .u8)) ∧ q8 < out'.length ∧ out'.length ≤ q8 + 1 ∧ out'.getD q8 0 < 2 ^ r8 ∧ (∀ b, b ≤ 1 → WrP (out'.set q8 (out'.getD q8 0 + b * 2 ^ r8)) (P + 1) (putV len val v j + b * 2 ^ P)) ∧ UpdT B [42, 5] w wc)
      case first =>
        by_cases h8 : r8 = 0
        · have hl8 : out.length = q8 := by have := hol.out; have := hr8.out; have := hq8.out; omega
          replace hl8 := hide hl8
          subst h8
          go_wp2_with (first | (refine wpList_push rfl (.tmp 22) (.tmp 23) 22 rfl base 5 (.int .u8 0) 1 Tryd.underlying22 info_u8w rfl (.slice A out.length c) out.length ((ofN' out).map (Value.int .u8)) rfl ho.out (.int .u8 0) rfl rfl (by simp only [maxLen]; have := hol.out; omega) (by have := hol.out; omega) (by omega) ?_; intro v' w4 hown' hg'; obtain ⟨A4, c4, rfl⟩ := own_shape hown'; have hb4 := hb.out.grown hg' hne.out; have k0 : w4.cell? ⟨g, 0, none⟩ = some _ := hb4.cell 0; have k0f := hb4.frozen 0; have ug := hide (hu.out.trans ((grown_typed ho.out hg').low' hB |>.more (by simp))); replace hb4 := hide hb4; replace hown' := hide hown') | fail)
          go_meet
          have hlo := hl8.out
          have hg0 : (out ++ [0]).getD q8 0 = 0 := by rw [← hlo]; simp
          refine ⟨out ++ [0], A4, c4, ?_, ?_, by simp; omega, by simp; omega, by rw [hg0]; decide, fun b hb1 => ?_, ug.out.set hb4.out hg (by simp) _⟩
          · rw [List.length_append]
            exact (hb4.out.set_ 0 _).to rfl rfl
          · rw [List.length_append, show (ofN' (out ++ [0])).map (Value.int .u8) = (ofN' out).map (Value.int .u8) ++ [.int .u8 0] from by simp [ofN']]
            exact own_set_far hown'.out (own_ne hown'.out hb4.out (by decide)) _
          · rw [hg0, ← hlo, List.set_append_right _ _ (Nat.le_refl _), Nat.sub_self]
            have := hP.out.fresh hr8.out.symm hb1
            simpa using this
        · have h8q : (((r8 : Nat) : Int) == 0) = false := beq_false_of_ne (by omega)
          have h8n : ¬ (r8 : Int) = 0 := by omega
          go_wp2_with fail
          go_meet
          have hrm := hP.out.room (by rw [← hr8.out]; exact h8)
          rw [← hq8.out, ← hr8.out] at hrm
          refine ⟨out, A, c, hb.out, ho.out, hrm.1, by have := hol.out; have := hr8.out; have := hq8.out; omega, hrm.2, fun b hb1 => ?_, hu.out⟩
          have := hP.out.within (by rw [← hr8.out]; exact h8) hb1
          rwa [← hq8.out, ← hr8.out] at this
      case rest =>
        obtain ⟨out', A', c', hb', ho', hq1, hq2, hlt, hput, hu'⟩ := hcut
        obtain ⟨ga, cap, hv', _, hgal⟩ := ho'.form (by omega)
        obtain rfl : A' = some ⟨ga, 0, none⟩ := by injection hv'
        have k0 : wc.cell? ⟨g, 0, none⟩ = some (.slice (some ⟨ga, 0, none⟩) out'.length c') := hb'.cell 0
        have k1 : wc.cell? ⟨g, 1, none⟩ = some (.int .i64 (P : Nat)) := hb'.cell 1
        have kx : wc.cell? ⟨ga, q8, none⟩ = some (.int .u8 ((out'.getD q8 0 : Nat) : Int)) := by
          rw [own_cell ho' q8 hq1]
          simp [ofN', hq1]
        have kf : wc.frozen? ⟨ga, q8, none⟩ = false := by
          obtain ⟨cs, hcs, _⟩ := own_blk' ho'
          exact hcs.frozen q8
        have hne2 := own_ne ho' hb' (by decide)
        have hgne : ¬ ga = g := fun e => hne2 (by rw [e]; rfl)
        have hgne' : ¬ g = ga := fun e => hgne e.symm
        obtain ⟨b, hbd⟩ : ∃ b, b = v / 2 ^ j % 2 := ⟨_, rfl⟩
        have hb1 : b ≤ 1 := by omega
        have hp := hput b hb1
        have hq1I : (q8 : Int) < (out'.length : Int) := by omega
        have hr8l : r8 < 8 := by have := hr8.out; omega
        have hwq : IntKind.i64.wrap (q8 : Int) = (q8 : Int) := IntWalk.i64_in _ (by have := hq8.out; omega)
        have hq8I : (q8 : Int) ≤ 134217728 := by have := hq8.out; omega
        generalize out'.getD q8 0 = x at *
        replace hb' := hide hb'
        replace ho' := hide ho'
        replace hu' := hide hu'
        replace hp := hide hp
        clear hput hq2 hW hu hb ho hP hne z0 z1 c0 c1 hcap
        have hpb := put_bit v j x r8 b hbd hr8l hlt
        obtain ⟨y, hy⟩ : ∃ y, y = x + b * 2 ^ r8 := ⟨_, rfl⟩
        rw [← hy] at hpb
        replace hp : Hid (WrP (out'.set q8 y) (P + 1) (putV len val v j + b * 2 ^ P)) := by rw [hy]; exact hp
        replace hbd := hide hbd
        replace hy := hide hy
        have ho5 := own_set ho'.out q8 ((y : Nat) : Int)
        have hb5 := Blk.far hb'.out (p := ⟨ga, q8, none⟩) hgne' (.int .u8 ((y : Nat) : Int))
        have hu5 : UpdT B [42, 5] w (wc.setCell ⟨ga, q8, none⟩ (.int .u8 ((y : Nat) : Int))) := by
          obtain ⟨cs, hcs, _⟩ := own_blk' ho'.out
          exact hu'.out.set hcs (Nat.le_trans hB (by assumption)) (by simp) _
        replace ho5 := hide ho5
        replace hb5 := hide hb5
        replace hu5 := hide hu5
        go_wp2_with fail
        go_region
        have k1' : (wc.setCell ⟨ga, q8, none⟩ (.int .u8 ((y : Nat) : Int))).drew.cell? ⟨g, 1, none⟩ = some (.int .i64 (P : Nat)) := hb5.out.cell 1
        have k1f : (wc.setCell ⟨ga, q8, none⟩ (.int .u8 ((y : Nat) : Int))).drew.frozen? ⟨g, 1, none⟩ = false := hb5.out.frozen 1
        replace hb5 := hide (Blk.drew hb5.out)
        replace hu5 := hide (UpdT.drewN hu5.out 1)
        replace hpb := hide hpb
        clear k0 k1 kx kf
        obtain ⟨w5, hw5⟩ : ∃ w5, w5 = (wc.setCell ⟨ga, q8, none⟩ (.int .u8 ((y : Nat) : Int))).drew := ⟨_, rfl⟩
        have ho5' : Hid (w5.ownsRow base 5 1 (.slice (some ⟨ga, 0, none⟩) out'.length c') out'.length (((ofN' out').set q8 ((y : Nat) : Int)).map (Value.int .u8))) := hide (by rw [hw5]; exact ho5.out)
        have hu5' : Hid (UpdT B [42, 5] w w5) := hide (by rw [hw5]; exact hu5.out)
        rw [← hw5] at k1' k1f hb5 ⊢
        replace hw5 := hide hw5
        clear ho5 hu5
        go_wp2_with fail
        go_roundg k
        case measure => omega
        case rel =>
          refine ⟨j + 1, by omega, by go_num, ?_, hu5'.out.set hb5.out hg (by simp) _⟩
          rw [hlj, hsucc.out, ← hbd.out]
          refine ⟨out'.set q8 y, some ⟨ga, 0, none⟩, c', ?_, ?_, hp.out⟩
          · rw [List.length_set]
            exact (hb5.out.set_ 1 _).to rfl (by simp)
          · rw [List.length_set, show ofN' (out'.set q8 y) = (ofN' out').set q8 ((y : Nat) : Int) from by simp [ofN', List.map_set]]
            exact own_set_far ho5'.out (own_ne ho5'.out hb5.out (by decide)) _
end Go.Proofs.YtpiapfahcoopbaaDoor
namespace Go.Proofs.YtpiapfahcoopbaaDoor
set_option linter.unusedSimpArgs false
set_option linter.unusedVariables false
set_option linter.unnecessarySimpa false
open Go.RowKit Plain

theorem wraps16t (n : Int) (h0 : 0 ≤ n) (h1 : n < 2 ^ 17) : IntKind.i64.wrap n = n := by
  have h1' : n < 131072 := by simpa using h1
  exact IntWalk.i64_in n (by omega)
theorem turn_bit (v j x : Nat) (hx : x < 2 ^ 16) : bits BinOp.or IntKind.i64 ((x : Int) * 2) (bits BinOp.and IntKind.i64 ((v : Int) / 2 ^ j) 1) = ((2 * x + v / 2 ^ j % 2 : Nat) : Int) := by
  obtain ⟨b, hb⟩ : ∃ b, b = v / 2 ^ j % 2 := ⟨_, rfl⟩
  have e1 : bits BinOp.and IntKind.i64 ((v : Int) / 2 ^ j) 1 = (b : Int) := by
    have := and_mask .i64 1 (by decide) ((v : Int) / 2 ^ j)
    rw [show (2 : Int) ^ 1 - 1 = 1 from rfl] at this
    rw [this, hb]
    simp
  rw [e1, ← hb]
  rw [bits_join .i64 17 (by decide) wraps16t 1 ((x : Int) * 2) (b : Int) (by omega) (by omega) (by rw [show (2 : Int) ^ 17 = 131072 from rfl]; omega) (by omega) (by rw [show (2 : Int) ^ 1 = 2 from rfl]; omega) (by rw [show (2 : Int) ^ 17 = 131072 from rfl]; omega)]
  omega
set_option maxRecDepth 100000 in
set_option maxHeartbeats 4000000 in
theorem turnedW_any (v n : Nat) (w : World) (hn : n ≤ 15) (hv : (v : Int) ≤ 1073741824) :
    Calls Tryd.prog 69 #[.int .i64 (v : Nat), .int .i64 (n : Nat)] w fun e w' => e = .returned (.int .i64 ((revN v n : Nat) : Int)) ∧ w' = w := by
  go_enter Tryd.func69, Tryd.ntmps69
  go_wp2
  go_loopg [6, 5] n (fun k v4 v3 wr => ∃ j : Nat, k + j = n ∧ v4 = .int .i64 (j : Nat) ∧ v3 = .int .i64 ((revN v j : Nat) : Int) ∧ wr = w)
  case atStart => exact ⟨0, by omega, rfl, rfl, rfl⟩
  case round =>
    obtain ⟨j, hj, rfl, rfl, rfl⟩ := hrel
    cases gk with
    | zero =>
      have hj' : j = n := by omega
      subst hj'
      go_wp2
      go_ret
      exact ⟨rfl, rfl⟩
    | succ k =>
      have hjn : (j : Int) < (n : Int) := by omega
      have hlt := revN_lt v j
      have h16 : 2 ^ j ≤ 2 ^ 14 := Nat.pow_le_pow_right (by decide) (by omega)
      have hs : 2 * revN v j + v / 2 ^ j % 2 = revN v (j + 1) := rfl
      have htb := turn_bit v j (revN v j) (by omega)
      rw [hs] at htb
      have hx : revN v j < 16384 := by omega
      have hxI : (revN v j : Int) < 16384 := by omega
      have hw2 : IntKind.i64.wrap ((revN v j : Int) * 2) = (revN v j : Int) * 2 := IntWalk.i64_in _ (by omega)
      generalize revN v j = x at *
      generalize hy : revN v (j + 1) = y at *
      clear hs h16 hlt
      go_wp2
      go_roundg k
      case measure => omega
      case rel => exact ⟨j + 1, by omega, by go_num, by rw [hy], rfl⟩
set_option maxRecDepth 100000 in
set_option maxHeartbeats 4000000 in
theorem done_any (g base len val : Nat) (w : World) (hW : WrAt w g base len val) :
    Calls Tryd.prog 26 #[.pointer (some ⟨g, 0, none⟩)] w fun e w' => (∃ (out : List Nat) (A : Option Addr) (c : Nat), e = .returned (.slice A out.length c) ∧ w.ownsRow base 5 1 (.slice A out.length c) out.length ((ofN' out).map (Value.int .u8)) ∧ WrP out len val) ∧ w' = w := by
  obtain ⟨out, A, c, hb, ho, hP⟩ := hW.h
  have c0 := hb.cell 0
  replace c0 : w.cell? _ = some _ := c0
  go_enter Tryd.func26, Tryd.ntmps26
  go_wp2
  go_ret
  exact ⟨⟨out, A, c, rfl, ho, hP⟩, rfl⟩
/-- How many of the numbers from 'at' on are the same. -/
def runL (l : List Nat) (x : Nat) (n : Nat) : Prop := ∀ j, j < n → l.getD j 0 = x
set_option maxRecDepth 100000 in
set_option maxHeartbeats 4000000 in
theorem run_any (A : Option Addr) (cap B at_ : Nat) (L : List Nat) (w : World) (hl : (L.length : Int) ≤ 1073741824) (hS : Rd .i64 w B A (ofN' L)) (ha : at_ < L.length) (hBw : B ≤ w.heap.size) :
    Calls Tryd.prog 70 #[.slice A L.length cap, .int .i64 (at_ : Nat)] w fun e w' => (∃ n : Nat, e = .returned (.int .i64 (n : Nat)) ∧ 1 ≤ n ∧ at_ + n ≤ L.length ∧ (∀ j, j < n → L.getD (at_ + j) 0 = L.getD at_ 0)) ∧ UpdT B [] w w' := by
  have haI : (at_ : Int) < (L.length : Int) := by omega
  have hu0 := hide (UpdT.refl B [] w)
  go_enter Tryd.func70, Tryd.ntmps70
  go_wp2
  go_loopg [5] (L.length - at_ - 1) (fun k v3 wr => ∃ n : Nat, k + n + at_ = L.length ∧ v3 = .int .i64 (n : Nat) ∧ 1 ≤ n ∧ (∀ j, j < n → L.getD (at_ + j) 0 = L.getD at_ 0) ∧ UpdT B [] w wr)
  case atStart => exact ⟨1, by omega, rfl, by omega, fun j hj => by rw [show j = 0 by omega, Nat.add_zero], hu0.out⟩
  case round =>
    clear hu0
    obtain ⟨n, hn, rfl, h1, hj, hu⟩ := hrel
    obtain ⟨P, hP⟩ : ∃ P, P = at_ + n := ⟨_, rfl⟩
    have hPI : (at_ : Int) + (n : Int) = (P : Int) := by omega
    have hwP : IntKind.i64.wrap (P : Int) = (P : Int) := IntWalk.i64_in _ (by omega)
    have hw1 : IntKind.i64.wrap ((at_ : Int) + (n : Int)) = (P : Int) := by rw [IntWalk.i64_in _ (by omega)]; omega
    obtain ⟨b, off, rfl, hbb, hc⟩ := (hu.rd hBw hS).at_ (j := at_) (by rw [ofN'_lenP]; omega)
    have hx := hc at_ (by rw [ofN'_lenP]; omega)
    rw [ofN'_get] at hx
    replace hu := hide hu
    replace hc := hide hc
    cases gk with
    | zero =>
      have hge : ¬ P < L.length := by omega
      have hged : decide (P < L.length) = false := decide_eq_false hge
      replace hj := hide hj
      replace hP := hide hP
      go_wp2_with fail
      go_quiet (fail)
      go_wp2_with fail
      go_ret
      exact ⟨⟨n, rfl, h1, by have := hP.out; omega, hj.out⟩, hu.out.drewN _⟩
    | succ k =>
      have hlt : ((P : Int) < (L.length : Int)) := by omega
      have hy := hc.out P (by rw [ofN'_lenP]; omega)
      rw [ofN'_get] at hy
      by_cases he : L.getD P 0 = L.getD at_ 0
      · have hj2 : ∀ j, j < n + 1 → L.getD (at_ + j) 0 = L.getD at_ 0 := fun j h => by
          rcases Nat.lt_or_ge j n with h' | h'
          · exact hj j h'
          · rw [show j = n by omega, ← hP]; exact he
        rw [he] at hy
        generalize hX : L.getD at_ 0 = x at *
        replace hj2 := hide hj2
        replace hP := hide hP
        clear hj he hX
        go_wp2_with fail
        go_quiet (fail)
        go_wp2_with fail
        go_roundg k
        case measure => omega
        case rel => exact ⟨n + 1, by have := hP.out; omega, by go_num, by omega, hj2.out, hu.out.drewN _⟩
      · have hne : ¬ ((L.getD P 0 : Nat) : Int) = ((L.getD at_ 0 : Nat) : Int) := by omega
        generalize L.getD P 0 = y at *
        generalize hX : L.getD at_ 0 = x at *
        have hq : (((y : Nat) : Int) == ((x : Nat) : Int)) = false := beq_false_of_ne hne
        replace hj := hide hj
        replace hP := hide hP
        clear he
        go_wp2_with fail
        go_quiet (fail)
        go_wp2_with fail
        go_ret
        exact ⟨⟨n, rfl, h1, by have := hP.out; omega, by rw [hX]; exact hj.out⟩, hu.out.drewN _⟩
end Go.Proofs.YtpiapfahcoopbaaDoor
namespace Go.Proofs.YtpiapfahcoopbaaDoor
set_option linter.unusedSimpArgs false
set_option linter.unusedVariables false
set_option linter.unnecessarySimpa false
open Go.RowKit Plain

/-- The codes, turned, told up to length n and symbol m. -/
def trnP (L : List Nat) (n m : Nat) : List Int := (List.range L.length).map fun j => if (1 ≤ L.getD j 0 ∧ L.getD j 0 < n) ∨ (L.getD j 0 = n ∧ j < m) then ((revN (codeG L j) (L.getD j 0) : Nat) : Int) else 0
theorem trnP_zero (L : List Nat) : trnP L 1 0 = List.replicate L.length 0 := by
  apply List.ext_getElem
  · simp [trnP]
  · intro i h1 h2
    simp only [trnP, List.getElem_map, List.getElem_replicate]
    rw [if_neg (by omega)]
theorem trnP_set (L : List Nat) (n m : Nat) (h : m < L.length) (hn : L.getD m 0 = n) (x : Int) (hx : x = ((revN (codeG L m) (L.getD m 0) : Nat) : Int)) : (trnP L n m).set m x = trnP L n (m + 1) := by
  subst hx
  apply List.ext_getElem
  · simp [trnP]
  · intro i h1 h2
    simp only [trnP, List.getElem_map, List.getElem_set, List.getElem_range]
    by_cases hi : m = i
    · subst hi
      rw [if_pos rfl, if_pos (.inr ⟨hn, by omega⟩)]
    · rw [if_neg hi]
      by_cases h3 : (1 ≤ L.getD i 0 ∧ L.getD i 0 < n) ∨ (L.getD i 0 = n ∧ i < m)
      · rw [if_pos h3, if_pos (by rcases h3 with h3 | h3; exact .inl h3; exact .inr ⟨h3.1, by omega⟩)]
      · rw [if_neg h3, if_neg (by rintro (h4 | h4); exact h3 (.inl h4); exact h3 (.inr ⟨h4.1, by omega⟩))]
theorem trnP_same (L : List Nat) (n m : Nat) (hn : ¬ L.getD m 0 = n) : trnP L n (m + 1) = trnP L n m := by
  unfold trnP
  apply List.map_congr_left
  intro i _
  by_cases h3 : (1 ≤ L.getD i 0 ∧ L.getD i 0 < n) ∨ (L.getD i 0 = n ∧ i < m)
  · rw [if_pos h3, if_pos (by rcases h3 with h3 | h3; exact .inl h3; exact .inr ⟨h3.1, by omega⟩)]
  · rw [if_neg h3, if_neg ?_]
    rintro (h4 | h4)
    · exact h3 (.inl h4)
    · refine h3 (.inr ⟨h4.1, ?_⟩)
      rcases Nat.lt_or_ge i m with h5 | h5
      · exact h5
      · have e : i = m := by omega
        subst e
        exact absurd h4.1 hn
theorem trnP_next (L : List Nat) (n : Nat) (hn : 1 ≤ n) : trnP L n L.length = trnP L (n + 1) 0 := by
  unfold trnP
  apply List.map_congr_left
  intro i hi
  have hil : i < L.length := by simpa using hi
  by_cases h3 : (1 ≤ L.getD i 0 ∧ L.getD i 0 < n) ∨ (L.getD i 0 = n ∧ i < L.length)
  · rw [if_pos h3, if_pos (by rcases h3 with h3 | h3; exact .inl ⟨h3.1, by omega⟩; exact .inl ⟨by omega, by omega⟩)]
  · rw [if_neg h3, if_neg ?_]
    rintro (h4 | h4)
    · by_cases h5 : L.getD i 0 = n
      · exact h3 (.inr ⟨h5, hil⟩)
      · exact h3 (.inl ⟨h4.1, by omega⟩)
    · omega
def trnG (L : List Nat) : List Int := (List.range L.length).map fun j => ((revN (codeG L j) (L.getD j 0) : Nat) : Int)
theorem trnP_all (L : List Nat) (hL : ∀ x ∈ L, x ≤ 15) : trnP L 16 0 = trnG L := by
  unfold trnP trnG
  apply List.map_congr_left
  intro i hi
  have hil : i < L.length := by simpa using hi
  have hx : L.getD i 0 ≤ 15 := hL _ (by simp [hil])
  by_cases h0 : L.getD i 0 = 0
  · rw [if_neg (by omega)]
    rw [h0]
    rfl
  · rw [if_pos (.inl ⟨by omega, by omega⟩)]
theorem trnG_len (L : List Nat) : (trnG L).length = L.length := by simp [trnG]
theorem trnP_len (L : List Nat) (n m : Nat) : (trnP L n m).length = L.length := by simp [trnP]
theorem gN_bdP (L : List Nat) (n : Nat) (hl : L.length ≤ 4096) (hn : n ≤ 15) : gN L n ≤ 268435456 := by
  rcases n with _ | n
  · simp [gN]
  · have h1 := fN_bd L (n + 1) hl hn
    rw [fN_eq] at h1
    omega


theorem ret_cellP {fn : Func} {p : Tmp} {ty : TypeId} (h : fn.results = #[.cell p ty]) {tmps : Array Value} {P : Program} {w : World} {a : Addr} {v : Value} (hp : tmps.getD p undef = .pointer (some a)) (hl : (loadVar ty a).run P w = .ok v w) :
    (results fn tmps).run P w = .ok v w := by
  have hp' : tmps[p]?.getD undef = .pointer (some a) := by simpa using hp
  simp [results, h, hp', asAddr, hl]
theorem below_drewP {b : Nat} {w w' : World} (h : Below b w w') : Below b w w'.drew := ⟨h.os, h.tape, h.output, h.size, h.block⟩
theorem cntS_bdP (L : List Nat) (n : Nat) (hl : L.length ≤ 4096) (hn : n ≤ 15) : cntS L n ≤ 16 * 4096 := by
  have h : ∀ n, cntS L n ≤ n * 4096 := by
    intro n
    induction n with
    | zero => simp [cntS]
    | succ n ih =>
      have h1 : cnt L (n + 1) ≤ L.length := List.count_le_length
      rw [cntS]
      omega
  exact Nat.le_trans (h n) (Nat.mul_le_mul_right _ (by omega))
set_option maxRecDepth 100000 in
theorem size_codeW : (Tryd.prog.info? 44).map (·.size) = some 3 := by kernel_rfl
set_option maxRecDepth 100000 in
set_option maxHeartbeats 4000000 in
theorem canonical_any (A : Option Addr) (cap : Nat) (L : List Nat) (w : World) (hl : (L.length : Int) ≤ 4096) (hL : ∀ x ∈ L, x ≤ 15) (hS : Rd .i64 w w.heap.size A (ofN' L)) :
    Calls Tryd.prog 59 #[.slice A L.length cap] w fun e w' => ∃ v, e = .returned (.agg #[.slice A L.length cap, v, .bool (decide (nz L = 1))]) ∧ w'.ownsRow w.heap.size 3 1 v L.length ((trnG L).map (Value.int .i64)) ∧ Below w.heap.size w w' := by
  have cT := hide (fun (W : World) (v n : Nat) (hn : n ≤ 15) (hv : (v : Int) ≤ 1073741824) => turnedW_any v n W hn hv)
  have hX0 := Blk.new w 44 #[.slice none 0 0, .slice none 0 0, .bool false]

  have hbl0 := (Below.refl w.heap.size w).alloc (Nat.le_refl _) (.cells #[.slice none 0 0, .slice none 0 0, .bool false] 44)
  have hs0 := hbl0.size
  replace hS := hide hS
  replace hL := hide hL
  replace hX0 := hide hX0
  replace hbl0 := hide hbl0
  go_enter Tryd.func59, Tryd.ntmps59
  go_wp2_with (first | (refine wpList_makeN _ rfl (.tmp 10) (.tmp 10) 23 rfl w.heap.size 3 .i64 8 Tryd.underlying23 info_int .i64 .i64 _ _ L.length rfl rfl rfl rfl (by omega) (by simp only [maxLen]; omega) hs0 ?_; intro w4 ho4 hg4 hz4; have hX4 := hide (hX0.out.grown hg4 (by simp)); have hb4 := hide (hbl0.out.grown hg4 hs0 (fun g h => by cases h)); replace ho4 := hide ho4; replace hg4 := hide hg4))
  have hsz : (w.alloc (.cells #[.slice none 0 0, .slice none 0 0, .bool false] 44)).heap.size = w.heap.size + 1 := by simp only [World.alloc, Array.size_push]
  rw [hsz] at ho4
  have hRn := ((UpdT.refl 0 [] w4).alloc (.cells #[.slice A L.length cap, .slice (some ⟨w.heap.size + 1, 0, none⟩) L.length L.length, .bool false] 44)).typ _ _ _ hX4.out (by simp)
  have hXn := Blk.new w4 44 #[.slice A L.length cap, .slice (some ⟨w.heap.size + 1, 0, none⟩) L.length L.length, .bool false]
  have hbn := hb4.out.alloc hb4.out.size (.cells #[.slice A L.length cap, .slice (some ⟨w.heap.size + 1, 0, none⟩) L.length L.length, .bool false] 44)
  have hon := ((UpdT.refl 0 [] w4).alloc (.cells #[.slice A L.length cap, .slice (some ⟨w.heap.size + 1, 0, none⟩) L.length L.length, .bool false] 44)).own ho4.out (by simp)
  have hXl : w.heap.size ≤ w4.heap.size := hb4.out.size
  have hGX : w.heap.size + 1 < w4.heap.size := (ho4.out.lt _ rfl).2
  clear ho4 hg4 hz4 hX4 hb4 hX0 hbl0 hs0 hsz
  generalize hG : w.heap.size + 1 = G at *
  generalize hXd : w4.heap.size = X at *
  have hGw : w.heap.size ≤ G := by omega
  have hRX : ¬ w.heap.size = X := by omega
  have hRG : ¬ w.heap.size = G := by omega
  have hGX2 : ¬ G = X := by omega
  generalize w4.alloc (.cells #[.slice A L.length cap, .slice (some ⟨G, 0, none⟩) L.length L.length, .bool false] 44) = W0 at *
  replace hG := hide hG
  replace hXd := hide hXd
  go_loopg [6, 5, 4] 15 (fun k u6 u5 u4 wr => ∃ n : Nat, k + n = 16 ∧ 1 ≤ n ∧ u6 = .int .i64 n ∧ u5 = .int .i64 ((gN L (n - 1) + if n - 1 = 0 then 0 else cnt L (n - 1) : Nat) : Int) ∧ u4 = .int .i64 ((cntS L (n - 1) : Nat) : Int) ∧
    Blk wr w.heap.size 44 #[.slice none 0 0, .slice none 0 0, .bool false] ∧ Blk wr X 44 #[.slice A L.length cap, .slice (some ⟨G, 0, none⟩) L.length L.length, .bool false] ∧
    wr.ownsRow w.heap.size 3 1 (.slice (some ⟨G, 0, none⟩) L.length L.length) L.length ((trnP L n 0).map (Value.int .i64)) ∧ Below w.heap.size w wr)
  case atStart => exact ⟨1, rfl, Nat.le_refl _, rfl, rfl, rfl, hRn, hXn, by rw [trnP_zero]; exact hon, hbn⟩
  case round =>
    obtain ⟨n, hn, hn1, rfl, rfl, rfl, hr, hx, hown, hbel⟩ := hrel
    obtain ⟨w5, hw5⟩ : ∃ w5, w5 = wr := ⟨_, rfl⟩
    subst hw5
    clear hXn hbn hon hRn
    cases gk with
    | zero =>
      have hn' : n = 16 := by omega
      subst hn'
      have hq : ¬ (16 : Int) ≤ 15 := by decide
      rw [trnP_all L hL.out] at hown
      have hcs := cntS_all L hL.out
      have hdec : ((((cntS L (16 - 1) : Nat) : Int) == 1) : Bool) = decide (nz L = 1) := by
        rw [show 16 - 1 = 15 from rfl, hcs]
        by_cases h1 : nz L = 1
        · simp [h1]
        · rw [decide_eq_false h1]
          exact beq_false_of_ne (by omega)
      replace hown := hide hown
      replace hbel := hide hbel
      generalize ((cntS L (16 - 1) : Nat) : Int) = u at *
      have hz2 := hx.frozen 2
      have hc2 : w5.cell? ⟨X, 2, none⟩ = some (.bool false) := hx.cell 2
      have hxs := hx.set_ 2 (.bool (u == 1))
      have hrs := hr.far (p := ⟨X, 2, none⟩) hRX (.bool (u == 1))
      have ho5 := own_set_far hown.out (p := ⟨X, 2, none⟩) (fun e => hGX2 (by injection e)) (.bool (u == 1))
      have hbe5 := hbel.out.setCell (p := ⟨X, 2, none⟩) hXl (.bool (u == 1))
      rw [hdec] at hxs hrs ho5 hbe5
      generalize hU : w5.setCell ⟨X, 2, none⟩ (.bool (decide (nz L = 1))) = w6 at *
      generalize hz : decide (nz L = 1) = z at *
      replace hz := hide hz
      have d0 : w6.cell? ⟨X, 0, none⟩ = some (.slice A L.length cap) := hxs.cell 0
      have d1 : w6.cell? ⟨X, 1, none⟩ = some (.slice (some ⟨G, 0, none⟩) L.length L.length) := hxs.cell 1
      have d2 : w6.cell? ⟨X, 2, none⟩ = some (.bool z) := hxs.cell 2
      have r0 := hrs.cell 0
      have r1 := hrs.cell 1
      have r2 := hrs.cell 2
      have y0 := hrs.frozen 0
      have y1 := hrs.frozen 1
      have y2 := hrs.frozen 2
      replace hx := hide hx
      replace hr := hide hr
      replace hxs := hide hxs
      replace hrs := hide hrs
      replace ho5 := hide ho5
      replace hbe5 := hide hbe5
      clear hcs
      go_wp2_with fail
      have hrr : (loadVar 44 ⟨w.heap.size, 0, none⟩).run Tryd.prog (((w6.setCell ⟨w.heap.size, 0, none⟩ (.slice A L.length cap)).setCell ⟨w.heap.size, 1, none⟩ (.slice (some ⟨G, 0, none⟩) L.length L.length)).setCell ⟨w.heap.size, 2, none⟩ (.bool z)) = .ok (.agg #[.slice A L.length cap, .slice (some ⟨G, 0, none⟩) L.length L.length, .bool z]) (((w6.setCell ⟨w.heap.size, 0, none⟩ (.slice A L.length cap)).setCell ⟨w.heap.size, 1, none⟩ (.slice (some ⟨G, 0, none⟩) L.length L.length)).setCell ⟨w.heap.size, 2, none⟩ (.bool z)) :=
        run_loadVar_mid (P := Tryd.prog) _ w.heap.size 0 44 [.slice A L.length cap, .slice (some ⟨G, 0, none⟩) L.length L.length, .bool z] _ (by
          have h9 := ((hrs.out.set_ 0 (.slice A L.length cap)).set_ 1 (.slice (some ⟨G, 0, none⟩) L.length L.length)).set_ 2 (.bool z)
          intro j v hv
          rw [Nat.zero_add, h9.cell j]
          simpa using hv) Tryd.underlying44 rfl size_codeW
      refine bodyPost_ret (v := .agg #[.slice A L.length cap, .slice (some ⟨G, 0, none⟩) L.length L.length, .bool z]) ?_ ?_ ?_
      · exact ret_cellP rfl rfl hrr
      · rfl
      refine ⟨_, by rw [hz.out], ?_, ?_⟩
      · exact own_set_far (own_set_far (own_set_far ho5.out (p := ⟨w.heap.size, 0, none⟩) (fun e => hRG (by injection e with e; exact e.symm)) _) (p := ⟨w.heap.size, 1, none⟩) (fun e => hRG (by injection e with e; exact e.symm)) _) (p := ⟨w.heap.size, 2, none⟩) (fun e => hRG (by injection e with e; exact e.symm)) _
      · exact ((hbe5.out.setCell (p := ⟨w.heap.size, 0, none⟩) (Nat.le_refl _) _).setCell (p := ⟨w.heap.size, 1, none⟩) (Nat.le_refl _) _).setCell (p := ⟨w.heap.size, 2, none⟩) (Nat.le_refl _) _
    | succ k =>
      have hni : (n : Int) ≤ 15 := by omega
      have hgs : ((gN L (n - 1) + if n - 1 = 0 then 0 else cnt L (n - 1) : Nat) : Int) * 2 = ((gN L n : Nat) : Int) := by
        obtain ⟨q, rfl⟩ : ∃ q, n = q + 1 := ⟨n - 1, by omega⟩
        rw [Nat.add_sub_cancel, gN]
        omega
      have hgb := gN_bdP L n (by omega) (by omega)
      have hgi : ((gN L n : Nat) : Int) ≤ 268435456 := by omega
      have hg2 : ((gN L (n - 1) + if n - 1 = 0 then 0 else cnt L (n - 1) : Nat) : Int) ≤ 268435456 := by omega
      have hcb : cntS L (n - 1) ≤ 16 * 4096 := cntS_bdP L (n - 1) (by omega) (by omega)
      have hcbI : (cntS L (n - 1) : Int) ≤ 65536 := by omega
      generalize (gN L (n - 1) + if n - 1 = 0 then 0 else cnt L (n - 1) : Nat) = f at *
      have hn1i : (1 : Int) ≤ (n : Int) := by omega
      replace hown := hide hown
      replace hbel := hide hbel
      replace hr := hide hr
      replace hx := hide hx
      go_wp2
      clear hgs
      go_loopg [7, 5, 4] L.length (fun k u7 u5 u4 wr => ∃ m : Nat, k + m = L.length ∧ u7 = .int .i64 m ∧ u5 = .int .i64 ((gN L n + cntT L n m : Nat) : Int) ∧ u4 = .int .i64 ((cntS L (n - 1) + cntT L n m : Nat) : Int) ∧
        Blk wr w.heap.size 44 #[.slice none 0 0, .slice none 0 0, .bool false] ∧ Blk wr X 44 #[.slice A L.length cap, .slice (some ⟨G, 0, none⟩) L.length L.length, .bool false] ∧
        wr.ownsRow w.heap.size 3 1 (.slice (some ⟨G, 0, none⟩) L.length L.length) L.length ((trnP L n m).map (Value.int .i64)) ∧ Below w.heap.size w wr)
      case atStart => exact ⟨0, rfl, rfl, by rw [cntT_zero]; rfl, by rw [cntT_zero]; rfl, hr.out, hx.out, hown.out, hbel.out⟩
      case round =>
        obtain ⟨m, hm, rfl, rfl, rfl, hrm, hxm, hom, hbm⟩ := hrel
        clear hown hbel hr hx
        cases gk with
        | zero =>
          have hm' : m = L.length := by omega
          subst hm'
          have hmn : ¬ (L.length : Int) < (L.length : Int) := by omega
          rw [trnP_next L n hn1] at hom
          replace hom := hide hom
          replace hbm := hide hbm
          replace hrm := hide hrm
          replace hxm := hide hxm
          go_wp2
          go_roundg k
          case measure => omega
          case rel => exact ⟨n + 1, by omega, by omega, by go_num, by rw [cntT_all, Nat.add_sub_cancel, if_neg (by omega)]; go_num, by
            obtain ⟨q, rfl⟩ : ∃ q, n = q + 1 := ⟨n - 1, by omega⟩
            rw [cntT_all, Nat.add_sub_cancel, Nat.add_sub_cancel, cntS]
            go_num, hrm.out, hxm.out, hom.out, hbm.out⟩
        | succ k2 =>
          have hmn : m < L.length := by omega
          have hmi : (m : Int) < (L.length : Int) := by omega
          obtain ⟨b, off, rfl, hbb, hc⟩ := hS.out.at_ (j := m) (by rw [ofN'_lenP]; omega)
          have hx := (hbm.cell (p := ⟨b, off + m, none⟩) (by simp; omega)).trans (hc m (by rw [ofN'_lenP]; omega))
          rw [ofN'_get] at hx
          have hcs := cntT_succ L n m hmn
          have hst := trnP_set L n m hmn
          have hsm := trnP_same L n m
          have hcg : codeG L m = if L.getD m 0 = 0 then 0 else gN L (L.getD m 0) + cntT L (L.getD m 0) m := rfl
          have hct := cntT_le_m L n m
          clear hc
          generalize L.getD m 0 = x at *
          by_cases hxn : x = n
          · subst hxn
            have hq : ((x : Int) == (x : Int)) = true := by simp
            rw [if_neg (by omega)] at hcg
            rw [if_pos rfl] at hcs
            rw [hcg] at hst
            have hst' := hide (hst rfl _ rfl)
            have hcs' := hide hcs
            have hcell := own_cell hom m hmn
            have hfz := hom.frozenAt m
            have hGlt := (hom.lt _ rfl).2
            have k1 : wr.cell? ⟨X, 1, none⟩ = some (.slice (some ⟨G, 0, none⟩) L.length L.length) := hxm.cell 1
            generalize hv : gN L x + cntT L x m = v at *
            generalize hv2 : cntS L (x - 1) + cntT L x m = v2 at *
            have hvi : (v : Int) ≤ 268500000 := by omega
            have hv2i : (v2 : Int) ≤ 268500000 := by omega
            have hx15 : x ≤ 15 := by omega
            replace hv := hide hv
            replace hv2 := hide hv2
            replace hom := hide hom
            replace hbm := hide hbm
            replace hrm := hide hrm
            replace hxm := hide hxm
            clear hst hsm hcg hcs
            have hvb : (v : Int) ≤ 1073741824 := by omega
            go_wp2
            go_region_held3 (fun W => W.cell? ⟨X, 1, none⟩ = some (.slice (some ⟨G, 0, none⟩) L.length L.length)) (first | go_keep) (first | (go_at_call 69; (with_reducible refine (cT.out _ v x hx15 hvb).mono ?_); rintro e w1 ⟨rfl, rfl⟩))
            go_wp2
            go_roundg k2
            case measure => omega
            case rel =>
              refine ⟨m + 1, by omega, by go_num, ?_, ?_, hrm.out.far hRG _, hxm.out.far (fun e => hGX2 e.symm) _, ?_, below_drewP (hbm.out.setCell (p := ⟨G, m, none⟩) (by simpa using hGw) _)⟩
              · rw [hcs'.out, ← Nat.add_assoc, hv.out]
                go_num
              · rw [hcs'.out, ← Nat.add_assoc, hv2.out]
                go_num
              · rw [← hst'.out]
                exact own_set hom.out m _
          · have hq : ((x : Int) == (n : Int)) = false := beq_false_of_ne (by omega)
            rw [if_neg hxn] at hcs
            have hcs := hcs.trans (Nat.add_zero _)
            have hcs' := hide hcs
            have hsm' := hide (hsm hxn)
            replace hom := hide hom
            replace hbm := hide hbm
            replace hrm := hide hrm
            replace hxm := hide hxm
            clear hst hsm hcg hcs hct
            go_wp2
            go_roundg k2
            case measure => omega
            case rel => exact ⟨m + 1, by omega, by go_num, by rw [hcs'.out], by rw [hcs'.out], hrm.out, hxm.out, by rw [hsm'.out]; exact hom.out, hbm.out⟩
end Go.Proofs.YtpiapfahcoopbaaDoor
namespace Go.Proofs.YtpiapfahcoopbaaDoor
set_option linter.unusedSimpArgs false
set_option linter.unusedVariables false
set_option linter.unnecessarySimpa false
open Go.RowKit Plain

theorem Below.updT {B : Nat} {w w' : World} (h : Below w.heap.size w w') : UpdT B [] w w' :=
  ⟨h.os, h.tape, h.output, h.size, fun k _ hk => h.block k hk, fun k t cs hb _ => (h.block k hb.lt).trans hb⟩
/-- A code that was written. -/
structure CodeAt (w : World) (base : Nat) (L : List Nat) (x : Value) : Prop where
  h : ∃ (A V : Option Addr) (c cv : Nat), x = .agg #[.slice A L.length c, .slice V L.length cv, .bool (decide (nz L = 1))] ∧ w.ownsRow base 3 1 (.slice A L.length c) L.length ((ofN' L).map (Value.int .i64)) ∧ w.ownsRow base 3 1 (.slice V L.length cv) L.length ((trnG L).map (Value.int .i64))
theorem CodeAt.typed {w w' : World} {base : Nat} {L : List Nat} {x : Value} {B : Nat} {ts : List TypeId} (h : CodeAt w base L x) (u : UpdT B ts w w') (h1 : 3 ∉ ts) : CodeAt w' base L x := by
  obtain ⟨A, V, c, cv, a, b, d⟩ := h.h
  exact ⟨A, V, c, cv, a, u.own b h1, u.own d h1⟩
/-- What a symbol adds to the bits. -/
def symN (L : List Nat) (s : Nat) : Nat := if nz L = 1 then 0 else L.getD s 0
def symV (L : List Nat) (s : Nat) : Nat := if nz L = 1 then 0 else revN (codeG L s) (L.getD s 0)
theorem own_some {w : World} {base : Nat} {k : IntKind} {e : TypeId} {A : Option Addr} {n c : Nat} {l : List Int} (h : w.ownsRow base e 1 (.slice A n c) n (l.map (Value.int k))) (hn : 0 < n) : ∃ g, A = some ⟨g, 0, none⟩ ∧ ∀ j, j < n → w.cell? ⟨g, j, none⟩ = some (.int k (l.getD j 0)) := by
  obtain ⟨g, cap, hv, _, _⟩ := h.form (by omega)
  injection hv with h1 _ h2
  subst h1
  exact ⟨g, rfl, fun j hj => own_cell h j hj⟩
theorem cell_old {w : World} {o : Obj} {p : Addr} {v : Value} (h : w.cell? p = some v) : (w.alloc o).cell? p = some v := (World.cell?_alloc_some w p o (by rw [h]; rfl)).trans h
theorem WrAt.drew {w : World} {g base len val : Nat} (h : WrAt w g base len val) : WrAt w.drew g base len val := ⟨h.h⟩
theorem WrAt.drewN {w : World} {g base len val : Nat} (h : WrAt w g base len val) (n : Nat) : WrAt (w.drewN n) g base len val := ⟨h.h⟩
theorem trnG_get (L : List Nat) (s : Nat) (hs : s < L.length) : (trnG L).getD s 0 = ((revN (codeG L s) (L.getD s 0) : Nat) : Int) := by
  simp [trnG, hs]
set_option maxRecDepth 100000 in
set_option maxHeartbeats 4000000 in
theorem codeput_any (g base basec B s len val : Nat) (L : List Nat) (x : Value) (w : World) (hW : WrAt w g base len val) (hX : CodeAt w basec L x) (hB : B ≤ base) (hbw : base ≤ w.heap.size) (hg : B ≤ g) (hs : s < L.length) (hL : ∀ x ∈ L, x ≤ 15) (hl : (len : Int) + 15 ≤ 1073741824) :
    Calls Tryd.prog 24 #[x, .pointer (some ⟨g, 0, none⟩), .int .i64 (s : Nat)] w fun e w' => e = .returned (.tuple #[]) ∧ WrAt w' g base (len + symN L s) (putV len val (symV L s) (symN L s)) ∧ UpdT B [42, 5] w w' := by
  obtain ⟨A, V, c, cv, rfl, hA, hV⟩ := hX.h
  obtain ⟨a, rfl, ha⟩ := own_some hA (by omega)
  obtain ⟨v, rfl, hv⟩ := own_some hV (by omega)
  have ka := ha s hs
  have kv := hv s hs
  rw [trnG_get L s hs] at kv
  rw [ofN'_get] at ka
  have hn15 : L.getD s 0 ≤ 15 := by
    have : L.getD s 0 = L[s] := by simp [hs]
    rw [this]; exact hL _ (List.getElem_mem hs)
  have hsI : (s : Int) < (L.length : Int) := by omega
  by_cases h1 : nz L = 1
  · have hd : decide (nz L = 1) = true := decide_eq_true h1
    rw [hd]
    have e1 : symN L s = 0 := if_pos h1
    rw [e1, putV_zero, Nat.add_zero]
    have hu0 := (UpdT.refl B [42, 5] w).alloc (.cells #[.slice (some ⟨a, 0, none⟩) L.length c, .slice (some ⟨v, 0, none⟩) L.length cv, .bool true] 44)
    have hW1 := hW.typed ((UpdT.refl B [] w).alloc (.cells #[.slice (some ⟨a, 0, none⟩) L.length c, .slice (some ⟨v, 0, none⟩) L.length cv, .bool true] 44)) (by simp) (by simp)
    replace hW1 := hide hW1
    replace hu0 := hide hu0
    clear hA hV ha hv hX hW
    go_enter Tryd.func24, Tryd.ntmps24
    go_wp2_with fail
    go_end0
    exact ⟨rfl, hW1.out, hu0.out⟩
  · have hd : decide (nz L = 1) = false := decide_eq_false h1
    rw [hd]
    have e1 : symN L s = L.getD s 0 := if_neg h1
    have e2 : symV L s = revN (codeG L s) (L.getD s 0) := if_neg h1
    rw [e1, e2]
    have hrl := revN_lt (codeG L s) (L.getD s 0)
    have hp15 : 2 ^ L.getD s 0 ≤ 2 ^ 15 := Nat.pow_le_pow_right (by decide) hn15
    have hrl2 : revN (codeG L s) (L.getD s 0) ≤ 32768 := by omega
    generalize revN (codeG L s) (L.getD s 0) = y at *
    generalize L.getD s 0 = n at *
    obtain ⟨W1, hW1d⟩ : ∃ W1, W1 = w.alloc (.cells #[.slice (some ⟨a, 0, none⟩) L.length c, .slice (some ⟨v, 0, none⟩) L.length cv, .bool false] 44) := ⟨_, rfl⟩
    have hu0 := (UpdT.refl B [42, 5] w).alloc (.cells #[.slice (some ⟨a, 0, none⟩) L.length c, .slice (some ⟨v, 0, none⟩) L.length cv, .bool false] 44)
    have huE := (UpdT.refl B [] w).alloc (.cells #[.slice (some ⟨a, 0, none⟩) L.length c, .slice (some ⟨v, 0, none⟩) L.length cv, .bool false] 44)
    have hW1 := hW.typed huE (by simp) (by simp)
    have hX1 := Blk.new w 44 #[.slice (some ⟨a, 0, none⟩) L.length c, .slice (some ⟨v, 0, none⟩) L.length cv, .bool false]
    have ka1 := (cell_old (o := .cells #[.slice (some ⟨a, 0, none⟩) L.length c, .slice (some ⟨v, 0, none⟩) L.length cv, .bool false] 44) ka)
    have kv1 := (cell_old (o := .cells #[.slice (some ⟨a, 0, none⟩) L.length c, .slice (some ⟨v, 0, none⟩) L.length cv, .bool false] 44) kv)
    have x0 := hX1.cell 0
    have x1 := hX1.cell 1
    have x2 := hX1.cell 2
    have hs1 := hu0.size
    rw [← hW1d] at hu0 huE hW1 hX1 ka1 kv1 x0 x1 x2 hs1
    have cP := fun (W : World) (hW : WrAt W g base len val) (hb : base ≤ W.heap.size) => put_any g base B y n len val W hW hB hb hg (by omega) (by omega) (by omega)
    have hbW1 : base ≤ W1.heap.size := by omega
    have hbW1d : base ≤ W1.drew.heap.size := hbW1
    obtain ⟨csa, hcsa, _⟩ := own_blk' hA
    obtain ⟨csv, hcsv, _⟩ := own_blk' hV
    have hA1 := huE.typ _ _ _ hcsa (by simp)
    have hV1 := huE.typ _ _ _ hcsv (by simp)
    have hkeep : ∀ W2, UpdT B [42, 5] W1 W2 → (W2.cell? ⟨w.heap.size, 0, none⟩ = some (.slice (some ⟨a, 0, none⟩) L.length c) ∧ W2.cell? ⟨w.heap.size, 1, none⟩ = some (.slice (some ⟨v, 0, none⟩) L.length cv)) ∧ W2.cell? ⟨a, s, none⟩ = some (.int .i64 (n : Nat)) ∧ W2.cell? ⟨v, s, none⟩ = some (.int .i64 (y : Nat)) := fun W2 hu => by
      have q1 := hu.typ _ _ _ hX1 (by simp)
      have q2 := hu.typ _ _ _ hA1 (by simp)
      have q3 := hu.typ _ _ _ hV1 (by simp)
      exact ⟨⟨q1.cell 0, q1.cell 1⟩, ((q2.cell s).trans (hA1.cell s).symm).trans ka1, ((q3.cell s).trans (hV1.cell s).symm).trans kv1⟩
    have hkeep2 : ∀ W2, UpdT B [42, 5] W1.drew W2 → (W2.cell? ⟨w.heap.size, 0, none⟩ = some (.slice (some ⟨a, 0, none⟩) L.length c) ∧ W2.cell? ⟨w.heap.size, 1, none⟩ = some (.slice (some ⟨v, 0, none⟩) L.length cv)) ∧ W2.cell? ⟨a, s, none⟩ = some (.int .i64 (n : Nat)) ∧ W2.cell? ⟨v, s, none⟩ = some (.int .i64 (y : Nat)) := fun W2 hu => hkeep W2 (((UpdT.refl B _ W1).drewN 1).trans hu)
    replace hkeep := hide hkeep
    replace hkeep2 := hide hkeep2
    clear hcsa hcsv hA1 hV1
    replace cP := hide cP
    replace hu0 := hide hu0
    replace huE := hide huE
    replace hW1 := hide hW1
    replace hX1 := hide hX1
    replace hW1d := hide hW1d.symm
    clear hA hV ha hv hX hW ka kv
    have hk := hW1d.out
    go_enter Tryd.func24, Tryd.ntmps24
    go_wp2_with fail
    go_region_held3 (fun W => (W.cell? ⟨w.heap.size, 0, none⟩ = some (.slice (some ⟨a, 0, none⟩) L.length c) ∧ W.cell? ⟨w.heap.size, 1, none⟩ = some (.slice (some ⟨v, 0, none⟩) L.length cv)) ∧ W.cell? ⟨a, s, none⟩ = some (.int .i64 (n : Nat)) ∧ W.cell? ⟨v, s, none⟩ = some (.int .i64 (y : Nat)))
      (first | go_keep | exact hkeep2.out _ hu2.out | exact hkeep.out _ hu2.out)
      (first | (go_at_call 47; (with_reducible refine (cP.out _ (by first | exact hW1.out | exact hW1.out.drew | exact hW1.out.drewN _) (by first | exact hbW1 | exact hbW1d)).mono ?_); rintro e w2 ⟨rfl, hW2, hu2⟩; replace hW2 := hide hW2; replace hu2 := hide hu2))
    go_end0
    exact ⟨rfl, hW2.out, hu0.out.trans (((UpdT.refl B _ W1).drewN 1).trans hu2.out)⟩
end Go.Proofs.YtpiapfahcoopbaaDoor
