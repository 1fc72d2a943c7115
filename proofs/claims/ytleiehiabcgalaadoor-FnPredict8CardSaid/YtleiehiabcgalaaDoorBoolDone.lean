/- The walks of the boolean writer: the new writer, a flag, what was written. -/
import Derived.Test.YtleiehiabcgalaaDoorBoolPut
namespace Go.Proofs.YtleiehiabcgalaaDoor
set_option linter.unusedSimpArgs false
set_option linter.unusedVariables false
open Go.RowKit Plain

/-- 'append' of some elements of one cell each, onto a slice of the call's own: their box has just been laid. -/
theorem wpList_pushL {P : Program} {w : World} {ops : Array Oper} {rest : List Oper} {o : Oper} {a : Act} {Q : Exit → Act → World → Prop} (hgd : o.guard = none) (s x : Operand) (t : TypeId)
    (ho : o.op = .call { callee := .builtin .append, args := #[s, x], argTypes := #[t, t] })
    (base : Nat) (e : TypeId) (z : Value) (bytes : Nat) (ht : P.underlying t = some (.slice e)) (hi : (P.info? e).map (fun i => (i.zero, i.size, i.bytes)) = some (some z, 1, bytes)) (hzs : z.cells.size = 1)
    (v : Value) (n m : Nat) (xs : List Value) (hs : a.eval s = v) (hown : w.ownsRow base e 1 v n xs) (cs : Array Value) (hcs : cs.size = m) (hu : ∀ u ∈ cs.toList, u.oneCell' = true)
    (hx : a.eval x = .slice (some ⟨w.heap.size, 0, none⟩) m m) (h63 : n + m ≤ maxLen) (hbytes : (n + m) * bytes ≤ 140737488355328) (hbase : base ≤ w.heap.size)
    (h : ∀ v' w', w'.ownsRow base e 1 v' (n + m) (xs ++ cs.toList) → w.grownBy w' v.ownBlock → wpList P ops Q rest (a.put o.dst v') w') : wpList P ops Q (o :: rest) a (w.alloc (.cells cs e)) := by
  obtain ⟨i, hi, hz, h1, h2⟩ := info_parts hi
  refine wpList_append_own (w.alloc (.cells cs e)) hgd s x t ho base e i z 1 bytes ht hi hz h1 h2 hzs (by decide) v n xs hs (hown.alloc _) ⟨w.heap.size, 0, none⟩ m m cs.toList hx (by simp [hcs]) ?_ hu h63 hbytes (by simp; omega) ?_
  · intro j y hy
    rw [Addr.add_lit, Nat.zero_add, World.cell?_alloc_new]
    simpa using hy
  · intro v' w' h1 h2 _
    refine h v' w' h1 ⟨h2.os, h2.tape, h2.output, Nat.le_trans (by simp) h2.size, fun k hk hne => ?_⟩
    rw [h2.block k (by simp; omega) hne]
    exact Below.heap_alloc w _ k hk

theorem flag_anyK (base g : Nat) (s : WS) (v : Iv) (b : Bool) (w : World) (h : s.tells v) (hv : v.ok) (hlen : s.out.length ≤ 50000000) (hO : WObj w base g s) :
    Calls Tryd.prog 13 #[.pointer (some ⟨g, 0, none⟩), .bool b] w fun e w' => e = .returned (.tuple #[]) ∧ WObj w' base g (s.put (b, 128)) ∧ Bl base g w w' := by
  have c := put_anyK base g s v b 128 w h hv (by decide) hlen hO
  clear hlen
  replace h := hide h
  replace hv := hide hv
  replace hO := hide hO
  go_enter Tryd.func13, Tryd.ntmps13
  go_wp2_with (first | (go_at_call 20; refine c.mono ?_; rintro e w1 ⟨rfl, hO1, hB1⟩) | go_in)
  go_end0
  exact ⟨rfl, hO1, hB1⟩

theorem newBoolWriter_any (base : Nat) (w : World) (hb : base ≤ w.heap.size) :
    Calls Tryd.prog 12 #[] w fun e w' => ∃ g, e = .returned (.pointer (some ⟨g, 0, none⟩)) ∧ WObj w' base g WS.start ∧ Below base w w' := by
  go_enter Tryd.func12, Tryd.ntmps12
  go_wp2
  go_ret
  refine ⟨_, rfl, ⟨hb, .slice none 0 0, Blk.new _ _ _, ?_⟩, (Below.refl base w).alloc hb _⟩
  exact ⟨rfl, .inl ⟨rfl, rfl⟩⟩

theorem flush_len (k : Nat) : ∀ s : WS, (WS.flush k s).out.length ≤ s.out.length + k := by
  induction k with
  | zero => intro s; simp [WS.flush]
  | succ k ih =>
    intro s
    have := ih s.shift
    have := shift_len s
    simp only [WS.flush]
    omega

set_option maxHeartbeats 1000000 in
theorem done_anyK (base g : Nat) (s : WS) (r : Nat) (w : World) (h : s.inv r) (hlen : s.out.length ≤ 50000000) (hO : WObj w base g s) :
    Calls Tryd.prog 15 #[.pointer (some ⟨g, 0, none⟩)] w fun e w' => ∃ v, e = .returned v ∧ w'.ownsRow base 5 1 v s.done.length ((ofN s.done).map (Value.int .u8)) ∧ Bl base g w w' := by
  go_enter Tryd.func15, Tryd.ntmps15
  have hr := hide h
  clear h
  have hO' := hide hO
  clear hO
  go_wp2
  go_loopg [3] 32 (fun k i wr => ∃ t r', i = .int .i64 (32 - (k : Int)) ∧ k ≤ 32 ∧ WS.flush k t = WS.flush 32 s ∧ t.inv r' ∧ t.out.length + k ≤ 50000032 ∧ WObj wr base g t ∧ Bl base g w wr)
  case atStart => exact ⟨s, r, rfl, by omega, rfl, hr.out, by omega, hO'.out, Bl.refl _ _ _⟩
  case round =>
    obtain ⟨t, r', rfl, hk, e1, e2, e3, hO1, hB1⟩ := hrel
    cases gk with
    | zero =>
      obtain ⟨v1, ⟨d0, d1, d2, d3, k0, k1, k2, k3⟩, ho1⟩ := hO1.cells
      have e1' := hide e1
      have hB1' := hide hB1
      have ho1' := hide ho1
      have hsz := Nat.le_trans hO1.lt (Nat.le_refl _)
      clear e1 e2 hO1 hB1 ho1
      go_wp2_with (at_builtin; refine wpList_pushL rfl (.tmp 13) (.tmp 14) _ rfl base 5 _ 1 Tryd.underlying22 info_u8 rfl v1 t.out.length 4 _ rfl ho1'.out _ rfl (by simp [Value.oneCell']) rfl (by simp only [maxLen]; omega) (by omega) hsz ?_; intro v' w' hown' hg')
      go_ret
      refine ⟨v', rfl, ?_, hB1'.out.grown hg' hsz (fun k hk => (ho1'.out.lt k hk).1) (own_typ ho1'.out)⟩
      have e : s.done = t.out ++ [0, 0, 0, 0] := by unfold WS.done; rw [← e1'.out]; rfl
      rw [e]
      simpa [ofN] using hown'
    | succ k =>
      have e1' := hide e1
      have e2' := hide e2
      have hB1' := hide hB1
      have hO1' := hide hO1
      have hl := shift_len t
      clear e1 e2 hB1 hO1
      go_wp2_with (first | (go_at_call 24; refine (shift_anyK base g t r' _ e2'.out (by omega) hO1'.out).mono ?_; rintro e w1 ⟨rfl, hO3, hB3⟩; replace hO3 := hide hO3; replace hB3 := hide hB3) | go_in)
      go_roundg k
      case measure => omega
      case rel =>
        refine ⟨_, 1, by go_num, by omega, e1'.out, (t.shift_inv r' 1 e2'.out (Nat.le_refl _) (by have := e2'.out.r1; omega) (by decide)).1, by omega, hO3.out, hB1'.out.trans hB3.out⟩
theorem flag_any (base g : Nat) (s : WS) (v : Iv) (b : Bool) (w : World) (h : s.tells v) (hv : v.ok) (hlen : s.out.length ≤ 50000000) (hO : WObj w base g s) :
    Calls Tryd.prog 13 #[.pointer (some ⟨g, 0, none⟩), .bool b] w fun e w' => e = .returned (.tuple #[]) ∧ WObj w' base g (s.put (b, 128)) ∧ Below base w w' :=
  (flag_anyK base g s v b w h hv hlen hO).mono fun _ _ ⟨a, b, c⟩ => ⟨a, b, c.toBelow⟩
theorem done_any (base g : Nat) (s : WS) (r : Nat) (w : World) (h : s.inv r) (hlen : s.out.length ≤ 50000000) (hO : WObj w base g s) :
    Calls Tryd.prog 15 #[.pointer (some ⟨g, 0, none⟩)] w fun e w' => ∃ v, e = .returned v ∧ w'.ownsRow base 5 1 v s.done.length ((ofN s.done).map (Value.int .u8)) ∧ Below base w w' :=
  (done_anyK base g s r w h hlen hO).mono fun _ _ ⟨v, a, b, c⟩ => ⟨v, a, b, c.toBelow⟩
end Go.Proofs.YtleiehiabcgalaaDoor
