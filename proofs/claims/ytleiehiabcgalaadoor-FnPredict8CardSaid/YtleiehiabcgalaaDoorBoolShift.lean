/- The walk of the boolean writer's 'shift'. -/
import Derived.Test.YtleiehiabcgalaaDoorBoolWalkW
namespace Go.Proofs.YtleiehiabcgalaaDoor
set_option linter.unusedSimpArgs false
set_option linter.unusedVariables false
open Go.RowKit Plain

/-- A writer's block and its row, both of this call's own. -/
structure WObj (w : World) (base g : Nat) (s : WS) : Prop where
  new : base ≤ g
  blk : ∃ v, Blk w g 40 #[v, .int .i64 s.bottom, .int .i64 s.size, .int .i64 s.bits] ∧ w.ownsRow base 5 1 v s.out.length ((ofN s.out).map (Value.int .u8))
theorem WObj.lt {w : World} {base g : Nat} {s : WS} (h : WObj w base g s) : base ≤ w.heap.size := by
  obtain ⟨v, hb, _⟩ := h.blk
  have := hb.lt
  have := h.new
  omega

theorem bit31 (x : Int) (h0 : 0 ≤ x) (h1 : x < 4294967296) : bits .and .i64 x 2147483648 = if 2147483648 ≤ x then 2147483648 else 0 := and_bit .i64 31 (by decide) x h0 h1
theorem low32 (x : Int) : bits .and .i64 x 4294967295 = x % 4294967296 := and_mask .i64 32 (by decide) x
theorem low24 (x : Int) : bits .and .i64 x 16777215 = x % 16777216 := and_mask .i64 24 (by decide) x
/-- Below base nothing turned; and no row that is none of bytes, but for block g. -/
structure Bl (base g : Nat) (w w' : World) : Prop extends Below base w w' where
  keep : ∀ k cs t fr, w.heap[k]? = some (.cells cs t fr) → t ≠ 5 → k ≠ g → w'.heap[k]? = some (.cells cs t fr)
namespace Bl
variable {base g : Nat} {w w' w'' : World}
theorem refl (base g : Nat) (w : World) : Bl base g w w := ⟨Below.refl _ _, fun _ _ _ _ h _ _ => h⟩
theorem trans (h : Bl base g w w') (k : Bl base g w' w'') : Bl base g w w'' := ⟨h.toBelow.trans k.toBelow, fun i cs t fr hi ht hg => k.keep i cs t fr (h.keep i cs t fr hi ht hg) ht hg⟩
theorem setCell (h : Bl base g w w') (hp : base ≤ g) {i : Nat} (u : Value) : Bl base g w (w'.setCell ⟨g, i, none⟩ u) :=
  ⟨h.toBelow.setCell hp u, fun k cs t fr hk ht hg => (Below.heap_setCell w' _ u k hg).trans (h.keep k cs t fr hk ht hg)⟩
theorem alloc (h : Bl base g w w') (hb : base ≤ w'.heap.size) (o : Obj) : Bl base g w (w'.alloc o) :=
  ⟨h.toBelow.alloc hb o, fun k cs t fr hk ht hg => by
    have h1 := h.keep k cs t fr hk ht hg
    have hlt : k < w'.heap.size := by
      rcases Nat.lt_or_ge k w'.heap.size with hlt | hge
      · exact hlt
      · rw [Array.getElem?_eq_none hge] at h1; cases h1
    exact (Below.heap_alloc w' o k hlt).trans h1⟩
theorem grown (h : Bl base g w w') {row : Option Nat} (hg : w'.grownBy w'' row) (hb : base ≤ w'.heap.size) (hr : ∀ k, row = some k → base ≤ k) (ht : ∀ k, row = some k → ∃ cs, w'.heap[k]? = some (.cells cs 5 (0, 0))) : Bl base g w w'' :=
  ⟨h.toBelow.grown hg hb hr, fun k cs t fr hk ht' hg' => by
    have h1 := h.keep k cs t fr hk ht' hg'
    have hlt : k < w'.heap.size := by
      rcases Nat.lt_or_ge k w'.heap.size with hlt | hge
      · exact hlt
      · rw [Array.getElem?_eq_none hge] at h1; cases h1
    refine (hg.block k hlt (fun e => ?_)).trans h1
    obtain ⟨cs', h2⟩ := ht k e.symm
    rw [h2] at h1
    injection h1 with h3
    injection h3 with _ h4 _
    exact ht' h4.symm⟩
theorem ofUpd {h : Nat} (u : Upd [h] w w') (hb : base ≤ w.heap.size) (hh : base ≤ h) (ht : ∃ cs, w.heap[h]? = some (.cells cs 5 (0, 0))) : Bl base g w w' :=
  ⟨u.below (by intro k hk; simp at hk; omega) hb, fun k cs t fr hk ht' _ => by
    have hlt : k < w.heap.size := by
      rcases Nat.lt_or_ge k w.heap.size with hlt | hge
      · exact hlt
      · rw [Array.getElem?_eq_none hge] at hk; cases hk
    refine (u.block k hlt (fun e => ?_)).trans hk
    simp at e
    subst e
    obtain ⟨cs', h2⟩ := ht
    rw [h2] at hk
    injection hk with h3
    injection h3 with _ h4 _
    exact ht' h4.symm⟩
end Bl
theorem own_typ {w : World} {base : Nat} {e : TypeId} {size n : Nat} {v : Value} {xs : List Value} (h : w.ownsRow base e size v n xs) : ∀ k, v.ownBlock = some k → ∃ cs, w.heap[k]? = some (.cells cs e (0, 0)) := by
  intro k hk
  rcases h.2 with ⟨rfl, _⟩ | ⟨g', cap, cur, rfl, _, hh, _⟩
  · simp [Value.ownBlock] at hk
  · simp [Value.ownBlock] at hk
    subst hk
    exact ⟨cur, hh⟩

theorem info_u8 : (Tryd.prog.info? 5).map (fun i => (i.zero, i.size, i.bytes)) = some (some (Value.int .u8 0), 1, 1) := by kernel_rfl

set_option maxHeartbeats 4000000 in
theorem shift_plain (base g : Nat) (s : WS) (w : World) (hb1 : ¬ 2147483648 ≤ s.bottom) (hbits : ¬ s.bits = 1) (h1 : 1 ≤ s.bits) (h24 : s.bits ≤ 24) (hO : WObj w base g s) :
    Calls Tryd.prog 24 #[.pointer (some ⟨g, 0, none⟩)] w fun e w' => e = .returned (.tuple #[]) ∧ WObj w' base g s.shift ∧ Bl base g w w' := by
  have hlow' := hO.lt
  obtain ⟨out, bottom, size, bits⟩ := s
  obtain ⟨hnew, v, hb, hown⟩ := hO
  simp only at *
  have c0 := hb.cell 0
  have c1 := hb.cell 1
  have c2 := hb.cell 2
  have c3 := hb.cell 3
  have f0 := hb.frozen 0
  have f1 := hb.frozen 1
  have f2 := hb.frozen 2
  have f3 := hb.frozen 3
  simp at c0 c1 c2 c3
  have hlow : (0 : Int) ≤ bottom := by omega
  have hhi : (bottom : Int) < 2147483648 := by omega
  have m1 := bit31 bottom hlow (by omega)
  rw [if_neg (by omega)] at m1
  have m2 := low32 ((bottom : Int) * 2)
  have hbi : ((bits : Int) - 1 == 0) = false := by simp; omega
  have hB := hide hb
  have hW := hide hown
  clear hb hown
  go_enter Tryd.func24, Tryd.ntmps24
  go_wp2
  go_end0
  have E : (WS.mk out bottom size bits).shift = ⟨out, bottom * 2 % 4294967296, size, bits - 1⟩ := by
    unfold WS.shift; simp only [hb1, hbits, if_false]
  have e1 : ((bottom * 2 % 4294967296 : Nat) : Int) = (bottom : Int) * 2 % 4294967296 := by simp
  have e2 : ((bits - 1 : Nat) : Int) = (bits : Int) - 1 := by omega
  have hne := own_ne hW.out hB.out (by decide)
  refine ⟨rfl, ⟨hnew, v, ?_, ?_⟩, ?_⟩
  · rw [E]
    have := (hB.out.set_ 1 (.int .i64 ((bottom : Int) * 2 % 4294967296))).set_ 3 (.int .i64 ((bits : Int) - 1))
    simp only [e1, e2]
    simpa using this
  · rw [E]
    exact own_set_far (own_set_far hW.out hne _) hne _
  · exact ((Bl.refl base g w).setCell hnew _).setCell hnew _

/-- 'append' of one element, in a region that draws: wherever the box lies. -/
theorem step_push1 {P : Program} {w : World} {ops : Array Oper} {o : Oper} {a : Act} {K : Act → World → Prop} {Q : Exit → Act → World → Prop} {E : Prop} (hgd : o.guard = none) (s x : Operand) (t : TypeId)
    (ho : o.op = .call { callee := .builtin .append, args := #[s, x], argTypes := #[t, t] })
    (base : Nat) (e : TypeId) (z : Value) (bytes : Nat) (ht : P.underlying t = some (.slice e)) (hi : (P.info? e).map (fun i => (i.zero, i.size, i.bytes)) = some (some z, 1, bytes)) (hzs : z.cells.size = 1)
    (v : Value) (n : Nat) (xs : List Value) (hs : a.eval s = v) (hown : w.ownsRow base e 1 v n xs) (u : Value) (hu : u.oneCell' = true) (b : Nat)
    (hx : a.eval x = .slice (some ⟨b, 0, none⟩) 1 1) (hb : w.cell? ⟨b, 0, none⟩ = some u) (h63 : n + 1 ≤ maxLen) (hbytes : (n + 1) * bytes ≤ 140737488355328) (hbase : base ≤ w.heap.size)
    (h : ∀ v' w', w'.ownsRow base e 1 v' (n + 1) (xs ++ [u]) → w.grownBy w' v.ownBlock → K (a.put o.dst v') w') :
    if Region.wanted o (yielded ops a.tmps) = true then Oper.wp P o a w K Q else E := by
  obtain ⟨i, hi, hz, h1, h2⟩ := info_parts hi
  have hw : Region.wanted o (yielded ops a.tmps) = true := by simp [Region.wanted, hgd]
  rw [if_pos hw]
  refine wp_append_own w s x t ho base e i z 1 bytes ht hi hz h1 h2 hzs (by decide) v n xs hs hown ⟨b, 0, none⟩ 1 1 [u] hx rfl ?_ ?_ h63 hbytes hbase ?_
  · intro j y hy
    cases j with
    | zero => simp at hy; subst hy; simpa [Addr.add] using hb
    | succ j => simp at hy
  · intro y hy; simp at hy; subst hy; exact hu
  · intro v' w' h1 h2 _
    exact h v' w' h1 h2
/-- The same, what is asked of the region's own world as one. -/
theorem step_push2 {P : Program} {w : World} {ops : Array Oper} {o : Oper} {a : Act} {K : Act → World → Prop} {Q : Exit → Act → World → Prop} {E : Prop} (s x : Operand) (t : TypeId)
    (base : Nat) (e : TypeId) (z : Value) (bytes : Nat) (ht : P.underlying t = some (.slice e)) (hi : (P.info? e).map (fun i => (i.zero, i.size, i.bytes)) = some (some z, 1, bytes)) (hzs : z.cells.size = 1)
    (v : Value) (n : Nat) (xs : List Value) (u : Value) (hu : u.oneCell' = true) (b : Nat) (h63 : n + 1 ≤ maxLen) (hbytes : (n + 1) * bytes ≤ 140737488355328)
    (h : (o.guard = none ∧ o.op = .call { callee := .builtin .append, args := #[s, x], argTypes := #[t, t] } ∧ a.eval s = v ∧ w.ownsRow base e 1 v n xs ∧ a.eval x = .slice (some ⟨b, 0, none⟩) 1 1 ∧ w.cell? ⟨b, 0, none⟩ = some u ∧ base ≤ w.heap.size) ∧
      ∀ v' w', w'.ownsRow base e 1 v' (n + 1) (xs ++ [u]) → w.grownBy w' v.ownBlock → K (a.put o.dst v') w') :
    if Region.wanted o (yielded ops a.tmps) = true then Oper.wp P o a w K Q else E := by
  obtain ⟨⟨h1, h2, h3, h4, h5, h6, h7⟩, h8⟩ := h
  exact step_push1 h1 s x t h2 base e z bytes ht hi hzs v n xs h3 h4 u hu b h5 h6 h63 hbytes h7 h8
theorem bit31_no (s : WS) (r : Nat) (h : s.inv r) (hc : 2147483648 ≤ s.bottom) : s.bits = 1 ∧ s.out ≠ [] ∧ s.bottom < 4294967296 := by
  have hr := h.r1
  have hlow := h.low
  have hall := h.all
  have hb1 := h.b1
  have hbits : s.bits = 1 := by
    rcases Nat.lt_or_ge 1 s.bits with a | a
    · have : (2 : Nat) ^ (33 - s.bits) ≤ 2 ^ 31 := Nat.pow_le_pow_right (by decide) (by omega)
      omega
    · omega
  refine ⟨hbits, ?_, ?_⟩
  · intro ho
    rw [WS.num, ho, hbits] at hall
    simp [val] at hall
    omega
  · rw [hbits] at hlow
    simp at hlow
    omega

theorem emit_close (base g : Nat) (s0 s : WS) (w X w' : World) (v v' : Value) (n : Nat) (xs0 : List Value) (x yb yk : Int) (hnew : base ≤ g) (hsz : base ≤ w.heap.size) (hbel : Bl base g w X) (hne : v.ownBlock ≠ some g) (hvb : ∀ k, v.ownBlock = some k → base ≤ k) (hvt : ∀ k, v.ownBlock = some k → ∃ cs, X.heap[k]? = some (.cells cs 5 (0, 0)))
    (E : s0.shift = s) (hyb : yb = s.bottom) (hyk : yk = s.bits) (hn : n + 1 = s.out.length) (hx : (ofN s.out).map (Value.int .u8) = xs0 ++ [.int .u8 x])
    (cs : Array Value) (hcs : ((cs.setIfInBounds 0 v').setIfInBounds 1 (.int .i64 s.bottom)).setIfInBounds 3 (.int .i64 s.bits) = #[v', .int .i64 s.bottom, .int .i64 s.size, .int .i64 s.bits])
    (hb' : Blk w' g 40 cs) (hown' : w'.ownsRow base 5 1 v' (n + 1) (xs0 ++ [.int .u8 x])) (hg' : X.grownBy w' v.ownBlock) :
    WObj (((w'.setCell ⟨g, 0, none⟩ v').setCell ⟨g, 1, none⟩ (.int .i64 yb)).setCell ⟨g, 3, none⟩ (.int .i64 yk)) base g s0.shift ∧ Bl base g w (((w'.setCell ⟨g, 0, none⟩ v').setCell ⟨g, 1, none⟩ (.int .i64 yb)).setCell ⟨g, 3, none⟩ (.int .i64 yk)) := by
  subst hyb hyk
  rw [E]
  have hne' := own_ne hown' hb' (by decide)
  refine ⟨⟨hnew, v', ?_, ?_⟩, ?_⟩
  · have := ((hb'.set_ 0 v').set_ 1 (.int .i64 s.bottom)).set_ 3 (.int .i64 s.bits)
    rw [hcs] at this
    exact this
  · rw [← hn, hx]
    exact own_set_far (own_set_far (own_set_far hown' hne' _) hne' _) hne' _
  · exact (((hbel.grown hg' (Nat.le_trans hsz hbel.size) hvb hvt).setCell hnew _).setCell hnew _).setCell hnew _

theorem emit_facts {w : World} {g : Nat} {v a b c : Value} (hb : Blk w g 40 #[v, a, b, c]) :
    w.cell? ⟨g, 0, none⟩ = some v ∧ w.cell? ⟨g, 1, none⟩ = some a ∧ w.cell? ⟨g, 2, none⟩ = some b ∧ w.cell? ⟨g, 3, none⟩ = some c ∧
    w.frozen? ⟨g, 0, none⟩ = false ∧ w.frozen? ⟨g, 1, none⟩ = false ∧ w.frozen? ⟨g, 2, none⟩ = false ∧ w.frozen? ⟨g, 3, none⟩ = false :=
  ⟨hb.cell 0, hb.cell 1, hb.cell 2, hb.cell 3, hb.frozen 0, hb.frozen 1, hb.frozen 2, hb.frozen 3⟩

set_option maxHeartbeats 4000000 in
theorem shift_emit0 (base g : Nat) (s : WS) (w : World) (hb1 : ¬ 2147483648 ≤ s.bottom) (hbits : s.bits = 1) (hlen : s.out.length ≤ 100000000) (hO : WObj w base g s) :
    Calls Tryd.prog 24 #[.pointer (some ⟨g, 0, none⟩)] w fun e w' => e = .returned (.tuple #[]) ∧ WObj w' base g s.shift ∧ Bl base g w w' := by
  have hbase := hO.lt
  obtain ⟨out, bottom, size, bits⟩ := s
  obtain ⟨hnew, v, hb, hown⟩ := hO
  simp only at *
  subst hbits
  have c0 := hb.cell 0
  have c1 := hb.cell 1
  have c2 := hb.cell 2
  have c3 := hb.cell 3
  have f0 := hb.frozen 0
  have f1 := hb.frozen 1
  have f2 := hb.frozen 2
  have f3 := hb.frozen 3
  simp at c0 c1 c2 c3
  have hlow : (0 : Int) ≤ bottom := by omega
  have hhi : (bottom : Int) < 2147483648 := by omega
  have m1 := bit31 bottom hlow (by omega)
  rw [if_neg (by omega)] at m1
  have m2 := low32 ((bottom : Int) * 2)
  have m3 := low24 ((bottom : Int) * 2 % 4294967296)
  have hne := own_ne hown hb (by decide)
  have hB := hide hb
  have hW := hide hown
  have HC : (((w.setCell ⟨g, 1, none⟩ (.int .i64 ((bottom : Int) * 2 % 4294967296))).setCell ⟨g, 3, none⟩ (.int .i64 0)).alloc (.cells #[.int .u8 (IntKind.u8.wrap ((bottom : Int) * 2 % 4294967296 / 16777216))] 5)).cell? ⟨w.heap.size, 0, none⟩ = some (.int .u8 (IntKind.u8.wrap ((bottom : Int) * 2 % 4294967296 / 16777216))) := by
    have hz : w.heap.size = ((w.setCell ⟨g, 1, none⟩ (.int .i64 ((bottom : Int) * 2 % 4294967296))).setCell ⟨g, 3, none⟩ (.int .i64 0)).heap.size := by simp
    rw [hz, World.cell?_alloc_new]
    rfl
  replace HC := hide HC
  have HB := ((hB.out.set_ 1 (.int .i64 ((bottom : Int) * 2 % 4294967296))).set_ 3 (.int .i64 0)).alloc (.cells #[.int .u8 (IntKind.u8.wrap ((bottom : Int) * 2 % 4294967296 / 16777216))] 5)
  simp at HB
  replace HB := hide HB
  have hglt := hb.lt
  have hgne : ¬ g = w.heap.size := by omega
  have hgne' : ¬ w.heap.size = g := by omega
  have ES : (WS.mk out bottom size 1).shift = ⟨out ++ [bottom * 2 % 4294967296 / 16777216], bottom * 2 % 4294967296 % 16777216, size, 8⟩ := by
    unfold WS.shift; simp only [hb1, if_true, if_false]
  have EB : (bottom : Int) * 2 % 16777216 = ((bottom * 2 % 4294967296 % 16777216 : Nat) : Int) := by omega
  have EX : (ofN (out ++ [bottom * 2 % 4294967296 / 16777216])).map (Value.int .u8) = (ofN out).map (Value.int .u8) ++ [.int .u8 (IntKind.u8.wrap ((bottom : Int) * 2 % 4294967296 / 16777216))] := by
    have ew : IntKind.u8.wrap ((bottom : Int) * 2 % 4294967296 / 16777216) = ((bottom * 2 % 4294967296 / 16777216 : Nat) : Int) := by
      rw [IntWalk.u8_in _ (by omega)]; omega
    rw [ew]
    simp [ofN]
  have HL : Bl base g w (((w.setCell ⟨g, 1, none⟩ (.int .i64 ((bottom : Int) * 2 % 4294967296))).setCell ⟨g, 3, none⟩ (.int .i64 0)).alloc (.cells #[.int .u8 (IntKind.u8.wrap ((bottom : Int) * 2 % 4294967296 / 16777216))] 5)) :=
    (((Bl.refl base g w).setCell hnew _).setCell hnew _).alloc (by simp; exact hbase) _
  replace HL := hide HL
  replace ES := hide ES
  replace EB := hide EB
  replace EX := hide EX
  clear hb hown
  go_enter Tryd.func24, Tryd.ntmps24
  go_wp2
  go_region_law (refine step_push2 (.tmp 35) (.tmp 42) 22 base 5 (.int .u8 0) 1 Tryd.underlying22 info_u8 rfl v out.length ((ofN out).map (Value.int .u8)) (.int .u8 (IntKind.u8.wrap ((bottom : Int) * 2 % 4294967296 / 16777216))) rfl w.heap.size (by simp only [maxLen]; omega) (by omega) ?_; refine ⟨⟨rfl, rfl, rfl, (own_set_far (own_set_far hW.out hne _) hne _).alloc _, rfl, HC.out, by simp <;> omega⟩, ?_⟩; intro v' w' hown' hg'; obtain ⟨A', c', rfl, _, _⟩ := own_len hown'; have hb' := Blk.grown (by exact HB.out) hg' hne; have d0 := hb'.cell 0; have d1 := hb'.cell 1; have d2 := hb'.cell 2; have d3 := hb'.cell 3; have k0 := hb'.frozen 0; have k1 := hb'.frozen 1; have k2 := hb'.frozen 2; have k3 := hb'.frozen 3; simp at d0 d1 d2 d3; replace hb' := hide hb'; replace hown' := hide hown'; replace hg' := hide hg')
  all_goals
    go_wp2
    go_end0
    refine ⟨rfl, ?_⟩
    refine emit_close base g _ ⟨out ++ [bottom * 2 % 4294967296 / 16777216], bottom * 2 % 4294967296 % 16777216, size, 8⟩ w _ _ v _ out.length _ (IntKind.u8.wrap ((bottom : Int) * 2 % 4294967296 / 16777216)) _ _ hnew hbase ?_ hne (fun k hk => (hW.out.lt k hk).1) ?_ ES.out EB.out rfl (by simp) EX.out _ ?_ hb'.out hown'.out hg'.out
    · exact ⟨⟨HL.out.os, HL.out.tape, HL.out.output, HL.out.size, HL.out.block⟩, HL.out.keep⟩
    · exact own_typ ((own_set_far (own_set_far hW.out hne _) hne _).alloc _)
    · simp

set_option maxHeartbeats 4000000 in
theorem shift_emit1 (base g : Nat) (s : WS) (w : World) (hb1 : 2147483648 ≤ s.bottom) (hb32 : s.bottom < 4294967296) (hne0 : s.out ≠ []) (hby : IsBy s.out) (hbits : s.bits = 1) (hlen : s.out.length ≤ 100000000) (hO : WObj w base g s) :
    Calls Tryd.prog 24 #[.pointer (some ⟨g, 0, none⟩)] w fun e w' => e = .returned (.tuple #[]) ∧ WObj w' base g s.shift ∧ Bl base g w w' := by
  have hbase := hO.lt
  obtain ⟨out, bottom, size, bits⟩ := s
  obtain ⟨hnew, v, hb, hown⟩ := hO
  simp only at *
  subst hbits
  have c0 := hb.cell 0
  have c1 := hb.cell 1
  have c2 := hb.cell 2
  have c3 := hb.cell 3
  simp at c0 c1 c2 c3
  have hlow : (0 : Int) ≤ bottom := by omega
  have hhi : (bottom : Int) < 4294967296 := by omega
  have m1 := bit31 bottom hlow hhi
  rw [if_pos (by omega)] at m1
  have m2 := low32 ((bottom : Int) * 2)
  have m3 := low24 ((bottom : Int) * 2 % 4294967296)
  have hpos : 0 < out.length := by cases out <;> simp_all
  obtain ⟨hh, cap, hvv, hhb, hhlt⟩ := hown.form (by exact hpos)
  subst hvv
  have hgh : g ≠ hh := by
    have := own_ne hown hb (by decide)
    intro e
    exact this (by rw [e]; rfl)
  have f0 := hb.frozen 0
  have f1 := hb.frozen 1
  have f2 := hb.frozen 2
  have f3 := hb.frozen 3
  have hB0 := hide hb
  have hW0 := hide hown
  clear hb hown
  go_enter Tryd.func24, Tryd.ntmps24
  go_wp2_with (first | (go_at_call 35; refine (carry_any base g hh out.length cap out bottom size 1 w rfl (by omega) hlen hgh hby hB0.out hW0.out).mono ?_; rintro e w1 ⟨rfl, hW1, u1⟩; replace hW1 := hide hW1; replace u1 := hide u1; obtain ⟨c0', c1', c2', c3', f0', f1', f2', f3'⟩ := emit_facts (hB0.out.upd u1.out (by simpa using hgh))) | go_in)
  have hb := hB0.out.upd u1.out (by simpa using hgh)
  have hown := hW1.out
  have hbase1 : base ≤ w1.heap.size := Nat.le_trans hbase u1.out.size
  have hL1 : Bl base g w w1 := Bl.ofUpd u1.out hbase hhb (own_typ hW0.out hh rfl)
  have hne := own_ne hown hb (by decide)
  have hB := hide hb
  have hW := hide hown
  have HC : (((w1.setCell ⟨g, 1, none⟩ (.int .i64 ((bottom : Int) * 2 % 4294967296))).setCell ⟨g, 3, none⟩ (.int .i64 0)).alloc (.cells #[.int .u8 (IntKind.u8.wrap ((bottom : Int) * 2 % 4294967296 / 16777216))] 5)).cell? ⟨w1.heap.size, 0, none⟩ = some (.int .u8 (IntKind.u8.wrap ((bottom : Int) * 2 % 4294967296 / 16777216))) := by
    have hz : w1.heap.size = ((w1.setCell ⟨g, 1, none⟩ (.int .i64 ((bottom : Int) * 2 % 4294967296))).setCell ⟨g, 3, none⟩ (.int .i64 0)).heap.size := by simp
    rw [hz, World.cell?_alloc_new]
    rfl
  replace HC := hide HC
  have HB := ((hB.out.set_ 1 (.int .i64 ((bottom : Int) * 2 % 4294967296))).set_ 3 (.int .i64 0)).alloc (.cells #[.int .u8 (IntKind.u8.wrap ((bottom : Int) * 2 % 4294967296 / 16777216))] 5)
  simp at HB
  replace HB := hide HB
  have hglt := hb.lt
  have hgne : ¬ g = w1.heap.size := by omega
  have hgne' : ¬ w1.heap.size = g := by omega
  have ES : (WS.mk out bottom size 1).shift = ⟨carryL out ++ [bottom * 2 % 4294967296 / 16777216], bottom * 2 % 4294967296 % 16777216, size, 8⟩ := by
    unfold WS.shift; simp only [hb1, if_true, if_false]
  have EB : (bottom : Int) * 2 % 16777216 = ((bottom * 2 % 4294967296 % 16777216 : Nat) : Int) := by omega
  have EX : (ofN (carryL out ++ [bottom * 2 % 4294967296 / 16777216])).map (Value.int .u8) = (ofN (carryL out)).map (Value.int .u8) ++ [.int .u8 (IntKind.u8.wrap ((bottom : Int) * 2 % 4294967296 / 16777216))] := by
    have ew : IntKind.u8.wrap ((bottom : Int) * 2 % 4294967296 / 16777216) = ((bottom * 2 % 4294967296 / 16777216 : Nat) : Int) := by
      rw [IntWalk.u8_in _ (by omega)]; omega
    rw [ew]
    simp [ofN]
  have HL : Bl base g w (((w1.setCell ⟨g, 1, none⟩ (.int .i64 ((bottom : Int) * 2 % 4294967296))).setCell ⟨g, 3, none⟩ (.int .i64 0)).alloc (.cells #[.int .u8 (IntKind.u8.wrap ((bottom : Int) * 2 % 4294967296 / 16777216))] 5)) :=
    ((hL1.setCell hnew _).setCell hnew _).alloc (by simp; exact hbase1) _
  replace HL := hide HL
  replace ES := hide ES
  replace EB := hide EB
  replace EX := hide EX
  clear hb hown
  go_region_law (refine step_push2 (.tmp 35) (.tmp 42) 22 base 5 (.int .u8 0) 1 Tryd.underlying22 info_u8 rfl (.slice (some ⟨hh, 0, none⟩) out.length cap) out.length ((ofN (carryL out)).map (Value.int .u8)) (.int .u8 (IntKind.u8.wrap ((bottom : Int) * 2 % 4294967296 / 16777216))) rfl w1.heap.size (by simp only [maxLen]; omega) (by omega) ?_; refine ⟨⟨rfl, rfl, rfl, (own_set_far (own_set_far hW.out hne _) hne _).alloc _, rfl, HC.out, by simp <;> omega⟩, ?_⟩; intro v' w' hown' hg'; obtain ⟨A', c', rfl, _, _⟩ := own_len hown'; have hb' := Blk.grown (by exact HB.out) hg' hne; have d0 := hb'.cell 0; have d1 := hb'.cell 1; have d2 := hb'.cell 2; have d3 := hb'.cell 3; have k0 := hb'.frozen 0; have k1 := hb'.frozen 1; have k2 := hb'.frozen 2; have k3 := hb'.frozen 3; simp at d0 d1 d2 d3; replace hb' := hide hb'; replace hown' := hide hown'; replace hg' := hide hg')
  all_goals
    go_wp2
    go_end0
    refine ⟨rfl, ?_⟩
    refine emit_close base g _ ⟨carryL out ++ [bottom * 2 % 4294967296 / 16777216], bottom * 2 % 4294967296 % 16777216, size, 8⟩ w _ _ (.slice (some ⟨hh, 0, none⟩) out.length cap) _ out.length _ (IntKind.u8.wrap ((bottom : Int) * 2 % 4294967296 / 16777216)) _ _ hnew hbase ?_ hne (fun k hk => (hW.out.lt k hk).1) ?_ ES.out EB.out rfl (by simp [carryL_length]) EX.out _ ?_ hb'.out hown'.out hg'.out
    · exact ⟨⟨HL.out.os, HL.out.tape, HL.out.output, HL.out.size, HL.out.block⟩, HL.out.keep⟩
    · exact own_typ ((own_set_far (own_set_far hW.out hne _) hne _).alloc _)
    · simp
end Go.Proofs.YtleiehiabcgalaaDoor
