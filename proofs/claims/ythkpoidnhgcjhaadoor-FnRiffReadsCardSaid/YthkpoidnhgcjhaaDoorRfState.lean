/- The state of 'impl.Riff' between steps. No walk. -/
import Derived.Test.YthkpoidnhgcjhaaDoorRfMem
namespace Go.Proofs.YthkpoidnhgcjhaaDoor
set_option linter.unusedSimpArgs false
set_option linter.unusedVariables false
open Go.RowKit Plain

/-- The first loop of a code. -/
def firstLoop : Code → Option Code
  | .loop c => some c
  | .seq a b => match firstLoop a with
    | some c => some c
    | none => firstLoop b
  | .block _ c => firstLoop c
  | .scope c => firstLoop c
  | .cond _ a b => match firstLoop a with
    | some c => some c
    | none => firstLoop b
  | _ => none
noncomputable def bodyRiff : Code := (Tryd.f12.body.bind firstLoop).getD .skip

theorem own_shape {w : World} {base : Nat} {e : TypeId} {size : Nat} {v : Value} {n : Nat} {xs : List Value} (h : w.ownsRow base e size v n xs) : ∃ A c, v = .slice A n c := by
  rcases h.2 with ⟨rfl, rfl⟩ | ⟨g, cap, cur, rfl, _⟩
  · exact ⟨none, 0, rfl⟩
  · exact ⟨_, _, rfl⟩
theorem info_intr : (Tryd.prog.info? 3).map (fun i => (i.zero, i.size, i.bytes)) = some (some (Value.int .i64 0), 1, 8) := by kernel_rfl
theorem info_ck : (Tryd.prog.info? 43).map (fun i => (i.zero, i.size, i.bytes)) = some (some (Value.agg #[.int .u8 0, .int .u8 0, .int .u8 0, .int .u8 0, .int .i64 0, .slice none 0 0, .int .i64 0]), 7, 48) := by kernel_rfl
theorem info_part : (Tryd.prog.info? 68).map (fun i => (i.zero, i.size, i.bytes)) = some (some (Value.agg #[.pointer none, .nilIface]), 2, 24) := by kernel_rfl
theorem rdr_gd (m : Nat) (c : Addr) (w : World) : (eqGuard .neq 66 (.tmp m) (.const .nilIface) (.iface 84 (.pointer (some c))) .nilIface).run Tryd.prog w = .ok () w := by kernel_rfl
theorem rdr_gn (m : Nat) (w : World) : (eqGuard .neq 66 (.tmp m) (.const .nilIface) .nilIface .nilIface).run Tryd.prog w = .ok () w := by kernel_rfl
theorem rdr_ne (c : Addr) (w : World) : (binOp .neq 66 (.iface 84 (.pointer (some c))) .nilIface).run Tryd.prog w = .ok (.bool true) w := by kernel_rfl
theorem rdr_nn (w : World) : (binOp .neq 66 .nilIface .nilIface).run Tryd.prog w = .ok (.bool false) w := by kernel_rfl
/-- The slice at A reads as steps. -/
def RdS (w : World) (B : Nat) (A : Option Addr) (l : List (Int × Int)) : Prop :=
  l ≠ [] → ∃ b off, A = some ⟨b, off, none⟩ ∧ b < B ∧ ∀ j, j < l.length → w.cell? ⟨b, off + j * 2, none⟩ = some (.int .i64 (l.getD j (0, 0)).1) ∧ w.cell? ⟨b, off + j * 2 + 1, none⟩ = some (.int .i64 (l.getD j (0, 0)).2)
theorem RdS.keep {w w' : World} {B : Nat} {A : Option Addr} {l : List (Int × Int)} (h : RdS w B A l) (hk : ∀ p : Addr, p.block < B → w'.cell? p = w.cell? p) : RdS w' B A l := fun hl => by
  obtain ⟨b, off, h1, h2, h3⟩ := h hl
  exact ⟨b, off, h1, h2, fun j hj => ⟨(hk _ h2).trans (h3 j hj).1, (hk _ h2).trans (h3 j hj).2⟩⟩
/-- What is around, the outermost first. -/
def partC (ls : List Lv) : List Value := ls.reverse.flatMap fun l => [.pointer (some ⟨l.z, 0, none⟩), .iface 84 (.pointer (some ⟨l.c, 0, none⟩))]
theorem part_cons (l : Lv) (ls : List Lv) : partC (l :: ls) = partC ls ++ [.pointer (some ⟨l.z, 0, none⟩), .iface 84 (.pointer (some ⟨l.c, 0, none⟩))] := by simp [partC]
theorem part_len (ls : List Lv) : (partC ls).length = ls.length * 2 := by
  induction ls with
  | nil => rfl
  | cons l ls ih => rw [part_cons, List.length_append, ih, List.length_cons]; simp; omega
theorem part_adv (n : Nat) (ls : List Lv) : partC (adv n ls) = partC ls := by
  induction ls with
  | nil => rfl
  | cons l ls ih =>
    show partC (⟨l.z, l.c, l.tot - n, l.chl - n, l.pad⟩ :: adv n ls) = _
    rw [part_cons, part_cons, ih]
theorem adv_len (n : Nat) (ls : List Lv) : (adv n ls).length = ls.length := by simp [adv]
/-- The part at hand: its reader z and its data d. -/
def NowOk (w : World) (B p : Nat) (cl : List Int) (T z : Nat) (d : Value) (ae ad al ap ah : Addr) (bs : List Nat) (ls : List Lv) : Nw → Prop
  | .live l true => ∃ c, d = .iface 84 (.pointer (some ⟨c, 0, none⟩)) ∧ Chain w B p cl (⟨z, c, l.tot, l.chl, l.pad⟩ :: ls) bs T
  | .live l false => d = .nilIface ∧ Cur w B p cl ls bs T z l.tot l.chl l.pad
  | .dead eof => d = .nilIface ∧ (∃ ax, (if eof = true then ax = ae else (ax = ad ∨ ax = al ∨ ax = ap ∨ ax = ah)) ∧ Dead w z ax) ∧ Chain w B p cl ls bs T
/-- What is in the way of no reader. -/
structure RC (w0 w : World) (B : Nat) (ae au ar ad al ap ah : Addr) (fb rb : Nat) (form z4 : Array Value) (out : List Ck) (kinds : List Int) (kv ov : Value) : Prop where
  up : Upd [] w0 w
  hB0 : w0.heap.size = B
  errs : Errs w B ae au ar ad al ap ah
  outs : Outs w B ov out
  kinds : w.ownsRow B 3 1 kv kinds.length (kinds.map (Value.int .i64))
  form : Blk w fb 54 form
  res : Blk w rb 22 z4
/-- The readers. -/
structure RN (w : World) (B p : Nat) (cl : List Int) (T : Nat) (ae ad al ap ah : Addr) (now : Nw) (pls : List PL) (bs : List Nat) (av : Value) (nw : Nat) : Prop where
  h : ∃ z d ls, Blk w nw 68 #[.pointer (some ⟨z, 0, none⟩), d] ∧ bareL ls = pls ∧ NowOk w B p cl T z d ae ad al ap ah bs ls now ∧ w.ownsRow B 68 2 av ls.length (partC ls)
  nB : B ≤ nw
  na : av.ownBlock ≠ some nw
theorem UpdT.upd0 {B : Nat} {ts : List TypeId} {w0 w w' : World} (u : UpdT B ts w w') (h : Upd [] w0 w) (hB : w0.heap.size = B) : Upd [] w0 w' :=
  ⟨u.os.trans h.os, u.tape.trans h.tape, u.output.trans h.output, Nat.le_trans h.size u.size, fun k hk hs => (u.low k (by omega) (by have := h.size; omega)).trans (h.block k hk hs)⟩
theorem RC.upd {w0 w w' : World} {B : Nat} {ae au ar ad al ap ah : Addr} {fb rb : Nat} {form z4 : Array Value} {out : List Ck} {kinds : List Int} {kv ov : Value} {ts : List TypeId} (h : RC w0 w B ae au ar ad al ap ah fb rb form z4 out kinds kv ov) (u : UpdT B ts w w')
    (ht : 43 ∉ ts ∧ 5 ∉ ts ∧ 3 ∉ ts ∧ 54 ∉ ts ∧ 22 ∉ ts) : RC w0 w' B ae au ar ad al ap ah fb rb form z4 out kinds kv ov :=
  ⟨u.upd0 h.up h.hB0, h.hB0, u.errs (by have := h.up.size; have := h.hB0; omega) h.errs, u.outs h.outs ht.1 ht.2.1, u.own h.kinds ht.2.2.1, u.typ _ _ _ h.form ht.2.2.2.1, u.typ _ _ _ h.res ht.2.2.2.2⟩
theorem NowOk.upd {w w' : World} {B p : Nat} {cl : List Int} {T z : Nat} {d : Value} {ae ad al ap ah : Addr} {bs : List Nat} {ls : List Lv} {now : Nw} {ts : List TypeId} (h : NowOk w B p cl T z d ae ad al ap ah bs ls now) (hB : B ≤ w.heap.size) (u : UpdT B ts w w')
    (t1 : 62 ∉ ts) (t2 : 86 ∉ ts) (t3 : 92 ∉ ts) : NowOk w' B p cl T z d ae ad al ap ah bs ls now := by
  cases now with
  | live l hand =>
    cases hand with
    | true =>
      obtain ⟨c, h1, h2⟩ := h
      exact ⟨c, h1, u.chain hB t1 t2 t3 h2⟩
    | false =>
      obtain ⟨h1, h2⟩ := h
      exact ⟨h1, u.cur hB t1 t2 t3 h2⟩
  | dead eof =>
    obtain ⟨h1, ⟨ax, h2, h3⟩, h4⟩ := h
    exact ⟨h1, ⟨ax, h2, u.dead t2 h3⟩, u.chain hB t1 t2 t3 h4⟩
theorem RN.upd {w w' : World} {B p : Nat} {cl : List Int} {T : Nat} {ae ad al ap ah : Addr} {now : Nw} {pls : List PL} {bs : List Nat} {av : Value} {nw : Nat} {ts : List TypeId} (h : RN w B p cl T ae ad al ap ah now pls bs av nw) (hB : B ≤ w.heap.size) (u : UpdT B ts w w')
    (ht : 62 ∉ ts ∧ 86 ∉ ts ∧ 92 ∉ ts ∧ 68 ∉ ts) : RN w' B p cl T ae ad al ap ah now pls bs av nw := by
  obtain ⟨⟨z, d, ls, h1, h2, h3, h4⟩, h5, h6⟩ := h
  exact ⟨⟨z, d, ls, u.typ _ _ _ h1 ht.2.2.2, h2, h3.upd hB u ht.1 ht.2.1 ht.2.2.1, u.own h4 ht.2.2.2⟩, h5, h6⟩
theorem NowOk.later {w : World} {B p : Nat} {cl : List Int} {T T' z : Nat} {d : Value} {ae ad al ap ah : Addr} {bs : List Nat} {ls : List Lv} {now : Nw} (h : NowOk w B p cl T z d ae ad al ap ah bs ls now) (hT : T ≤ T') : NowOk w B p cl T' z d ae ad al ap ah bs ls now := by
  cases now with
  | live l hand =>
    cases hand with
    | true =>
      obtain ⟨c, h1, h2⟩ := h
      exact ⟨c, h1, h2.more hT⟩
    | false =>
      obtain ⟨h1, h2⟩ := h
      exact ⟨h1, ⟨h2.rz, h2.ch.more hT, h2.zn, h2.zB, h2.le, h2.lt⟩⟩
  | dead eof =>
    obtain ⟨h1, h2, h4⟩ := h
    exact ⟨h1, h2, h4.more hT⟩
theorem RN.later {w : World} {B p : Nat} {cl : List Int} {T T' : Nat} {ae ad al ap ah : Addr} {now : Nw} {pls : List PL} {bs : List Nat} {av : Value} {nw : Nat} (h : RN w B p cl T ae ad al ap ah now pls bs av nw) (hT : T ≤ T') : RN w B p cl T' ae ad al ap ah now pls bs av nw := by
  obtain ⟨⟨z, d, ls, h1, h2, h3, h4⟩, h5, h6⟩ := h
  exact ⟨⟨z, d, ls, h1, h2, h3.later hT, h4⟩, h5, h6⟩
/-- A row of the call's own has grown. -/
theorem grown_typed {w w' : World} {B size n : Nat} {e : TypeId} {v : Value} {xs : List Value} (ho : w.ownsRow B e size v n xs) (hg : w.grownBy w' v.ownBlock) : UpdT B [e] w w' := by
  refine ((Upd.refl v.ownBlock.toList w).grown hg (fun g h => .inl (by rw [h]; simp))).typed (fun k hk => (ho.lt k (by simpa using hk)).1) (fun k hk _ => ?_)
  have hk' : v.ownBlock = some k := by simpa using hk
  rcases ho.2 with ⟨h0, _⟩ | ⟨g, cap, cur, hv, _, hh, _⟩
  · rw [h0] at hk'; cases hk'
  · rw [hv] at hk'
    injection hk' with hk'
    subst hk'
    exact ⟨e, cur, hh, by simp⟩
/-- What a step told is kept. -/
theorem RC.tell {w0 w w' : World} {B : Nat} {ae au ar ad al ap ah : Addr} {fb rb : Nat} {form z4 : Array Value} {out : List Ck} {kinds : List Int} {kv kv' ov : Value} {x : Int} (h : RC w0 w B ae au ar ad al ap ah fb rb form z4 out kinds kv ov) (ho : w'.ownsRow B 3 1 kv' (kinds.length + 1) (kinds.map (Value.int .i64) ++ [.int .i64 x])) (hg : w.grownBy w' kv.ownBlock) :
    RC w0 w' B ae au ar ad al ap ah fb rb form z4 out (kinds ++ [x]) kv' ov := by
  have u := grown_typed h.kinds hg
  exact ⟨u.upd0 h.up h.hB0, h.hB0, u.errs (by have := h.up.size; have := h.hB0; omega) h.errs, u.outs h.outs (by decide) (by decide), by rw [List.length_append, List.map_append]; exact ho, u.typ _ _ _ h.form (by decide), u.typ _ _ _ h.res (by decide)⟩
/-- Blocks under levels are readers, chunks' readers, or the pieces. -/
theorem Chain.allT : ∀ {ls : List Lv} {w : World} {B p : Nat} {cl : List Int} {bs : List Nat} {T : Nat}, Chain w B p cl ls bs T → ∀ k ∈ allOf p ls, ∃ t cs, Blk w k t cs ∧ t ∈ [62, 86, 92]
  | [], w, B, p, cl, bs, T, h, k, hk => by
    simp only [allOf, List.mem_singleton] at hk
    subst hk
    obtain ⟨A, cap, C, capc, turn, h1, _⟩ := Base.h h
    exact ⟨_, _, h1, by simp⟩
  | l :: ls, w, B, p, cl, bs, T, h, k, hk => by
    obtain ⟨⟨bf, h1⟩, h2, h3, h4⟩ := h
    simp only [allOf, List.mem_cons] at hk
    rcases hk with h5 | h5 | h5
    · subst h5
      obtain ⟨cs, a1, _⟩ := h1.h
      exact ⟨_, _, a1, by simp⟩
    · subst h5
      exact ⟨_, _, h2, by simp⟩
    · exact Chain.allT h3 k h5
theorem Chain.far {ls : List Lv} {w : World} {B p : Nat} {cl : List Int} {bs : List Nat} {T : Nat} (h : Chain w B p cl ls bs T) {base : Nat} {e : TypeId} {size n : Nat} {v : Value} {xs : List Value} (ho : w.ownsRow base e size v n xs) (he : e ∉ [62, 86, 92]) : ∀ k, v.ownBlock = some k → k ∉ allOf p ls := fun k hk hm => by
  obtain ⟨t, cs, h1, h2⟩ := h.allT k hm
  exact own_ne ho h1 (fun e' => he (e' ▸ h2)) hk
/-- More has been read of the chunk at hand. -/
theorem RC.took {w0 w w' : World} {B p T m g cap : Nat} {cl : List Int} {bs : List Nat} {l : Lv} {ls : List Lv} {ae au ar ad al ap ah : Addr} {fb rb : Nat} {form z4 : Array Value} {pre : List Ck} {cc : Ck} {kinds : List Int} {kv : Value} {cs : Array Value} {V : Nat → Value} {e : Ending}
    (h : RC w0 w B ae au ar ad al ap ah fb rb form z4 (pre ++ [cc]) kinds kv (.slice (some ⟨g, 0, none⟩) (pre.length + 1) cap)) (hC : Chain w B p cl (l :: ls) bs T)
    (hg : Blk w g 43 cs) (hb : B ≤ g) (hc : pre.length + 1 ≤ cap) (hm : cap ≤ maxLen) (hs : cs.size = cap * 7) (ht : cs.toList.take ((pre.length + 1) * 7) = ckCells V 0 pre ++ ckC cc (V pre.length))
    (hV : ∀ i, i < pre.length → w.ownsRow B 5 1 (V i) (pre.getD i default).data.length ((ofNr (pre.getD i default).data).map (Value.int .u8)))
    (hVl : w.ownsRow B 5 1 (V pre.length) cc.data.length ((ofNr cc.data).map (Value.int .u8)))
    (hp : ∀ i j, i < pre.length + 1 → j < pre.length + 1 → i ≠ j → (V i).ownBlock = none ∨ (V i).ownBlock ≠ (V j).ownBlock)
    (hP : TakePost B p T m g (pre.length * 7) B cl bs l ls (V pre.length) cc.data cs w e w') :
    UpdT B [43, 5, 62, 86] w w' ∧
    RC w0 w' B ae au ar ad al ap ah fb rb form z4 (pre ++ [⟨cc.id, cc.len, cc.data ++ (str (l :: ls) bs).take m, if m ≤ (str (l :: ls) bs).length then cc.en else 0⟩]) kinds kv (.slice (some ⟨g, 0, none⟩) (pre.length + 1) cap) := by
  obtain ⟨_, v', hu, hg', hv', hC', hn⟩ := hP
  have u : UpdT B [43, 5, 62, 86] w w' := by
    refine hu.typed (fun k hk => ?_) (fun k hk _ => ?_)
    · rcases List.mem_cons.1 hk with h1 | hk
      · omega
      · rcases List.mem_append.1 hk with h1 | h1
        · exact (hVl.lt k (by simpa using h1)).1
        · exact (hC.lt k (zs_all p _ k h1)).2
    · rcases List.mem_cons.1 hk with h1 | hk
      · subst h1; exact ⟨_, _, hg, by simp⟩
      · rcases List.mem_append.1 hk with h1 | h1
        · have h2 : (V pre.length).ownBlock = some k := by simpa using h1
          rcases hVl.2 with ⟨h3, _⟩ | ⟨g', cap', cur, hv, _, hh, _⟩
          · rw [h3] at h2; cases h2
          · rw [hv] at h2
            injection h2 with h2
            subst h2
            exact ⟨_, cur, hh, by simp⟩
        · obtain ⟨t, cs', h2, h3⟩ := hC.zsT k h1
          exact ⟨t, cs', h2, List.mem_cons_of_mem _ (List.mem_cons_of_mem _ h3)⟩
  refine ⟨u, u.upd0 h.up h.hB0, h.hB0, u.errs (by have := h.up.size; have := h.hB0; omega) h.errs, ?_, u.own h.kinds (by decide), u.typ _ _ _ h.form (by decide), u.typ _ _ _ h.res (by decide)⟩
  have hd : (if m ≤ (str (l :: ls) bs).length then cc.en else 0) = (if decide (m ≤ (str (l :: ls) bs).length) = true then cc.en else 0) := by simp
  rw [hd]
  refine Outs.took hb hc hm hs ht hV hp (fun i hi => hu.own (hV i hi) (fun k hk hmem => ?_)) hg' hv' hn
  rcases List.mem_cons.1 hmem with h1 | h1
  · subst h1
    exact own_ne (hV i hi) hg (by decide) hk
  · rcases List.mem_append.1 h1 with h1 | h1
    · have h2 : (V pre.length).ownBlock = some k := by simpa using h1
      rcases hp i pre.length (by omega) (by omega) (by omega) with h3 | h3
      · rw [h3] at hk; cases hk
      · exact h3 (hk.trans h2.symm)
    · exact hC.far (hV i hi) (by decide) k hk (zs_all p _ k h1)
theorem len_at {cs : Array Value} {A : List Value} {c : Ck} {v : Value} {n : Nat} (h : cs.toList.take n = A ++ ckC c v) (hn : n = A.length + 7) : cs[A.length + 4]? = some (.int .i64 (c.len : Nat)) := by
  have h1 : (cs.toList.take n)[A.length + 4]? = some (.int .i64 (c.len : Nat)) := by
    rw [h, List.getElem?_append_right (by omega)]
    simp [ckC]
  rw [List.getElem?_take, if_pos (by omega)] at h1
  simpa using h1
/-- 'append' of one element of several cells; where the new row lies is told. -/
theorem wpList_pushNL {P : Program} {w : World} {ops : Array Oper} {rest : List Oper} {o : Oper} {a : Act} {Q : Exit → Act → World → Prop} (hgd : o.guard = none) (s x : Operand) (t : TypeId)
    (ho : o.op = .call { callee := .builtin .append, args := #[s, x], argTypes := #[t, t] })
    (base : Nat) (e : TypeId) (z : Value) (size bytes : Nat) (ht : P.underlying t = some (.slice e)) (hi : (P.info? e).map (fun i => (i.zero, i.size, i.bytes)) = some (some z, size, bytes)) (hzs : z.cells.size = size) (hsz : 0 < size)
    (v : Value) (n : Nat) (xs : List Value) (hs : a.eval s = v) (hown : w.ownsRow base e size v n xs) (cs : Array Value) (hcs : cs.size = size) (hu : ∀ u ∈ cs.toList, u.oneCell' = true)
    (hx : a.eval x = .slice (some ⟨w.heap.size, 0, none⟩) 1 1) (h63 : n + 1 ≤ maxLen) (hbytes : (n + 1) * bytes ≤ 140737488355328) (hbase : base ≤ w.heap.size)
    (h : ∀ g cap w', w'.ownsRow base e size (.slice (some ⟨g, 0, none⟩) (n + 1) cap) (n + 1) (xs ++ cs.toList) → w.grownBy w' v.ownBlock → (v.ownBlock = some g ∨ w.heap.size ≤ g) → wpList P ops Q rest (a.put o.dst (.slice (some ⟨g, 0, none⟩) (n + 1) cap)) w') : wpList P ops Q (o :: rest) a (w.alloc (.cells cs e)) := by
  obtain ⟨i, hi, hz, h1, h2⟩ := info_parts hi
  refine wpList_append_lies (w.alloc (.cells cs e)) hgd s x t ho base e i z size bytes ht hi hz h1 h2 hzs hsz v n xs hs (hown.alloc _) ⟨w.heap.size, 0, none⟩ 1 1 cs.toList hx (by simp [hcs]) ?_ hu (by decide) h63 hbytes (by simp; omega) _ rfl ?_
  · intro j y hy
    rw [Addr.add_lit, Nat.zero_add, World.cell?_alloc_new]
    simpa using hy
  · intro g cap w' h1 h2 h3 _
    refine h g cap w' h1 ⟨h2.os, h2.tape, h2.output, Nat.le_trans (by simp) h2.size, fun k hk hne => ?_⟩ (h3.imp id (fun e => by rw [e]; simp))
    rw [h2.block k (by simp; omega) hne]
    exact Below.heap_alloc w _ k hk
theorem own_less {w : World} {base : Nat} {e : TypeId} {size : Nat} {g : Nat} {n cap : Nat} {xs ys : List Value} (h : w.ownsRow base e size (.slice (some ⟨g, 0, none⟩) (n + 1) cap) (n + 1) (xs ++ ys)) (hl : xs.length = n * size) : w.ownsRow base e size (.slice (some ⟨g, 0, none⟩) n cap) n xs := by
  refine ⟨hl, ?_⟩
  rcases h.2 with ⟨h0, _⟩ | ⟨g', cap', cur, hv, hb, hh, hc, hm, hs, ht⟩
  · cases h0
  · injection hv with h1 _ h2
    injection h1 with h1
    injection h1 with h1
    subst h1 h2
    refine .inr ⟨g, cap, cur, rfl, hb, hh, by omega, hm, hs, ?_⟩
    have h3 := congrArg (List.take (n * size)) ht
    rw [List.take_take, Nat.min_eq_left (Nat.mul_le_mul_right _ (by omega)), List.take_left' hl] at h3
    exact h3
theorem own_cap {w : World} {base : Nat} {e : TypeId} {size : Nat} {A : Option Addr} {n cap : Nat} {xs : List Value} (h : w.ownsRow base e size (.slice A n cap) n xs) : n ≤ cap := by
  rcases h.2 with ⟨h0, h1⟩ | ⟨g', cap', cur, hv, hb, hh, hc, _⟩
  · omega
  · injection hv with _ _ h2
    omega
theorem own_capI {w : World} {base : Nat} {e : TypeId} {size : Nat} {a : Addr} {n cap : Nat} {xs : List Value} (h : w.ownsRow base e size (.slice (some a) n cap) n xs) : (cap : Int) ≤ 9223372036854775807 := by
  rcases h.2 with ⟨h0, _⟩ | ⟨g', cap', cur, hv, hb, hh, hc, hm, _⟩
  · cases h0
  · injection hv with _ _ h2
    rw [h2]
    unfold maxLen at hm
    omega
theorem Env.le {B : Nat} {cl : List Int} {T T' : Nat} (h : Env B cl T) (hT : T' ≤ T) : Env B cl T' := ⟨h.cl_, h.clw, by have := h.t_; omega, h.eof⟩
theorem NowOk.chain {w : World} {B p : Nat} {cl : List Int} {T z : Nat} {d : Value} {ae ad al ap ah : Addr} {bs : List Nat} {ls : List Lv} {now : Nw} (h : NowOk w B p cl T z d ae ad al ap ah bs ls now) : Chain w B p cl ls bs T := by
  cases now with
  | live l hand =>
    cases hand with
    | true =>
      obtain ⟨c, h1, h2⟩ := h
      exact h2.2.2.1
    | false => exact h.2.ch
  | dead eof => exact h.2.2
theorem NowOk.cur {w : World} {B p : Nat} {cl : List Int} {T z : Nat} {d : Value} {ae ad al ap ah : Addr} {bs : List Nat} {ls : List Lv} {l : PL} {hand : Bool} (h : NowOk w B p cl T z d ae ad al ap ah bs ls (.live l hand)) : Cur w B p cl ls bs T z l.tot l.chl l.pad := by
  cases hand with
  | true =>
    obtain ⟨c, h1, h2⟩ := h
    exact Chain.cur h2
  | false => exact h.2
theorem NowOk.bare {w : World} {B p : Nat} {cl : List Int} {T z : Nat} {d : Value} {ae ad al ap ah : Addr} {bs : List Nat} {ls : List Lv} {now : Nw} (h : NowOk w B p cl T z d ae ad al ap ah bs ls now) (hn : ∀ l, now ≠ .live l true) : d = .nilIface := by
  cases now with
  | live l hand =>
    cases hand with
    | true => exact absurd rfl (hn l)
    | false => exact h.1
  | dead eof => exact h.1
/-- The reader at hand and those around have been turned, and the part at hand: all else is as it was. -/
theorem Turned {w wz : World} {B p z nw : Nat} {cl : List Int} {T : Nat} {ls : List Lv} {bs : List Nat} {zc nc : Array Value} (hu : Upd (nw :: z :: zsOf p ls) w wz) (hz : Blk w z 86 zc) (hzB : B ≤ z) (hnw : Blk w nw 68 nc) (hnB : B ≤ nw) (hch : Chain w B p cl ls bs T) : UpdT B [68, 62, 86] w wz := by
  refine hu.typed (fun k hk => ?_) (fun k hk _ => ?_)
  · rcases List.mem_cons.1 hk with h | hk
    · omega
    · rcases List.mem_cons.1 hk with h | hk
      · omega
      · exact (hch.lt k (zs_all p ls k hk)).2
  · rcases List.mem_cons.1 hk with h | hk
    · subst h; exact ⟨_, _, hnw, by simp⟩
    · rcases List.mem_cons.1 hk with h | hk
      · subst h; exact ⟨_, _, hz, by simp⟩
      · obtain ⟨t, cs, h1, h2⟩ := hch.zsT k hk
        exact ⟨t, cs, h1, List.mem_cons_of_mem _ h2⟩
theorem Turned.av {w wz : World} {B p z nw : Nat} {cl : List Int} {T : Nat} {ls : List Lv} {bs : List Nat} {zc : Array Value} {av : Value} {n : Nat} {xs : List Value} (hu : Upd (nw :: z :: zsOf p ls) w wz) (hz : Blk w z 86 zc) (hch : Chain w B p cl ls bs T) (hav : w.ownsRow B 68 2 av n xs) (na : av.ownBlock ≠ some nw) : wz.ownsRow B 68 2 av n xs := by
  refine hu.own hav (fun g hg hm => ?_)
  rcases List.mem_cons.1 hm with h | hm
  · subst h; exact na hg
  · rcases List.mem_cons.1 hm with h | hm
    · subst h; exact own_ne hav hz (by decide) hg
    · obtain ⟨t, cs, h1, h2⟩ := hch.zsT g hm
      refine own_ne hav h1 (fun e => ?_) hg
      subst e
      revert h2
      decide
theorem kind_any {W : World} {B : Nat} {ae au ar ad al ap ah ax : Addr} {eof : Bool} (hE : Errs W B ae au ar ad al ap ah) (hax : if eof = true then ax = ae else (ax = ad ∨ ax = al ∨ ax = ap ∨ ax = ah)) : Calls Tryd.prog 22 #[.iface 122 (.pointer (some ax))] W fun e w' => e = .returned (.int .i64 (kd eof)) ∧ W = w' := by
  cases eof with
  | true =>
    rw [if_pos rfl] at hax
    subst hax
    exact kind_eof _ W hE.eof.cell
  | false =>
    rw [if_neg (by decide)] at hax
    obtain ⟨n1, n2, n3, n4, n5, n6⟩ := hE.ne
    refine kind_wrong ax ae W hE.eof.cell ?_
    rcases hax with h | h | h | h <;> subst h
    · exact eql_other hE.dat hE.eof n3
    · exact eql_other hE.lng hE.eof n4
    · exact eql_other hE.fil hE.eof n5
    · exact eql_other hE.hea hE.eof n6
/-- A chunk more is told. -/
theorem RC.more {w0 w w' : World} {B : Nat} {ae au ar ad al ap ah : Addr} {fb rb : Nat} {form z4 : Array Value} {out : List Ck} {kinds : List Int} {kv ov ov' : Value} {c : Ck} {V : Nat → Value} (h : RC w0 w B ae au ar ad al ap ah fb rb form z4 out kinds kv ov) (h1 : w.ownsRow B 43 7 ov out.length (ckCells V 0 out))
    (h2 : ∀ i, i < out.length → w.ownsRow B 5 1 (V i) (out.getD i default).data.length ((ofNr (out.getD i default).data).map (Value.int .u8)))
    (h3 : ∀ i j, i < out.length → j < out.length → i ≠ j → (V i).ownBlock = none ∨ (V i).ownBlock ≠ (V j).ownBlock) (hg : w.grownBy w' ov.ownBlock) (hd : c.data = []) (ho : w'.ownsRow B 43 7 ov' (out.length + 1) (ckCells V 0 out ++ ckC c (.slice none 0 0))) : RC w0 w' B ae au ar ad al ap ah fb rb form z4 (out ++ [c]) kinds kv ov' := by
  have u := grown_typed h1 hg
  exact ⟨u.upd0 h.up h.hB0, h.hB0, u.errs (by have := h.up.size; have := h.hB0; omega) h.errs, Outs.snoc h1 h2 h3 hg hd ho, u.own h.kinds (by decide), u.typ _ _ _ h.form (by decide), u.typ _ _ _ h.res (by decide)⟩
end Go.Proofs.YthkpoidnhgcjhaaDoor
