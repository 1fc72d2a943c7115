/- What 'impl.Riff' holds in memory, by the state of its steps: words. No walk. -/
import Derived.Test.YthkpoidnhgcjhaaDoorRfTake
import Derived.Test.YthkpoidnhgcjhaaDoorRfNextA
namespace Go.Proofs.YthkpoidnhgcjhaaDoor
set_option linter.unusedSimpArgs false
set_option linter.unusedVariables false
open Go.RowKit Plain

/-- Below B nothing has turned, and of the blocks that stood only those of these types may have. -/
structure UpdT (B : Nat) (ts : List TypeId) (w w' : World) : Prop where
  os : w'.os = w.os
  tape : w'.tape = w.tape
  output : w'.output = w.output
  size : w.heap.size ≤ w'.heap.size
  low : ∀ k, k < B → k < w.heap.size → w'.heap[k]? = w.heap[k]?
  typ : ∀ k t cs, Blk w k t cs → t ∉ ts → Blk w' k t cs
theorem Blk.typ_eq {w : World} {k : Nat} {t t' : TypeId} {cs cs' : Array Value} (h : Blk w k t cs) (h' : Blk w k t' cs') : t = t' := by
  unfold Blk at h h'
  rw [h] at h'
  injection h' with h'
  injection h' with _ h'
theorem Upd.typed {B : Nat} {ts : List TypeId} {S : List Nat} {w w' : World} (u : Upd S w w') (hB : ∀ k ∈ S, B ≤ k) (hS : ∀ k ∈ S, k < w.heap.size → ∃ t cs, Blk w k t cs ∧ t ∈ ts) : UpdT B ts w w' :=
  ⟨u.os, u.tape, u.output, u.size, fun k hk hlt => u.block k hlt (fun hm => by have := hB k hm; omega), fun k t cs hb ht => hb.upd u (fun hm => by
    obtain ⟨t', cs', hb', ht'⟩ := hS k hm hb.lt
    rw [hb.typ_eq hb'] at ht
    exact ht ht')⟩
theorem Upd.typed0 {B : Nat} {ts : List TypeId} {w w' : World} (u : Upd [] w w') : UpdT B ts w w' := u.typed (by simp) (by simp)
namespace UpdT
variable {B : Nat} {ts : List TypeId} {w w' w'' : World}
theorem trans (h : UpdT B ts w w') (h' : UpdT B ts w' w'') : UpdT B ts w w'' :=
  ⟨h'.os.trans h.os, h'.tape.trans h.tape, h'.output.trans h.output, Nat.le_trans h.size h'.size, fun k hk hlt => (h'.low k hk (Nat.lt_of_lt_of_le hlt h.size)).trans (h.low k hk hlt), fun k t cs hb ht => h'.typ k t cs (h.typ k t cs hb ht) ht⟩
theorem more {ts' : List TypeId} (h : UpdT B ts w w') (ht : ∀ t ∈ ts, t ∈ ts') : UpdT B ts' w w' := ⟨h.os, h.tape, h.output, h.size, h.low, fun k t cs hb hn => h.typ k t cs hb (fun hm => hn (ht t hm))⟩
theorem own (h : UpdT B ts w w') {base size n : Nat} {e : TypeId} {v : Value} {xs : List Value} (ho : w.ownsRow base e size v n xs) (he : e ∉ ts) : w'.ownsRow base e size v n xs := by
  obtain ⟨h1, h2⟩ := ho
  refine ⟨h1, ?_⟩
  rcases h2 with h2 | ⟨g, cap, cur, hv, hg, hh, r⟩
  · exact .inl h2
  · exact .inr ⟨g, cap, cur, hv, hg, h.typ g e cur hh he, r⟩
theorem rz (h : UpdT B ts w w') {z : Nat} {r err cr : Value} {tot chl : Nat} {pad : Bool} {bf : Nat → Int} (hz : RZ w z r err cr tot chl pad bf) (ht : 86 ∉ ts) : RZ w' z r err cr tot chl pad bf := by
  obtain ⟨cs, a1, a2⟩ := hz.h
  exact ⟨cs, h.typ _ _ _ a1 ht, a2⟩
theorem rd (h : UpdT B ts w w') (hB : B ≤ w.heap.size) {k : IntKind} {A : Option Addr} {l : List Int} (hr : Rd k w B A l) : Rd k w' B A l :=
  hr.keep fun q hq => World.cell?_of_block (h.low q.block hq (by omega))
theorem base (h : UpdT B ts w w') (hB : B ≤ w.heap.size) {p : Nat} {cl : List Int} {bs : List Nat} {T : Nat} (hb : Base w B p cl bs T) (ht : 62 ∉ ts) : Base w' B p cl bs T := by
  obtain ⟨A, cap, C, capc, turn, h1, h2, h3, h4, h5⟩ := hb.h
  exact ⟨⟨A, cap, C, capc, turn, h.typ _ _ _ h1 ht, h2, h.rd hB h3, h.rd hB h4, h5⟩, hb.ge⟩
theorem chain (h : UpdT B ts w w') (hB : B ≤ w.heap.size) (t1 : 62 ∉ ts) (t2 : 86 ∉ ts) (t3 : 92 ∉ ts) {p : Nat} {cl : List Int} {T : Nat} : ∀ {ls : List Lv} {bs : List Nat}, Chain w B p cl ls bs T → Chain w' B p cl ls bs T
  | [], bs, hc => h.base hB hc t1
  | l :: ls, bs, hc => by
    obtain ⟨⟨bf, h1⟩, h2, h3, h4⟩ := hc
    exact ⟨⟨bf, h.rz h1 t2⟩, h.typ _ _ _ h2 t3, chain h hB t1 t2 t3 h3, h4⟩
theorem cur (h : UpdT B ts w w') (hB : B ≤ w.heap.size) (t1 : 62 ∉ ts) (t2 : 86 ∉ ts) (t3 : 92 ∉ ts) {p z tot chl : Nat} {pad : Bool} {cl : List Int} {T : Nat} {ls : List Lv} {bs : List Nat} (hc : Cur w B p cl ls bs T z tot chl pad) : Cur w' B p cl ls bs T z tot chl pad := by
  obtain ⟨⟨cr, bf, h1, h2⟩, h3, h4, h5, h6, h7⟩ := hc
  exact ⟨⟨cr, bf, h.rz h1 t2, fun hc => by obtain ⟨c, a, b, d⟩ := h2 hc; exact ⟨c, a, h.typ _ _ _ b t3, d⟩⟩, h.chain hB t1 t2 t3 h3, h4, h5, h6, h7⟩
theorem dead (h : UpdT B ts w w') (t2 : 86 ∉ ts) {z : Nat} {ax : Addr} (hd : Dead w z ax) : Dead w' z ax := by
  obtain ⟨r, cr, tot, chl, pad, bf, hz⟩ := hd
  exact ⟨r, cr, tot, chl, pad, bf, h.rz hz t2⟩
theorem sent (h : UpdT B ts w w') (hB : B ≤ w.heap.size) {g : Nat} {ax : Addr} (hs : Sent w B g ax) : Sent w' B g ax := by
  obtain ⟨h1, ⟨c, t, h2⟩, h3, h4⟩ := hs
  exact ⟨(World.cell?_of_block (h.low g h4 (by omega))).trans h1, ⟨c, t, (h.low _ h3 (by omega)).trans h2⟩, h3, h4⟩
theorem errs (h : UpdT B ts w w') (hB : B ≤ w.heap.size) {ae au ar ad al ap ah : Addr} (hs : Errs w B ae au ar ad al ap ah) : Errs w' B ae au ar ad al ap ah :=
  ⟨h.sent hB hs.eof, h.sent hB hs.une, h.sent hB hs.rif, h.sent hB hs.dat, h.sent hB hs.lng, h.sent hB hs.fil, h.sent hB hs.hea, hs.ne⟩
end UpdT
/-- What reading turns is of these types. -/
theorem Chain.zsT : ∀ {ls : List Lv} {w : World} {B p : Nat} {cl : List Int} {bs : List Nat} {T : Nat}, Chain w B p cl ls bs T → ∀ k ∈ zsOf p ls, ∃ t cs, Blk w k t cs ∧ t ∈ [62, 86]
  | [], w, B, p, cl, bs, T, h, k, hk => by
    simp only [zsOf, List.map_nil, List.mem_singleton] at hk
    subst hk
    obtain ⟨A, cap, C, capc, turn, h1, _⟩ := Base.h h
    exact ⟨_, _, h1, by simp⟩
  | l :: ls, w, B, p, cl, bs, T, h, k, hk => by
    obtain ⟨⟨bf, h1⟩, h2, h3, h4⟩ := h
    rcases List.mem_cons.1 (zs_cons hk) with h5 | h5
    · subst h5
      obtain ⟨cs, a1, _⟩ := h1.h
      exact ⟨_, _, a1, by simp⟩
    · exact Chain.zsT h3 k h5

/-- The cells of the chunks told, where V tells each one's bytes' slice. -/
def ckC (c : Ck) (v : Value) : List Value := [.int .u8 (c.id.getD 0 0 : Nat), .int .u8 (c.id.getD 1 0 : Nat), .int .u8 (c.id.getD 2 0 : Nat), .int .u8 (c.id.getD 3 0 : Nat), .int .i64 (c.len : Nat), v, .int .i64 (c.en : Nat)]
def ckCells (V : Nat → Value) : Nat → List Ck → List Value
  | _, [] => []
  | i, c :: cs => ckC c (V i) ++ ckCells V (i + 1) cs
theorem ck_len (V : Nat → Value) : ∀ (i : Nat) (l : List Ck), (ckCells V i l).length = l.length * 7
  | _, [] => rfl
  | i, c :: cs => by
    unfold ckCells
    rw [List.length_append, ck_len V (i + 1) cs, List.length_cons]
    simp [ckC]
    omega
theorem ck_snoc (V : Nat → Value) (c : Ck) : ∀ (i : Nat) (l : List Ck), ckCells V i (l ++ [c]) = ckCells V i l ++ ckC c (V (i + l.length))
  | _, [] => by simp [ckCells]
  | i, d :: ds => by
    show ckC d (V i) ++ ckCells V (i + 1) (ds ++ [c]) = (ckC d (V i) ++ ckCells V (i + 1) ds) ++ _
    rw [ck_snoc V c (i + 1) ds, List.append_assoc, List.length_cons, show i + 1 + ds.length = i + (ds.length + 1) by omega]
theorem ck_congr {V V' : Nat → Value} : ∀ (i : Nat) (l : List Ck), (∀ j, i ≤ j → j < i + l.length → V j = V' j) → ckCells V i l = ckCells V' i l
  | _, [], _ => rfl
  | i, c :: cs, h => by
    unfold ckCells
    rw [h i (Nat.le_refl _) (by simp), ck_congr (i + 1) cs (fun j h1 h2 => h j (by omega) (by rw [List.length_cons]; omega))]
structure Outs (w : World) (base : Nat) (ov : Value) (out : List Ck) : Prop where
  h : ∃ V : Nat → Value, w.ownsRow base 43 7 ov out.length (ckCells V 0 out) ∧
    (∀ i, i < out.length → w.ownsRow base 5 1 (V i) (out.getD i default).data.length ((ofNr (out.getD i default).data).map (Value.int .u8))) ∧
    (∀ i j, i < out.length → j < out.length → i ≠ j → (V i).ownBlock = none ∨ (V i).ownBlock ≠ (V j).ownBlock)
theorem UpdT.outs {B : Nat} {ts : List TypeId} {w w' : World} (u : UpdT B ts w w') {base : Nat} {ov : Value} {out : List Ck} (h : Outs w base ov out) (t1 : 43 ∉ ts) (t2 : 5 ∉ ts) : Outs w' base ov out := by
  obtain ⟨V, h1, h2, h3⟩ := h.h
  exact ⟨V, u.own h1 t1, fun i hi => u.own (h2 i hi) t2, h3⟩
theorem Outs.nil (w : World) (base : Nat) : Outs w base (.slice none 0 0) [] := ⟨fun _ => .slice none 0 0, ⟨rfl, .inl ⟨rfl, rfl⟩⟩, fun i hi => by simp at hi, fun i j hi => by simp at hi⟩
/-- A chunk more is told. -/
theorem Outs.snoc {w w' : World} {base : Nat} {ov ov' : Value} {out : List Ck} {c : Ck} {V : Nat → Value} (h1 : w.ownsRow base 43 7 ov out.length (ckCells V 0 out))
    (h2 : ∀ i, i < out.length → w.ownsRow base 5 1 (V i) (out.getD i default).data.length ((ofNr (out.getD i default).data).map (Value.int .u8)))
    (h3 : ∀ i j, i < out.length → j < out.length → i ≠ j → (V i).ownBlock = none ∨ (V i).ownBlock ≠ (V j).ownBlock) (hg : w.grownBy w' ov.ownBlock) (hd : c.data = []) (ho : w'.ownsRow base 43 7 ov' (out.length + 1) (ckCells V 0 out ++ ckC c (.slice none 0 0))) : Outs w' base ov' (out ++ [c]) := by
  have hlen : (out ++ [c]).length = out.length + 1 := by simp
  have hV : ∀ i, i < out.length → (fun i => if i < out.length then V i else .slice none 0 0) i = V i := fun i hi => by simp [hi]
  have hget : ∀ i, i < out.length → (out ++ [c]).getD i default = out.getD i default := fun i hi => by simp [List.getD_eq_getElem?_getD, List.getElem?_append_left hi]
  refine ⟨fun i => if i < out.length then V i else .slice none 0 0, ?_, fun i hi => ?_, fun i j hi hj hij => ?_⟩
  · rw [hlen, ck_snoc, ck_congr (V' := V) 0 out (fun j _ hj => hV j (by omega)), Nat.zero_add]
    simp only [Nat.lt_irrefl, if_false]
    exact ho
  · rw [hlen] at hi
    rcases Nat.lt_or_ge i out.length with hi' | hi'
    · simp only [hi', if_true]
      rw [hget i hi']
      exact World.ownsRow.kept (h2 i hi') hg (by
        by_cases hn : (V i).ownBlock = none
        · exact .inl hn
        · refine .inr (fun e => ?_)
          obtain ⟨k, hk⟩ := Option.ne_none_iff_exists'.1 hn
          rw [hk] at e
          rcases (h2 i hi').2 with ⟨hv, _⟩ | ⟨g, cap, cur, hv, _, hb, _⟩
          · rw [hv] at hk; cases hk
          · rw [hv] at hk
            injection hk with hk
            subst hk
            exact own_ne h1 (t := 5) (cs := cur) hb (by decide) e.symm)
    · have : i = out.length := by omega
      subst this
      simp only [Nat.lt_irrefl, if_false]
      have : (out ++ [c]).getD out.length default = c := by simp
      rw [this, hd]
      exact ⟨rfl, .inl ⟨rfl, rfl⟩⟩
  · rw [hlen] at hi hj
    by_cases hi' : i < out.length
    · by_cases hj' : j < out.length
      · simp only [hi', hj', if_true]
        exact h3 i j hi' hj' hij
      · simp only [hi', hj', if_true, if_false]
        by_cases hn : (V i).ownBlock = none
        · exact .inl hn
        · exact .inr (by simpa [Value.ownBlock] using hn)
    · simp only [hi', if_false]
      exact .inl rfl
/-- The last chunk told, in memory. -/
theorem Outs.last {w : World} {base : Nat} {ov : Value} {pre : List Ck} {c : Ck} (h : Outs w base ov (pre ++ [c])) : ∃ (V : Nat → Value) (g cap : Nat) (cs : Array Value), ov = .slice (some ⟨g, 0, none⟩) (pre.length + 1) cap ∧ base ≤ g ∧ Blk w g 43 cs ∧ pre.length + 1 ≤ cap ∧ cap ≤ maxLen ∧ cs.size = cap * 7 ∧ cs.toList.take ((pre.length + 1) * 7) = ckCells V 0 pre ++ ckC c (V pre.length) ∧
    (∀ i, i < pre.length → w.ownsRow base 5 1 (V i) (pre.getD i default).data.length ((ofNr (pre.getD i default).data).map (Value.int .u8))) ∧ w.ownsRow base 5 1 (V pre.length) c.data.length ((ofNr c.data).map (Value.int .u8)) ∧
    (∀ i j, i < pre.length + 1 → j < pre.length + 1 → i ≠ j → (V i).ownBlock = none ∨ (V i).ownBlock ≠ (V j).ownBlock) := by
  obtain ⟨V, h1, h2, h3⟩ := h.h
  have hlen : (pre ++ [c]).length = pre.length + 1 := by simp
  rw [hlen] at h1 h2 h3
  rcases h1.2 with ⟨_, h0⟩ | ⟨g, cap, cur, hv, hb, hh, hc, hm, hs, ht⟩
  · omega
  · refine ⟨V, g, cap, cur, hv, hb, hh, hc, hm, hs, ?_, fun i hi => ?_, ?_, h3⟩
    · rw [ht, ck_snoc, Nat.zero_add]
    · have := h2 i (by omega)
      have e : (pre ++ [c]).getD i default = pre.getD i default := by simp [List.getD_eq_getElem?_getD, List.getElem?_append_left hi]
      rwa [e] at this
    · have := h2 pre.length (by omega)
      have e : (pre ++ [c]).getD pre.length default = c := by simp
      rwa [e] at this
theorem took_at {cs : Array Value} {A : List Value} {c : Ck} {v : Value} {n : Nat} (h : cs.toList.take n = A ++ ckC c v) (hn : n = A.length + 7) (hs : n ≤ cs.size) : A.length + 6 < cs.size ∧ cs[A.length + 5]? = some v := by
  refine ⟨by omega, ?_⟩
  have h1 : (cs.toList.take n)[A.length + 5]? = some v := by
    rw [h, List.getElem?_append_right (by omega)]
    simp [ckC]
  rw [List.getElem?_take, if_pos (by omega)] at h1
  simpa using h1
theorem took_cells {cs : Array Value} {A : List Value} {c : Ck} {v v' : Value} {n : Nat} (full : Bool) (h : cs.toList.take n = A ++ ckC c v) (data : List Nat) : (tookCs cs A.length v' full).toList.take n = A ++ ckC ⟨c.id, c.len, data, if full then c.en else 0⟩ v' := by
  cases full with
  | true =>
    simp only [tookCs, if_true, Array.toList_setIfInBounds, List.take_set, h]
    rw [List.set_append_right _ _ (by omega)]
    simp [ckC]
  | false =>
    simp only [tookCs, Bool.false_eq_true, if_false, Array.toList_setIfInBounds, List.take_set, h]
    rw [List.set_append_right _ _ (by omega), List.set_append_right _ _ (by omega)]
    simp [ckC]
/-- More is told of the last chunk. -/
theorem Outs.took {w w' : World} {base g cap : Nat} {pre : List Ck} {c : Ck} {cs : Array Value} {V : Nat → Value} {v' : Value} {full : Bool} {data : List Nat} (hb : base ≤ g) (hc : pre.length + 1 ≤ cap) (hm : cap ≤ maxLen) (hs : cs.size = cap * 7) (ht : cs.toList.take ((pre.length + 1) * 7) = ckCells V 0 pre ++ ckC c (V pre.length))
    (hV : ∀ i, i < pre.length → w.ownsRow base 5 1 (V i) (pre.getD i default).data.length ((ofNr (pre.getD i default).data).map (Value.int .u8)))
    (hp : ∀ i j, i < pre.length + 1 → j < pre.length + 1 → i ≠ j → (V i).ownBlock = none ∨ (V i).ownBlock ≠ (V j).ownBlock)
    (hV' : ∀ i, i < pre.length → w'.ownsRow base 5 1 (V i) (pre.getD i default).data.length ((ofNr (pre.getD i default).data).map (Value.int .u8)))
    (hg : Blk w' g 43 (tookCs cs (pre.length * 7) v' full)) (ho : w'.ownsRow base 5 1 v' data.length ((ofNr data).map (Value.int .u8))) (hn : ∀ k, v'.ownBlock = some k → (V pre.length).ownBlock = some k ∨ w.heap.size ≤ k) :
    Outs w' base (.slice (some ⟨g, 0, none⟩) (pre.length + 1) cap) (pre ++ [⟨c.id, c.len, data, if full then c.en else 0⟩]) := by
  have hlen : (pre ++ [(⟨c.id, c.len, data, if full then c.en else 0⟩ : Ck)]).length = pre.length + 1 := by simp
  have hAl : (ckCells V 0 pre).length = pre.length * 7 := ck_len V 0 pre
  have hcon : ckCells (fun i => if i = pre.length then v' else V i) 0 pre = ckCells V 0 pre := ck_congr 0 pre (fun j _ hj => by simp only [(show j ≠ pre.length by omega), if_false])
  have hne : ∀ i, i < pre.length → ∀ k, (V i).ownBlock = some k → k < w.heap.size := fun i hi k hk => ((hV i hi).lt k hk).2
  refine ⟨fun i => if i = pre.length then v' else V i, ⟨?_, .inr ⟨g, cap, tookCs cs (pre.length * 7) v' full, ?_, hb, hg, ?_, hm, ?_, ?_⟩⟩, fun i hi => ?_, fun i j hi hj hij => ?_⟩
  · rw [ck_len]
  · rw [hlen]
  · rw [hlen]; exact hc
  · cases full <;> simp [tookCs, hs]
  · rw [hlen, ← hAl, took_cells full ht data, ck_snoc, hcon, Nat.zero_add]
    simp only [if_true]
  · rw [hlen] at hi
    by_cases he : i = pre.length
    · subst he
      simp only [if_true]
      have e : (pre ++ [(⟨c.id, c.len, data, if full then c.en else 0⟩ : Ck)]).getD pre.length default = ⟨c.id, c.len, data, if full then c.en else 0⟩ := by simp
      rw [e]
      exact ho
    · simp only [he, if_false]
      have e : (pre ++ [(⟨c.id, c.len, data, if full then c.en else 0⟩ : Ck)]).getD i default = pre.getD i default := by simp [List.getD_eq_getElem?_getD, List.getElem?_append_left (by omega : i < pre.length)]
      rw [e]
      exact hV' i (by omega)
  · rw [hlen] at hi hj
    by_cases he : i = pre.length
    · have hj' : j ≠ pre.length := by omega
      simp only [he, hj', if_true, if_false]
      by_cases hx : v'.ownBlock = none
      · exact .inl hx
      · refine .inr (fun e => ?_)
        obtain ⟨k, hk⟩ := Option.ne_none_iff_exists'.1 hx
        rw [hk] at e
        rcases hn k hk with h1 | h1
        · rcases hp j pre.length hj (by omega) hj' with h2 | h2
          · rw [h2] at e; cases e
          · exact h2 (by rw [← e, h1])
        · have := hne j (by omega) k e.symm
          omega
    · by_cases hj' : j = pre.length
      · simp only [he, hj', if_true, if_false]
        by_cases hx : (V i).ownBlock = none
        · exact .inl hx
        · refine .inr (fun e => ?_)
          obtain ⟨k, hk⟩ := Option.ne_none_iff_exists'.1 hx
          rw [hk] at e
          rcases hn k e.symm with h1 | h1
          · rcases hp i pre.length hi (by omega) he with h2 | h2
            · exact hx h2
            · exact h2 (by rw [hk, h1])
          · have := hne i (by omega) k hk
            omega
      · simp only [he, hj', if_false]
        exact hp i j hi hj hij
end Go.Proofs.YthkpoidnhgcjhaaDoor
