/- 'part.read': the walk. -/
import Derived.Test.YthkpoidnhgcjhaaDoorRfKind
namespace Go.Proofs.YthkpoidnhgcjhaaDoor
set_option linter.unusedSimpArgs false
set_option linter.unusedVariables false
open Go.RowKit Plain

/-- 'append' of elements of one cell each, in a region that draws; where the new row lies is told. -/
theorem step_pushAt {P : Program} {w : World} {ops : Array Oper} {o : Oper} {a : Act} {K : Act → World → Prop} {Q : Exit → Act → World → Prop} {E : Prop} (s x : Operand) (t : TypeId)
    (base : Nat) (e : TypeId) (z : Value) (bytes : Nat) (ht : P.underlying t = some (.slice e)) (hi : (P.info? e).map (fun i => (i.zero, i.size, i.bytes)) = some (some z, 1, bytes)) (hzs : z.cells.size = 1)
    (v : Value) (n : Nat) (xs : List Value) (ad : Addr) (m c : Nat) (news : List Value) (hl : news.length = m) (h1 : ∀ u ∈ news, u.oneCell' = true) (h63 : n + m ≤ maxLen) (hbytes : (n + m) * bytes ≤ 140737488355328)
    (h : (o.guard = none ∧ o.op = .call { callee := .builtin .append, args := #[s, x], argTypes := #[t, t] } ∧ a.eval s = v ∧ w.ownsRow base e 1 v n xs ∧ a.eval x = .slice (some ad) m c ∧ (∀ j u, news[j]? = some u → w.cell? (ad.add j) = some u) ∧ base ≤ w.heap.size) ∧
      ∀ v' w', w'.ownsRow base e 1 v' (n + m) (xs ++ news) → w.grownBy w' v.ownBlock → (v'.ownBlock = v.ownBlock ∨ v'.ownBlock = some w.heap.size) → K (a.put o.dst v') w') :
    if Region.wanted o (yielded ops a.tmps) = true then Oper.wp P o a w K Q else E := by
  obtain ⟨⟨hgd, ho, hs, hown, hx, hnews, hbase⟩, h8⟩ := h
  obtain ⟨i, hi, hz, h1', h2'⟩ := info_parts hi
  have hw : Region.wanted o (yielded ops a.tmps) = true := by simp [Region.wanted, hgd]
  rw [if_pos hw]
  obtain ⟨v', w', hr, h2, h3, _, h5⟩ := run_append_own_at (P := P) w base t o.type e i z 1 bytes ht hi hz h1' h2' hzs (by decide) v n xs hown ad m c news (by rw [hl, Nat.mul_one]) hnews h1 h63 hbytes hbase
  unfold Oper.wp execOp
  simp only [ho, resolve, invoke, builtin, Sem.run_bind, Sem.run_pure, Result.andThen_ok, List.map_toArray, List.map_cons, List.map_nil, hs, hx, hr]
  exact h8 v' w' h2 h3 h5

theorem size_part : (Tryd.prog.info? 68).map (·.size) = some 2 := by kernel_rfl
set_option maxRecDepth 100000 in
set_option maxHeartbeats 2000000 in
/-- Nothing is asked. -/
theorem take_none (pv cv : Value) (u v : Value) (n most : Int) (hp : pv = .agg #[u, v]) (hn : n ≤ 0) (w : World) :
    Calls Tryd.prog 24 #[pv, cv, .int .i64 n, .int .i64 most] w fun e w' => e = .returned (.tuple #[]) ∧ Upd [] w w' := by
  subst hp
  go_enter Tryd.func24, Tryd.ntmps24
  go_wp2
  exact bodyPost_ret (results_none rfl _ _ _) rfl ⟨rfl, (Upd.refl [] w).alloc _⟩
/-- The block of chunks behind a reading. -/
def tookCs (cs : Array Value) (o : Nat) (v' : Value) (full : Bool) : Array Value := if full then cs.setIfInBounds (o + 5) v' else (cs.setIfInBounds (o + 5) v').setIfInBounds (o + 6) (.int .i64 0)
def TakePost (B p T m g o base : Nat) (cl : List Int) (bs : List Nat) (l : Lv) (ls : List Lv) (v : Value) (data : List Nat) (cs : Array Value) (w : World) (e : Ending) (w' : World) : Prop :=
  e = .returned (.tuple #[]) ∧ ∃ v', Upd (g :: (v.ownBlock.toList ++ zsOf p (l :: ls))) w w' ∧ Blk w' g 43 (tookCs cs o v' (decide (m ≤ (str (l :: ls) bs).length))) ∧
    w'.ownsRow base 5 1 v' (data ++ (str (l :: ls) bs).take m).length ((ofNr (data ++ (str (l :: ls) bs).take m)).map (Value.int .u8)) ∧
    Chain w' B p cl (adv (min m (str (l :: ls) bs).length) (l :: ls)) (bs.drop (min m (str (l :: ls) bs).length)) (T + m + 1) ∧ (∀ k, v'.ownBlock = some k → v.ownBlock = some k ∨ w.heap.size ≤ k)
theorem own_blk {w : World} {base : Nat} {e : TypeId} {g n m : Nat} {xs : List Value} (h : w.ownsRow base e 1 (.slice (some ⟨g, 0, none⟩) n m) n xs) : ∃ cs, Blk w g e cs ∧ cs.size = m := by
  rcases h.2 with ⟨h, _⟩ | ⟨g', cap, cur, hv, _, hh, _, _, hs, _⟩
  · cases h
  · injection hv with h1 _ h2
    injection h1 with h1
    injection h1 with h1
    subst h1 h2
    exact ⟨cur, hh, by omega⟩
theorem nr_at {X : List Nat} {j : Nat} {u : Value} (h : ((ofNr X).map (Value.int .u8))[j]? = some u) : j < X.length ∧ u = .int .u8 ((X.getD j 0 : Nat) : Int) := by
  have hj : j < X.length := by
    rcases Nat.lt_or_ge j X.length with h1 | h1
    · exact h1
    · rw [List.getElem?_eq_none (by simpa [ofNr_len] using h1)] at h; cases h
  refine ⟨hj, ?_⟩
  simp [ofNr, hj] at h
  simp [← h, hj]
theorem take_len (l : List Nat) (m : Nat) : (l.take m).length = min m l.length := by simp
theorem take_close {B p T m g o base d aN : Nat} {cl : List Int} {bs : List Nat} {l : Lv} {ls : List Lv} {w w5 w6 : World} {v v' : Value} {data : List Nat} {cs : Array Value} {full : Bool}
    (hfull : decide (m ≤ (str (l :: ls) bs).length) = full) (ha : aN = min m (str (l :: ls) bs).length) (hu5 : Upd (d :: zsOf p (l :: ls)) w w5) (hd : w.heap.size ≤ d) (hC5 : Chain w5 B p cl (adv aN (l :: ls)) (bs.drop aN) (T + m + 1))
    (hBw : B ≤ w.heap.size) (hBb : B ≤ base) (hgB : B ≤ g) (hg5 : Blk w5 g 43 cs) (hown : w.ownsRow base 5 1 v data.length ((ofNr data).map (Value.int .u8))) (hvb : ∀ k, v.ownBlock = some k → k ∉ allOf p (l :: ls)) (hgn : g ∉ allOf p (l :: ls)) (hce : v.ownBlock ≠ some g)
    (hown6 : w6.ownsRow base 5 1 v' (data.length + aN) ((ofNr data).map (Value.int .u8) ++ (ofNr ((str (l :: ls) bs).take m)).map (Value.int .u8))) (hg6' : w5.drew.grownBy w6 v.ownBlock) (hat : v'.ownBlock = v.ownBlock ∨ v'.ownBlock = some w5.heap.size) {wz : World}
    (hz : wz = if full then w6.setCell ⟨g, o + 5, none⟩ v' else (w6.setCell ⟨g, o + 5, none⟩ v').setCell ⟨g, o + 6, none⟩ (.int .i64 0)) :
    TakePost B p T m g o base cl bs l ls v data cs w (.returned (.tuple #[])) wz := by
  subst ha
  have hg6 : w5.grownBy w6 v.ownBlock := ⟨hg6'.os, hg6'.tape, hg6'.output, hg6'.size, hg6'.block⟩
  have hs5 := hu5.size
  have hg6b := hg5.grown hg6 hce
  have hne6 := own_ne hown6 hg6b (by decide)
  have u6 : Upd v.ownBlock.toList w5 w6 := (Upd.refl _ w5).grown hg6 (fun g' h => .inl (by rw [h]; simp))
  have hC6 := hC5.upd u6 (fun s hs => by
    have : v.ownBlock = some s := by simpa using hs
    have := (hown.lt s this).1
    omega) (by omega) (fun k hk hm => by
    have : v.ownBlock = some k := by simpa using hm
    rw [all_adv] at hk
    exact hvb k this hk)
  have hat' : ∀ k, v'.ownBlock = some k → v.ownBlock = some k ∨ w.heap.size ≤ k := fun k hk => by
    rcases hat with h | h
    · exact .inl (h ▸ hk)
    · rw [h] at hk
      injection hk with hk
      exact .inr (by omega)
  have uW : Upd (g :: (v.ownBlock.toList ++ zsOf p (l :: ls))) w w6 := (hu5.wide (S := g :: (v.ownBlock.toList ++ zsOf p (l :: ls))) (fun k hk hlt => by
    rcases List.mem_cons.1 hk with h | h
    · omega
    · simp [h])).step u6 (fun i hi _ => by simp [List.mem_append.2 (.inl hi)])
  have hlen : (data ++ (str (l :: ls) bs).take m).length = data.length + min m (str (l :: ls) bs).length := by simp
  have hmap : (ofNr (data ++ (str (l :: ls) bs).take m)).map (Value.int .u8) = (ofNr data).map (Value.int .u8) ++ (ofNr ((str (l :: ls) bs).take m)).map (Value.int .u8) := by simp [ofNr]
  cases full with
  | true =>
    rw [if_pos rfl] at hz
    subst hz
    refine ⟨rfl, v', uW.setCell (.inl (by simp)) _, ?_, ?_, ?_, hat'⟩
    · rw [hfull]
      exact hg6b.set_ _ _
    · rw [hlen, hmap]
      exact own_set_far hown6 hne6 _
    · exact Chain.upd ((Upd.refl [g] w6).setCell (.inl (by simp)) _) (by simpa using hgB) (by have := u6.size; omega) hC6 (fun k hk hm => by
        rw [all_adv] at hk
        simp at hm
        subst hm
        exact hgn hk)
  | false =>
    rw [if_neg (by decide)] at hz
    subst hz
    refine ⟨rfl, v', (uW.setCell (.inl (by simp)) _).setCell (.inl (by simp)) _, ?_, ?_, ?_, hat'⟩
    · rw [hfull]
      exact Blk.set_ (hg6b.set_ _ _) _ _
    · rw [hlen, hmap]
      exact own_set_far (own_set_far hown6 hne6 _) hne6 _
    · exact Chain.upd (((Upd.refl [g] w6).setCell (.inl (by simp)) _).setCell (.inl (by simp)) _) (by simpa using hgB) (by have := u6.size; omega) hC6 (fun k hk hm => by
        rw [all_adv] at hk
        simp at hm
        subst hm
        exact hgn hk)
set_option maxRecDepth 100000 in
set_option maxHeartbeats 4000000 in
theorem take_any (B p T m g o base : Nat) (cl : List Int) (bs : List Nat) (l : Lv) (ls : List Lv) (ae au ar ad al ap ah : Addr) (w : World) (n most : Int) (v : Value) (data : List Nat) (cs : Array Value)
    (hv : Env B cl (T + m + 1)) (hC : Chain w B p cl (l :: ls) bs T) (hl : (bs.length : Int) ≤ 2147483647) (hBw : B ≤ w.heap.size) (hR : Errs w B ae au ar ad al ap ah)
    (hn : 1 ≤ n) (hm0 : 1 ≤ m) (hm : (m : Int) ≤ 2147483647) (hmin : min n most = (m : Int)) (hg : Blk w g 43 cs) (hgB : B ≤ g) (ho6 : o + 6 < cs.size) (ho5 : cs[o + 5]? = some v) (hown : w.ownsRow base 5 1 v data.length ((ofNr data).map (Value.int .u8))) (hdl : (data.length : Int) ≤ 2147483647) (hbase : base ≤ w.heap.size) (hBb : B ≤ base) (hvb : ∀ k, v.ownBlock = some k → k ∉ allOf p (l :: ls)) (hgn : g ∉ allOf p (l :: ls)) :
    Calls Tryd.prog 24 #[.agg #[.pointer (some ⟨l.z, 0, none⟩), .iface 84 (.pointer (some ⟨l.c, 0, none⟩))], .pointer (some ⟨g, o, none⟩), .int .i64 n, .int .i64 most] w (TakePost B p T m g o base cl bs l ls v data cs w) := by
  have hC0 := hC.lt
  have hu1 := (Upd.refl [] w).alloc (.cells #[.pointer (some ⟨l.z, 0, none⟩), .iface 84 (.pointer (some ⟨l.c, 0, none⟩))] 68)
  have hCb := hC.upd hu1 (by simp) hBw (by simp)
  have hRb := hR.upd hu1 (by simp) hBw
  have hgb := hg.upd hu1 (by simp)
  have hob := hu1.own hown (by simp)
  have hvl := fun k (hk : v.ownBlock = some k) => (hown.lt k hk).2
  have hgl := hg.lt
  obtain ⟨A, c, hA⟩ : ∃ A c, v = .slice A data.length c := by obtain ⟨A, c, h, _⟩ := own_len hown; exact ⟨A, c, h⟩
  have hce := own_ne hown hg (by decide)
  subst hA
  replace hC := hide hCb
  replace hR := hide hRb
  replace hv := hide hv
  replace hg := hide hgb
  have hown0 := hide hown
  replace hown := hide hob
  replace hvb := hide hvb
  replace hgn := hide hgn
  replace hC0 := hide hC0
  replace hvl := hide hvl
  replace hce := hide hce
  replace hu1 := hide hu1
  clear hCb hRb hgb hob
  have hmI : (1 : Int) ≤ m := by omega
  have hmI' : ¬ (m : Int) ≤ 0 := by omega
  have hdec : (n = (m : Int) ∧ (m : Int) ≤ most ∧ n ≤ most) ∨ (most = (m : Int) ∧ ¬ n ≤ (m : Int) ∧ (m : Int) < n ∧ ¬ n ≤ 0) := by omega
  clear hmin
  obtain ⟨aN, haN⟩ : ∃ aN, aN = min m (str (l :: ls) bs).length := ⟨_, rfl⟩
  have haI : (aN : Int) ≤ m := by omega
  have hfvc : ∃ full fv, decide (m ≤ (str (l :: ls) bs).length) = full ∧ fullV ae au m (str (l :: ls) bs).length = fv ∧ ((full = true ∧ fv = .nilIface) ∨ (full = false ∧ fv = .iface 122 (.pointer (some ae))) ∨ (full = false ∧ fv = .iface 122 (.pointer (some au)))) := by
    refine ⟨_, _, rfl, rfl, ?_⟩
    unfold fullV
    by_cases h : m ≤ (str (l :: ls) bs).length
    · rw [if_pos h]; exact .inl ⟨by simpa using h, rfl⟩
    · rw [if_neg h]
      by_cases h0 : (str (l :: ls) bs).length = 0
      · rw [if_pos h0]; exact .inr (.inl ⟨by simpa using h, rfl⟩)
      · rw [if_neg h0]; exact .inr (.inr ⟨by simpa using h, rfl⟩)
  obtain ⟨full, fv, hfull, hfv, hfvc⟩ := hfvc
  have hnl : ((ofNr ((str (l :: ls) bs).take m)).map (Value.int .u8)).length = aN := by rw [List.length_map, ofNr_len, List.length_take, haN]
  have hn1 : ∀ u ∈ (ofNr ((str (l :: ls) bs).take m)).map (Value.int .u8), u.oneCell' = true := fun u hu => by
    obtain ⟨x, _, rfl⟩ := List.mem_map.1 hu
    rfl
  replace hfull := hide hfull
  replace hfv := hide hfv
  replace haN := hide haN
  replace hnl := hide hnl
  replace hn1 := hide hn1
  have eqe := fun w => eql_es ae w
  rcases hfvc with ⟨rfl, rfl⟩ | ⟨rfl, rfl⟩ | ⟨rfl, rfl⟩
  all_goals rcases hdec with ⟨rfl, hle, _⟩ | ⟨rfl, hle, hlt, hn0⟩
  all_goals
    go_enter Tryd.func24, Tryd.ntmps24
    go_wp2_with (first
      | (refine wpList_makeN _ rfl (.tmp 15) (.tmp 15) 25 rfl w.heap.size 5 .u8 1 Tryd.underlying25 info_u8r .i64 .i64 _ _ m rfl rfl rfl rfl (by omega) (by simp only [maxLen]; omega) (by simp) ?_
         intro w4 ho4 hg4 hz4
         have hbx := (Blk.new w 68 #[.pointer (some ⟨l.z, 0, none⟩), .iface 84 (.pointer (some ⟨l.c, 0, none⟩))]).grown hg4 (by simp)
         have x1 := hbx.cell 1
         simp at x1
         rw [World.size_alloc] at ho4 hz4
         obtain ⟨csd, hbd, hcsd⟩ := own_blk ho4
         have u4 := (Upd.refl [] _).grown hg4 (by simp)
         have hC4 := hide (hC.out.upd u4 (by simp) (by simp; omega) (by simp))
         have hR4 := hide (hR.out.upd u4 (by simp) (by simp; omega))
         have hg4b := hide (hg.out.upd u4 (by simp))
         have hown4 := hide (u4.own hown.out (by simp))
         have u04 := hide (hu1.out.trans u4)
         have hs4 := (hu1.out.trans u4).size
         have cF : Calls Tryd.prog 28 #[.iface 84 (.pointer (some ⟨l.c, 0, none⟩)), .slice (some ⟨w.heap.size + 1, 0, none⟩) m m] w4 _ := full_any B p (w.heap.size + 1) 0 m m T cl bs (l :: ls) 5 csd ae au w4 hv.out hC4.out hl hm0 hm hbd (by omega) (Nat.le_refl _) (by omega) (fun h => by have := (hC0.out _ h).1; omega) (by omega) (by omega) hR4.out.eof.cell hR4.out.une.cell hR4.out.une.glt
         replace cF := hide cF
         replace hbd := hide hbd
         clear ho4 hbx hC hR hg hown hg4 u4))
    (with_reducible refine (cF.out).mono ?_)
    rintro e w5 ⟨rfl, ⟨csd', hbd', hf⟩, u5, hC5⟩
    rw [hfv.out, ← haN.out]
    rw [← haN.out] at hC5
    clear cF
    have hgd : g ∉ (w.heap.size + 1) :: zsOf p (l :: ls) := fun h => by
      rcases List.mem_cons.1 h with h | h
      · omega
      · exact hgn.out (zs_all p _ _ h)
    have hg5 := hg4b.out.upd u5 hgd
    have hown5 := u5.own hown4.out (fun k hk h => by
      rcases List.mem_cons.1 h with h | h
      · have := hvl.out k hk; omega
      · exact hvb.out k hk (zs_all p _ _ h))
    have k5 := (hg5.cell (o + 5)).trans ho5
    have q5 := hg5.frozen (o + 5)
    have hR5 := hR4.out.upd u5 (fun s hs => by
      rcases List.mem_cons.1 hs with h | h
      · omega
      · exact (hC0.out _ (zs_all p _ _ h)).2) (by omega)
    have hE5 := hR5.eof.cell
    have hU5 := hR5.une.cell
    have hEl := hR5.eof.glt
    have hUl := hR5.une.glt
    have hne5 := eql_other hR5.une hR5.eof hR5.ne.1
    have hs5 := u5.size
    have hgl5 := hg5.lt
    have hnews : ∀ j u, ((ofNr ((str (l :: ls) bs).take m)).map (Value.int .u8))[j]? = some u → w5.cell? ((⟨w.heap.size + 1, 0, none⟩ : Addr).add j) = some u := fun j u hu => by
      obtain ⟨hj, rfl⟩ := nr_at hu
      have h1 := hf.2.1 j hj
      rw [Nat.zero_add] at h1
      rw [Addr.add_lit, Nat.zero_add, hbd'.cell j, h1]
    have u05 := hide ((u04.out.wide (S := (w.heap.size + 1) :: zsOf p (l :: ls)) (fun k h => by simp at h)).trans u5)
    replace hnews := hide hnews
    replace hC5 := hide hC5
    replace hg5 := hide hg5
    replace hown5 := hide hown5
    replace hne5 := hide hne5
    replace hR5 := hide hR5
    clear hbd hbd' hf hR4 hC4 hg4b hown4 u04 u5
    go_upto_region 4 with fail
    go_region_law (refine step_pushAt (.tmp 28) (.tmp 31) 25 base 5 (.int .u8 0) 1 Tryd.underlying25 info_u8r rfl (.slice A data.length c) data.length ((ofNr data).map (Value.int .u8)) ⟨w.heap.size + 1, 0, none⟩ aN m ((ofNr ((str (l :: ls) bs).take m)).map (Value.int .u8)) hnl.out hn1.out (by simp only [maxLen]; omega) (by omega) ?_; refine ⟨⟨rfl, rfl, rfl, hown5.out, rfl, hnews.out, by simp <;> omega⟩, ?_⟩; intro v' w6 hown6 hg6 hat; obtain ⟨A', c', rfl, _, _⟩ := own_len hown6; have hg6b := Blk.grown (by exact hg5.out) hg6 hce.out; have k6 := hg6b.frozen (o + 5); have j6 := (hg6b.cell (o + 5)).trans ho5; replace hown6 := hide hown6; replace hg6 := hide hg6; replace hat := hide hat; replace hg6b := hide hg6b)
    all_goals
      go_upto_region 5 with fail
      have u6' : Upd (Value.slice A data.length c).ownBlock.toList w5.drew w6 := (Upd.refl _ w5.drew).grown hg6.out (fun g' h => .inl (by rw [h]; simp))
      have u6 : Upd (Value.slice A data.length c).ownBlock.toList w5 w6 := ⟨u6'.os, u6'.tape, u6'.output, u6'.size, u6'.block⟩
      clear u6'
      have hR6 := hR5.out.upd u6 (fun s hs => by
        have h1 : (Value.slice A data.length c).ownBlock = some s := by simpa using hs
        have := (hown5.out.lt s h1).1
        omega) (by omega)
      have hs6 : w5.heap.size ≤ w6.heap.size := u6.size
      have hRx := hR6.upd ((Upd.refl [g] w6).setCell (p := ⟨g, o + 5, none⟩) (.inl (by simp)) (.slice A' (data.length + aN) c')) (by simpa using hgB) (by omega)
      have hgx := hg6b.out.set_ (o + 5) (.slice A' (data.length + aN) c')
      have j7 := hgx.cell (o + 6)
      rw [Array.getElem?_setIfInBounds_ne (by omega), Array.getElem?_eq_getElem ho6] at j7
      have q7 := hgx.frozen (o + 6)
      have hfin := fun wz => take_close (wz := wz) (o := o) hfull.out haN.out u05.out (by omega) hC5.out hBw hBb hgB hg5.out hown0.out hvb.out hgn.out hce.out hown6.out hg6.out hat.out
      have hEx := hRx.eof.cell
      have hUx := hRx.une.cell
      have hnx := eql_other hRx.une hRx.eof hRx.ne.1
      have eqa := fun w => eql_es au w
      replace hfin := hide hfin
      clear hR5 hown5 hnews hRx hR6 hgx hne5 hg6b k5 q5 k6 j6 hE5 hU5 x1 u6 hg6 hat hown6
      generalize cs[o + 6] = x6 at *
      obtain ⟨w7, hw7⟩ : ∃ w7, w7 = w6.setCell ⟨g, o + 5, none⟩ (.slice A' (data.length + aN) c') := ⟨_, rfl⟩
      rw [← hw7] at hEx hUx hnx j7 q7 ⊢
      replace hw7 := hide hw7
      go_wp2
      go_end0
      exact hfin.out _ (by rw [hw7.out]; rfl)
end Go.Proofs.YthkpoidnhgcjhaaDoor
