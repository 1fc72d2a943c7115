/- 'Reader.Next': words. No walk. -/
import Derived.Test.YthkpoidnhgcjhaaDoorRfNew
namespace Go.Proofs.YthkpoidnhgcjhaaDoor
set_option linter.unusedSimpArgs false
set_option linter.unusedVariables false
open Go.RowKit Plain

/-- What the next chunk is: none (the end, or an error), with how much is gone over; or one, behind so many bytes, so long, of what is told. -/
inductive NxR where
  | err (eof : Bool) (k : Nat)
  | ok (k n tot : Nat)
def nxB (tot k : Nat) (S : List Nat) : NxR :=
  if tot = 0 then .err true k else if tot < 8 then .err false k else if S.length < k + 8 then .err false S.length else if tot - 8 < le4 (S.drop (k + 4)) then .err false (k + 8) else .ok (k + 8) (le4 (S.drop (k + 4))) (tot - 8)
def nxP (tot k : Nat) (pad : Bool) (S : List Nat) : NxR :=
  if pad = true then (if tot = 0 then .err false k else if S.length ≤ k then .err false k else nxB (tot - 1) (k + 1) S) else nxB tot k S
def nextP (tot chl : Nat) (pad : Bool) (S : List Nat) : NxR := if S.length < chl then .err false S.length else nxP (tot - chl) chl pad S
/-- A reader that can go on: what is left of its chunk is read through a chunk's reader. -/
structure Cur (w : World) (B p : Nat) (cl : List Int) (ls : List Lv) (bs : List Nat) (T z tot chl : Nat) (pad : Bool) : Prop where
  rz : ∃ cr bf, RZ w z (ifOf p ls) .nilIface cr tot chl pad bf ∧ (chl ≠ 0 → ∃ c, cr = .pointer (some ⟨c, 0, none⟩) ∧ Blk w c 92 #[.pointer (some ⟨z, 0, none⟩)] ∧ c ∉ allOf p ls ∧ z ≠ c ∧ B ≤ c)
  ch : Chain w B p cl ls bs T
  zn : z ∉ allOf p ls
  zB : B ≤ z
  le : chl ≤ tot
  lt : tot < 4294967296
theorem Chain.cur {w : World} {B p : Nat} {cl : List Int} {l : Lv} {ls : List Lv} {bs : List Nat} {T : Nat} (h : Chain w B p cl (l :: ls) bs T) : Cur w B p cl ls bs T l.z l.tot l.chl l.pad := by
  obtain ⟨⟨bf, hz⟩, hc, hC, hct, ht, hzn, hcn, hzc, hBz, hBc⟩ := h
  exact ⟨⟨_, bf, hz, fun _ => ⟨l.c, rfl, hc, hcn, hzc, hBc⟩⟩, hC, hzn, hBz, hct, ht⟩
/-- A reader that told an error tells it again. -/
def Dead (w : World) (z : Nat) (ax : Addr) : Prop := ∃ r cr tot chl pad bf, RZ w z r (errV ax) cr tot chl pad bf
def NextPost (R : NxR) (B p T z : Nat) (cl : List Int) (ls : List Lv) (bs : List Nat) (ae ad al ap ah : Addr) (w : World) (e : Ending) (w' : World) : Prop :=
  Upd (z :: zsOf p ls) w w' ∧ match R with
  | .err eof k => ∃ ax, (if eof = true then ax = ae else (ax = ad ∨ ax = al ∨ ax = ap ∨ ax = ah)) ∧ e = .returned (.tuple #[zero4, .int .u32 0, .nilIface, errV ax]) ∧ Dead w' z ax ∧ Chain w' B p cl (adv k ls) (bs.drop k) (T + bs.length + 12)
  | .ok k n tot => ∃ c, w.heap.size ≤ c ∧ e = .returned (.tuple #[four ((str ls bs).drop (k - 8)), .int .u32 n, .iface 84 (.pointer (some ⟨c, 0, none⟩)), .nilIface]) ∧ Chain w' B p cl (⟨z, c, tot, n, decide (n % 2 = 1)⟩ :: adv k ls) (bs.drop k) (T + bs.length + 12)
theorem ret_cell_tmp3 {fn : Func} {p u v s : Tmp} {ty : TypeId} (h : fn.results = #[.cell p ty, .tmp u, .tmp v, .tmp s]) {tmps : Array Value} {P : Program} {w : World} {a : Addr} {x y z t : Value} (hp : tmps.getD p undef = .pointer (some a)) (hl : (loadVar ty a).run P w = .ok x w) (hu : tmps.getD u undef = y) (hv : tmps.getD v undef = z) (hs : tmps.getD s undef = t) :
    (results fn tmps).run P w = .ok (.tuple #[x, y, z, t]) w := by
  have hp' : tmps[p]?.getD undef = .pointer (some a) := by simpa using hp
  have hu' : tmps[u]?.getD undef = y := by simpa using hu
  have hv' : tmps[v]?.getD undef = z := by simpa using hv
  have hs' : tmps[s]?.getD undef = t := by simpa using hs
  simp [results, h, hp', hu', hv', hs', asAddr, hl]
theorem if_adv (p n : Nat) (ls : List Lv) : ifOf p (adv n ls) = ifOf p ls := by cases ls <;> rfl
theorem zs_cons {p i : Nat} {l : Lv} {ls : List Lv} (h : i ∈ zsOf p (l :: ls)) : i ∈ l.z :: zsOf p ls := by
  simp only [zsOf, List.map_cons, List.mem_cons] at h ⊢
  rcases h with h | h | h
  · exact .inr (.inl h)
  · exact .inl h
  · exact .inr (.inr h)
theorem Chain.le {w : World} {B p : Nat} {cl : List Int} {ls : List Lv} {bs : List Nat} {T T' : Nat} (h : Chain w B p cl ls bs T) (ht : T ≤ T') : Chain w B p cl ls bs T' := by
  obtain ⟨d, rfl⟩ : ∃ d, T' = T + d := ⟨T' - T, by omega⟩
  induction d with
  | zero => exact h
  | succ d ih => exact (ih (by omega)).later
/-- What stays true through 'Next' of the reader and of what lies under it. -/
structure Std (B p z : Nat) (ls : List Lv) (w : World) : Prop where
  zw : z < w.heap.size
  zn : z ∉ allOf p ls
  zB : B ≤ z
  Bw : B ≤ w.heap.size
  nw : w.heap.size ∉ allOf p ls
/-- Where a reader stands in the midst of 'Next': k bytes are gone over. -/
structure At (wX : World) (B p : Nat) (cl : List Int) (ls : List Lv) (bs : List Nat) (T' z k : Nat) (err cr : Value) (t c : Nat) (pad : Bool) (bf : Nat → Int) (w : World) : Prop where
  rz : RZ wX z (ifOf p ls) err cr t c pad bf
  fo : ∃ a b c d : Value, Blk wX w.heap.size 54 #[a, b, c, d]
  ch : Chain wX B p cl (adv k ls) (bs.drop k) T'
  up : Upd (z :: zsOf p ls) w wX
namespace At
variable {wX wY : World} {B p : Nat} {cl : List Int} {ls : List Lv} {bs : List Nat} {T' z k : Nat} {err cr err' cr' : Value} {t c t' c' : Nat} {pad pad' : Bool} {bf bf' : Nat → Int} {w : World}
theorem step (h : At wX B p cl ls bs T' z k err cr t c pad bf w) (hs : Std B p z ls w) (u : Upd [z] wX wY) (hz : RZ wY z (ifOf p ls) err' cr' t' c' pad' bf') : At wY B p cl ls bs T' z k err' cr' t' c' pad' bf' w := by
  obtain ⟨h1, h2, h3, h4, h5⟩ := hs
  have := h.up.size
  obtain ⟨fa, fb, fc, fd, hf⟩ := h.fo
  refine ⟨hz, ⟨fa, fb, fc, fd, hf.upd u (by simp; omega)⟩, Chain.upd u (by simp; exact h3) (by omega) h.ch (fun i hi => ?_), h.up.step u (fun i hi _ => by simp at hi; subst hi; simp)⟩
  rw [all_adv] at hi
  simp
  rintro rfl
  exact h2 hi
theorem set1 (h : At wX B p cl ls bs T' z k err cr t c pad bf w) (hs : Std B p z ls w) (v : Value) : At (wX.setCell ⟨z, 1, none⟩ v) B p cl ls bs T' z k v cr t c pad bf w := h.step hs ((Upd.refl [z] wX).setCell (p := ⟨z, 1, none⟩) (.inl (by simp)) v) (h.rz.set1 v)
theorem set2 (h : At wX B p cl ls bs T' z k err cr t c pad bf w) (hs : Std B p z ls w) (n : Nat) : At (wX.setCell ⟨z, 2, none⟩ (.int .u32 n)) B p cl ls bs T' z k err cr n c pad bf w := h.step hs ((Upd.refl [z] wX).setCell (p := ⟨z, 2, none⟩) (.inl (by simp)) _) (h.rz.set2 n)
theorem set3 (h : At wX B p cl ls bs T' z k err cr t c pad bf w) (hs : Std B p z ls w) (n : Nat) : At (wX.setCell ⟨z, 3, none⟩ (.int .u32 n)) B p cl ls bs T' z k err cr t n pad bf w := h.step hs ((Upd.refl [z] wX).setCell (p := ⟨z, 3, none⟩) (.inl (by simp)) _) (h.rz.set3 n)
theorem set4 (h : At wX B p cl ls bs T' z k err cr t c pad bf w) (hs : Std B p z ls w) (v : Value) : At (wX.setCell ⟨z, 4, none⟩ v) B p cl ls bs T' z k err v t c pad bf w := h.step hs ((Upd.refl [z] wX).setCell (p := ⟨z, 4, none⟩) (.inl (by simp)) _) (h.rz.set4 v)
theorem set13 (h : At wX B p cl ls bs T' z k err cr t c pad bf w) (hs : Std B p z ls w) (b : Bool) : At (wX.setCell ⟨z, 13, none⟩ (.bool b)) B p cl ls bs T' z k err cr t c b bf w := h.step hs ((Upd.refl [z] wX).setCell (p := ⟨z, 13, none⟩) (.inl (by simp)) _) (h.rz.set13 b)
theorem drew (h : At wX B p cl ls bs T' z k err cr t c pad bf w) (hs : Std B p z ls w) : At wX.drew B p cl ls bs T' z k err cr t c pad bf w := h.step hs (Upd.refl [z] wX).drew (h.rz.to rfl)
theorem drewN (h : At wX B p cl ls bs T' z k err cr t c pad bf w) (hs : Std B p z ls w) (n : Nat) : At (wX.drewN n) B p cl ls bs T' z k err cr t c pad bf w := h.step hs ((Upd.refl [z] wX).drewN n) (h.rz.to (by simp))
theorem form (h : At wX B p cl ls bs T' z k err cr t c pad bf w) (hs : Std B p z ls w) {fa fb fc fd : Value} (u : Upd [w.heap.size] wX wY) (hf : Blk wY w.heap.size 54 #[fa, fb, fc, fd]) : At wY B p cl ls bs T' z k err cr t c pad bf w := by
  obtain ⟨h1, h2, h3, h4, h5⟩ := hs
  have := h.up.size
  refine ⟨h.rz.upd u (by simp; omega), ⟨_, _, _, _, hf⟩, Chain.upd u (by simp; omega) (by omega) h.ch (fun i hi => ?_), h.up.step u (fun i hi hlt => by simp at hi; omega)⟩
  rw [all_adv] at hi
  simp
  rintro rfl
  exact h5 hi
theorem le (h : At wX B p cl ls bs T' z k err cr t c pad bf w) {T'' : Nat} (hT : T' ≤ T'') : At wX B p cl ls bs T'' z k err cr t c pad bf w := ⟨h.rz, h.fo, h.ch.le hT, h.up⟩
/-- The reader's bytes are read into. -/
theorem full (h : At wX B p cl ls bs T' z k err cr t c pad bf w) (hs : Std B p z ls w) {m T'' : Nat} {ae au : Addr} {cs : Array Value} (h0 : Blk wX z 86 cs) (h1 : cs.size = 14 ∧ cs[0]? = some (ifOf p ls) ∧ cs[1]? = some err ∧ cs[2]? = some (.int .u32 t) ∧ cs[3]? = some (.int .u32 c) ∧ cs[4]? = some cr ∧ (∀ i, i < 8 → cs[5 + i]? = some (.int .u8 (bf i))) ∧ cs[13]? = some (.bool pad)) (hm : m ≤ 8) {e : Ending}
    (hp : FullPost ((str ls bs).drop k) m z 5 86 cs (z :: zsOf p (adv k ls)) (fun n w' => Chain w' B p cl (adv n (adv k ls)) ((bs.drop k).drop n) T'') ae au wX e wY) :
    e = .returned (.tuple #[.int .i64 ((min m ((str ls bs).length - k) : Nat) : Int), fullV ae au m ((str ls bs).length - k)]) ∧ ∃ bf', (∀ j, j < min m ((str ls bs).length - k) → bf' j = (((str ls bs).getD (k + j) 0 : Nat) : Int)) ∧ At wY B p cl ls bs T'' z (k + min m ((str ls bs).length - k)) err cr t c pad bf' w := by
  obtain ⟨e1, ⟨cs', hb, hf⟩, hu, hc⟩ := hp
  rw [List.length_drop] at e1 hc
  obtain ⟨bf', hz, hbf⟩ := hf.rz hb ⟨h1.1, h1.2.1, h1.2.2.1, h1.2.2.2.1, h1.2.2.2.2.1, h1.2.2.2.2.2.1, fun i hi => ⟨_, h1.2.2.2.2.2.2.1 i hi⟩, h1.2.2.2.2.2.2.2⟩ (by decide) (by rw [List.length_take]; omega)
  rw [adv_adv, List.drop_drop] at hc
  rw [zs_adv] at hu
  obtain ⟨h1', h2, h3, h4, h5⟩ := hs
  have hsz := h.up.size
  obtain ⟨fa, fb, fc, fd, hff⟩ := h.fo
  refine ⟨e1, bf', fun j hj => ?_, hz, ⟨fa, fb, fc, fd, hff.upd hu ?_⟩, hc, h.up.step hu (fun i hi _ => hi)⟩
  · have := hbf j (by rw [List.length_take, List.length_drop]; exact hj)
    rw [Nat.sub_self, Nat.zero_add] at this
    rw [this]
    simp [List.getElem?_take, List.getElem?_drop, (by omega : j < m)]
  · simp only [List.mem_cons, not_or]
    exact ⟨by omega, fun hm => h5 (zs_all p ls _ hm)⟩
end At
/-- A refused 'Next', from where the error stands in the reader. -/
theorem next_err {B p T z k : Nat} {cl : List Int} {ls : List Lv} {bs : List Nat} {ae ad al ap ah ax : Addr} {eof pad : Bool} {w wX wz : World} {cr : Value} {t c : Nat} {bf : Nat → Int} {T' : Nat} {R : NxR}
    (h : At wX B p cl ls bs T' z k (errV ax) cr t c pad bf w) (hR : R = .err eof k) (hT : T' ≤ T + bs.length + 12) (hax : if eof = true then ax = ae else (ax = ad ∨ ax = al ∨ ax = ap ∨ ax = ah)) (hs : Std B p z ls w) (u : Upd [w.heap.size] wX wz) :
    NextPost R B p T z cl ls bs ae ad al ap ah w (.returned (.tuple #[zero4, .int .u32 0, .nilIface, errV ax])) wz := by
  obtain ⟨h1, h2, h3, h4, h5⟩ := hs
  have hsz := h.up.size
  subst hR
  refine ⟨h.up.step u (fun i hi hlt => by simp at hi; omega), ax, hax, rfl, ⟨_, cr, t, c, pad, bf, h.rz.upd u (by simp; omega)⟩, ?_⟩
  refine (Chain.upd u (by simp; omega) (by omega) h.ch (fun i hi => ?_)).le hT
  rw [all_adv] at hi
  simp
  rintro rfl
  exact h5 hi
/-- The first of two places where ways meet: the chunk before is over. -/
def Mid (wc : World) (B p : Nat) (cl : List Int) (ls : List Lv) (bs : List Nat) (T z t k : Nat) (pad : Bool) (w : World) : Prop := k ≤ (str ls bs).length ∧ ∃ cr bf, At wc B p cl ls bs T z k .nilIface cr t 0 pad bf w
/-- What reading into the reader's bytes leaves. -/
def GotPost (a : Nat) (v : Value) (B p : Nat) (cl : List Int) (ls : List Lv) (bs : List Nat) (T' z k : Nat) (err cr : Value) (t c : Nat) (pad : Bool) (w : World) (e : Ending) (w' : World) : Prop :=
  e = .returned (.tuple #[.int .i64 (a : Int), v]) ∧ ∃ bf', (∀ j, j < a → bf' j = (((str ls bs).getD (k + j) 0 : Nat) : Int)) ∧ At w' B p cl ls bs T' z (k + a) err cr t c pad bf' w
theorem At.read {wX : World} {B p : Nat} {cl : List Int} {ls : List Lv} {bs : List Nat} {T' z k : Nat} {err cr : Value} {t c : Nat} {pad : Bool} {bf : Nat → Int} {w : World} {ae au ar ad al ap ah : Addr} (h : At wX B p cl ls bs T' z k err cr t c pad bf w) (hs : Std B p z ls w) (m : Nat) (hv : Env B cl (T' + m + 1)) (hl : (bs.length : Int) ≤ 2147483647) (hm0 : 1 ≤ m) (hm : m ≤ 8) (hR : Errs wX B ae au ar ad al ap ah) {a : Nat} (ha : a = min m ((str ls bs).length - k)) {v : Value} (hf : fullV ae au m ((str ls bs).length - k) = v) :
    Calls Tryd.prog 28 #[ifOf p ls, .slice (some ⟨z, 5, none⟩) m 8] wX (GotPost a v B p cl ls bs (T' + m + 1) z k err cr t c pad w) := by
  obtain ⟨cs, h0, h1⟩ := h.rz.h
  have c := full_any B p z 5 m 8 T' cl (bs.drop k) (adv k ls) 86 cs ae au wX hv h.ch (by rw [List.length_drop]; omega) hm0 (by omega) h0 (by rw [h1.1]; omega) hm (by decide) (by rw [all_adv]; exact hs.zn) hs.zB (Nat.le_trans hs.Bw h.up.size) hR.eof.cell hR.une.cell hR.une.glt
  rw [if_adv, str_adv] at c
  subst ha hf
  exact c.mono (fun e w' hp => h.full hs h0 h1 hm hp)
theorem nxB_eof (k : Nat) (S : List Nat) : nxB 0 k S = .err true k := by unfold nxB; rw [if_pos rfl]
theorem nxB_lt8 {t k : Nat} {S : List Nat} (h : t ≠ 0) (h8 : t < 8) : nxB t k S = .err false k := by unfold nxB; rw [if_neg h, if_pos h8]
theorem nxB_short {t k : Nat} {S : List Nat} (h8 : ¬ t < 8) (hs : S.length < k + 8) : nxB t k S = .err false S.length := by unfold nxB; rw [if_neg (by omega), if_neg h8, if_pos hs]
theorem nxB_long {t k : Nat} {S : List Nat} (h8 : ¬ t < 8) (hs : ¬ S.length < k + 8) (hl : t - 8 < le4 (S.drop (k + 4))) : nxB t k S = .err false (k + 8) := by unfold nxB; rw [if_neg (by omega), if_neg h8, if_neg hs, if_pos hl]
theorem nxB_ok {t k : Nat} {S : List Nat} (h8 : ¬ t < 8) (hs : ¬ S.length < k + 8) (hl : ¬ t - 8 < le4 (S.drop (k + 4))) : nxB t k S = .ok (k + 8) (le4 (S.drop (k + 4))) (t - 8) := by unfold nxB; rw [if_neg (by omega), if_neg h8, if_neg hs, if_neg hl]
end Go.Proofs.YthkpoidnhgcjhaaDoor
