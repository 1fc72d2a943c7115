/- Readers of chunks in memory: words. No walk. -/
import Derived.Test.YthkpoidnhgcjhaaDoorMem
import Derived.Test.YthkpoidnhgcjhaaDoorRows2
import Derived.Test.YthkpoidnhgcjhaaDoorRdNe
import Derived.Test.YthkpoidnhgcjhaaDoorPlain
import Derived.Test.YthkpoidnhgcjhaaDoorRows
import Derived.KernelRfl
import Derived.LaidEql
import Derived.Laws.CopyOwn
namespace Go.Proofs.YthkpoidnhgcjhaaDoor
set_option linter.unusedSimpArgs false
set_option linter.unusedVariables false
open Go.RowKit Plain

def ofNr (B : List Nat) : List Int := B.map Int.ofNat
theorem ofNr_len (l : List Nat) : (ofNr l).length = l.length := by simp [ofNr]
theorem ofNr_get (l : List Nat) (m : Nat) : (ofNr l).getD m 0 = ((l.getD m 0 : Nat) : Int) := by
  rcases Nat.lt_or_ge m l.length with h | h
  · simp [ofNr, h]
  · simp [ofNr, h]
theorem ofNr_drop (l : List Nat) (n : Nat) : ofNr (l.drop n) = (ofNr l).drop n := by simp [ofNr, List.map_drop]

theorem Blk.to {w w' : World} {g : Nat} {t : TypeId} {cs cs' : Array Value} (h : Blk w g t cs) (hw : w'.heap = w.heap) (hc : cs' = cs) : Blk w' g t cs' := by
  subst hc
  unfold Blk at h ⊢
  rw [hw]
  exact h
/-- A level: its reader, its chunk's reader, how much is told in all and of the chunk, and whether a byte fills it up. -/
structure Lv where
  z : Nat
  c : Nat
  tot : Nat
  chl : Nat
  pad : Bool
def adv (n : Nat) (ls : List Lv) : List Lv := ls.map fun l => ⟨l.z, l.c, l.tot - n, l.chl - n, l.pad⟩
/-- What can be read through levels. -/
def str : List Lv → List Nat → List Nat
  | [], bs => bs
  | l :: ls, bs => (str ls bs).take l.chl
theorem str_adv (n : Nat) : ∀ (ls : List Lv) (bs : List Nat), str (adv n ls) (bs.drop n) = (str ls bs).drop n
  | [], bs => rfl
  | l :: ls, bs => by
    show (str (adv n ls) (bs.drop n)).take (l.chl - n) = ((str ls bs).take l.chl).drop n
    rw [str_adv n ls bs, List.drop_take]
theorem str_le : ∀ (ls : List Lv) (bs : List Nat), (str ls bs).length ≤ bs.length
  | [], bs => Nat.le_refl _
  | l :: ls, bs => by
    show ((str ls bs).take l.chl).length ≤ _
    have := str_le ls bs
    rw [List.length_take]
    omega
theorem str_mem : ∀ (ls : List Lv) (bs : List Nat) (x : Nat), x ∈ str ls bs → x ∈ bs
  | [], bs, x, h => h
  | l :: ls, bs, x, h => str_mem ls bs x (List.mem_of_mem_take h)
theorem adv_adv (n m : Nat) (ls : List Lv) : adv m (adv n ls) = adv (n + m) ls := by
  unfold adv
  rw [List.map_map]
  apply List.map_congr_left
  intro l _
  simp [Nat.sub_sub]
theorem adv_zero (ls : List Lv) : adv 0 ls = ls := by
  unfold adv
  have : (fun l : Lv => (⟨l.z, l.c, l.tot - 0, l.chl - 0, l.pad⟩ : Lv)) = id := by funext l; rfl
  rw [this, List.map_id]
/-- The blocks of levels: those that reading turns, and all. -/
def zsOf (p : Nat) (ls : List Lv) : List Nat := p :: ls.map Lv.z
def allOf (p : Nat) : List Lv → List Nat
  | [] => [p]
  | l :: ls => l.z :: l.c :: allOf p ls
theorem zs_all (p : Nat) : ∀ (ls : List Lv) (k : Nat), k ∈ zsOf p ls → k ∈ allOf p ls
  | [], k, h => h
  | l :: ls, k, h => by
    unfold zsOf at h
    simp only [List.map_cons, List.mem_cons] at h
    simp only [allOf, List.mem_cons]
    rcases h with h | h | h
    · exact .inr (.inr (zs_all p ls k (by unfold zsOf; simp [h])))
    · exact .inl h
    · exact .inr (.inr (zs_all p ls k (by unfold zsOf; simp [h])))
theorem zs_adv (p n : Nat) (ls : List Lv) : zsOf p (adv n ls) = zsOf p ls := by
  unfold zsOf adv
  rw [List.map_map]
  rfl
theorem all_adv (p n : Nat) : ∀ ls : List Lv, allOf p (adv n ls) = allOf p ls
  | [] => rfl
  | l :: ls => by
    show l.z :: l.c :: allOf p (adv n ls) = _
    rw [all_adv p n ls]
    rfl
/-- The reader that lies under a list of levels. -/
def tyOf : List Lv → TypeId
  | [] => 60
  | _ :: _ => 84
def fnOf : List Lv → FuncId
  | [] => 55
  | _ :: _ => 56
def blOf (p : Nat) : List Lv → Nat
  | [] => p
  | l :: _ => l.c
def ifOf (p : Nat) (ls : List Lv) : Value := .iface (tyOf ls) (.pointer (some ⟨blOf p ls, 0, none⟩))
theorem na_pieces (a : Addr) (w : World) : (nilAhead 241 60 (.pointer (some a)) "Read").run Tryd.prog w = .ok (some false) w := by kernel_rfl
theorem na_chunk (a : Addr) (w : World) : (nilAhead 241 84 (.pointer (some a)) "Read").run Tryd.prog w = .ok (some false) w := by kernel_rfl
theorem me_pieces (a : Addr) (w : World) : (method 241 60 (.pointer (some a)) "Read").run Tryd.prog w = .ok (55, .pointer (some a)) w := by kernel_rfl
theorem me_chunk (a : Addr) (w : World) : (method 241 84 (.pointer (some a)) "Read").run Tryd.prog w = .ok (56, .pointer (some a)) w := by kernel_rfl
theorem na_of (ls : List Lv) (a : Addr) (w : World) : (nilAhead 241 (tyOf ls) (.pointer (some a)) "Read").run Tryd.prog w = .ok (some false) w := by
  cases ls with
  | nil => exact na_pieces a w
  | cons _ _ => exact na_chunk a w
theorem me_of (ls : List Lv) (a : Addr) (w : World) : (method 241 (tyOf ls) (.pointer (some a)) "Read").run Tryd.prog w = .ok (fnOf ls, .pointer (some a)) w := by
  cases ls with
  | nil => exact me_pieces a w
  | cons _ _ => exact me_chunk a w

/-- A reader of chunks in memory. -/
structure RZ (w : World) (z : Nat) (r err cr : Value) (tot chl : Nat) (pad : Bool) (bf : Nat → Int) : Prop where
  h : ∃ cs, Blk w z 86 cs ∧ cs.size = 14 ∧ cs[0]? = some r ∧ cs[1]? = some err ∧ cs[2]? = some (.int .u32 tot) ∧ cs[3]? = some (.int .u32 chl) ∧ cs[4]? = some cr ∧ (∀ i, i < 8 → cs[5 + i]? = some (.int .u8 (bf i))) ∧ cs[13]? = some (.bool pad)
namespace RZ
variable {w w' : World} {z : Nat} {r err cr : Value} {tot chl : Nat} {pad : Bool} {bf : Nat → Int}
theorem upd {S : List Nat} (h : RZ w z r err cr tot chl pad bf) (u : Upd S w w') (hs : z ∉ S) : RZ w' z r err cr tot chl pad bf := by
  obtain ⟨cs, a1, a2⟩ := h.h
  exact ⟨cs, a1.upd u hs, a2⟩
theorem lt (h : RZ w z r err cr tot chl pad bf) : z < w.heap.size := by obtain ⟨cs, a1, _⟩ := h.h; exact a1.lt
theorem fz (h : RZ w z r err cr tot chl pad bf) (i : Nat) : w.frozen? ⟨z, i, none⟩ = false := by obtain ⟨cs, a1, _⟩ := h.h; exact a1.frozen i
theorem c0 (h : RZ w z r err cr tot chl pad bf) : w.cell? ⟨z, 0, none⟩ = some r := by obtain ⟨cs, a1, _, a, _⟩ := h.h; exact (a1.cell _).trans a
theorem c1 (h : RZ w z r err cr tot chl pad bf) : w.cell? ⟨z, 1, none⟩ = some err := by obtain ⟨cs, a1, _, _, a, _⟩ := h.h; exact (a1.cell _).trans a
theorem c2 (h : RZ w z r err cr tot chl pad bf) : w.cell? ⟨z, 2, none⟩ = some (.int .u32 tot) := by obtain ⟨cs, a1, _, _, _, a, _⟩ := h.h; exact (a1.cell _).trans a
theorem c3 (h : RZ w z r err cr tot chl pad bf) : w.cell? ⟨z, 3, none⟩ = some (.int .u32 chl) := by obtain ⟨cs, a1, _, _, _, _, a, _⟩ := h.h; exact (a1.cell _).trans a
theorem c4 (h : RZ w z r err cr tot chl pad bf) : w.cell? ⟨z, 4, none⟩ = some cr := by obtain ⟨cs, a1, _, _, _, _, _, a, _⟩ := h.h; exact (a1.cell _).trans a
theorem cb (h : RZ w z r err cr tot chl pad bf) (i : Nat) (hi : i < 8) : w.cell? ⟨z, 5 + i, none⟩ = some (.int .u8 (bf i)) := by obtain ⟨cs, a1, _, _, _, _, _, _, a, _⟩ := h.h; exact (a1.cell _).trans (a i hi)
theorem c13 (h : RZ w z r err cr tot chl pad bf) : w.cell? ⟨z, 13, none⟩ = some (.bool pad) := by obtain ⟨cs, a1, _, _, _, _, _, _, _, a⟩ := h.h; exact (a1.cell _).trans a
theorem tset_eq (cs : Array Value) (i : Nat) (u : Value) (h : i < cs.size) : (cs.setIfInBounds i u)[i]? = some u := by simp [h]
theorem tset_ne (cs : Array Value) (i j : Nat) (u : Value) (h : i ≠ j) : (cs.setIfInBounds i u)[j]? = cs[j]? := by rw [Array.getElem?_setIfInBounds_ne h]
theorem set1 (h : RZ w z r err cr tot chl pad bf) (v : Value) : RZ (w.setCell ⟨z, 1, none⟩ v) z r v cr tot chl pad bf := by
  obtain ⟨cs, a, s, x0, x1, x2, x3, x4, xb, x13⟩ := h.h
  exact ⟨_, a.set_ 1 v, by rw [Array.size_setIfInBounds]; exact s, by rw [tset_ne _ _ _ _ (by omega)]; exact x0, by rw [tset_eq _ _ _ (by omega)], by rw [tset_ne _ _ _ _ (by omega)]; exact x2, by rw [tset_ne _ _ _ _ (by omega)]; exact x3, by rw [tset_ne _ _ _ _ (by omega)]; exact x4, fun i hi => by rw [tset_ne _ _ _ _ (by omega)]; exact xb i hi, by rw [tset_ne _ _ _ _ (by omega)]; exact x13⟩
theorem set2 (h : RZ w z r err cr tot chl pad bf) (t : Nat) : RZ (w.setCell ⟨z, 2, none⟩ (.int .u32 t)) z r err cr t chl pad bf := by
  obtain ⟨cs, a, s, x0, x1, x2, x3, x4, xb, x13⟩ := h.h
  exact ⟨_, a.set_ 2 _, by rw [Array.size_setIfInBounds]; exact s, by rw [tset_ne _ _ _ _ (by omega)]; exact x0, by rw [tset_ne _ _ _ _ (by omega)]; exact x1, by rw [tset_eq _ _ _ (by omega)], by rw [tset_ne _ _ _ _ (by omega)]; exact x3, by rw [tset_ne _ _ _ _ (by omega)]; exact x4, fun i hi => by rw [tset_ne _ _ _ _ (by omega)]; exact xb i hi, by rw [tset_ne _ _ _ _ (by omega)]; exact x13⟩
theorem set3 (h : RZ w z r err cr tot chl pad bf) (t : Nat) : RZ (w.setCell ⟨z, 3, none⟩ (.int .u32 t)) z r err cr tot t pad bf := by
  obtain ⟨cs, a, s, x0, x1, x2, x3, x4, xb, x13⟩ := h.h
  exact ⟨_, a.set_ 3 _, by rw [Array.size_setIfInBounds]; exact s, by rw [tset_ne _ _ _ _ (by omega)]; exact x0, by rw [tset_ne _ _ _ _ (by omega)]; exact x1, by rw [tset_ne _ _ _ _ (by omega)]; exact x2, by rw [tset_eq _ _ _ (by omega)], by rw [tset_ne _ _ _ _ (by omega)]; exact x4, fun i hi => by rw [tset_ne _ _ _ _ (by omega)]; exact xb i hi, by rw [tset_ne _ _ _ _ (by omega)]; exact x13⟩
theorem set4 (h : RZ w z r err cr tot chl pad bf) (v : Value) : RZ (w.setCell ⟨z, 4, none⟩ v) z r err v tot chl pad bf := by
  obtain ⟨cs, a, s, x0, x1, x2, x3, x4, xb, x13⟩ := h.h
  exact ⟨_, a.set_ 4 _, by rw [Array.size_setIfInBounds]; exact s, by rw [tset_ne _ _ _ _ (by omega)]; exact x0, by rw [tset_ne _ _ _ _ (by omega)]; exact x1, by rw [tset_ne _ _ _ _ (by omega)]; exact x2, by rw [tset_ne _ _ _ _ (by omega)]; exact x3, by rw [tset_eq _ _ _ (by omega)], fun i hi => by rw [tset_ne _ _ _ _ (by omega)]; exact xb i hi, by rw [tset_ne _ _ _ _ (by omega)]; exact x13⟩
theorem set13 (h : RZ w z r err cr tot chl pad bf) (b : Bool) : RZ (w.setCell ⟨z, 13, none⟩ (.bool b)) z r err cr tot chl b bf := by
  obtain ⟨cs, a, s, x0, x1, x2, x3, x4, xb, x13⟩ := h.h
  exact ⟨_, a.set_ 13 _, by rw [Array.size_setIfInBounds]; exact s, by rw [tset_ne _ _ _ _ (by omega)]; exact x0, by rw [tset_ne _ _ _ _ (by omega)]; exact x1, by rw [tset_ne _ _ _ _ (by omega)]; exact x2, by rw [tset_ne _ _ _ _ (by omega)]; exact x3, by rw [tset_ne _ _ _ _ (by omega)]; exact x4, fun i hi => by rw [tset_ne _ _ _ _ (by omega)]; exact xb i hi, by rw [tset_eq _ _ _ (by omega)]⟩
theorem to (h : RZ w z r err cr tot chl pad bf) (hw : w'.heap = w.heap) : RZ w' z r err cr tot chl pad bf := by
  obtain ⟨cs, a1, a2⟩ := h.h
  refine ⟨cs, ?_, a2⟩
  unfold Blk at a1 ⊢
  rw [hw]
  exact a1
end RZ

/-- The bytes that come in pieces, from here on; reading has been called at most T times. -/
structure Base (w : World) (B p : Nat) (cl : List Int) (bs : List Nat) (T : Nat) : Prop where
  h : ∃ A cap C capc turn, Blk w p 62 #[.slice A bs.length cap, .slice C cl.length capc, .int .i64 (turn : Nat)] ∧ bs.length ≤ cap ∧ Rd .u8 w B A (ofNr bs) ∧ Rd .i64 w B C cl ∧ turn ≤ T
  ge : B ≤ p
/-- Levels over it, the innermost first, all of which can be read. -/
def Chain (w : World) (B p : Nat) (cl : List Int) : List Lv → List Nat → Nat → Prop
  | [], bs, T => Base w B p cl bs T
  | l :: ls, bs, T => (∃ bf, RZ w l.z (ifOf p ls) .nilIface (.pointer (some ⟨l.c, 0, none⟩)) l.tot l.chl l.pad bf) ∧ Blk w l.c 92 #[.pointer (some ⟨l.z, 0, none⟩)] ∧ Chain w B p cl ls bs T ∧ l.chl ≤ l.tot ∧ l.tot < 4294967296 ∧ l.z ∉ allOf p ls ∧ l.c ∉ allOf p ls ∧ l.z ≠ l.c ∧ B ≤ l.z ∧ B ≤ l.c
theorem Base.upd {S : List Nat} {w w' : World} {B p : Nat} {cl : List Int} {bs : List Nat} {T : Nat} (h : Base w B p cl bs T) (u : Upd S w w') (hp : p ∉ S) (hS : ∀ s ∈ S, B ≤ s) (hB : B ≤ w.heap.size) : Base w' B p cl bs T := by
  obtain ⟨A, cap, C, capc, turn, h1, h2, h3, h4, h5⟩ := h.h
  exact ⟨⟨A, cap, C, capc, turn, h1.upd u hp, h2, h3.upd u hB (fun s hs => hS s hs), h4.upd u hB (fun s hs => hS s hs), h5⟩, h.ge⟩
theorem Chain.upd {S : List Nat} {w w' : World} {B p : Nat} {cl : List Int} {T : Nat} (u : Upd S w w') (hS : ∀ s ∈ S, B ≤ s) (hB : B ≤ w.heap.size) : ∀ {ls : List Lv} {bs : List Nat}, Chain w B p cl ls bs T → (∀ k ∈ allOf p ls, k ∉ S) → Chain w' B p cl ls bs T
  | [], bs, h, hk => Base.upd h u (hk p (by simp [allOf])) hS hB
  | l :: ls, bs, h, hk => by
    obtain ⟨⟨bf, h1⟩, h2, h3, h4⟩ := h
    exact ⟨⟨bf, h1.upd u (hk _ (by simp [allOf]))⟩, h2.upd u (hk _ (by simp [allOf])), Chain.upd u hS hB h3 (fun k hk' => hk k (by simp [allOf, hk'])), h4⟩
theorem Chain.base : ∀ {ls : List Lv} {w : World} {B p : Nat} {cl : List Int} {bs : List Nat} {T : Nat}, Chain w B p cl ls bs T → Base w B p cl bs T
  | [], _, _, _, _, _, _, h => h
  | _ :: ls, _, _, _, _, _, _, h => Chain.base (ls := ls) h.2.2.1
theorem Chain.lt : ∀ {ls : List Lv} {w : World} {B p : Nat} {cl : List Int} {bs : List Nat} {T : Nat}, Chain w B p cl ls bs T → ∀ k ∈ allOf p ls, k < w.heap.size ∧ B ≤ k
  | [], _, _, p, _, _, _, h, k, hk => by
    simp only [allOf, List.mem_singleton] at hk
    subst hk
    obtain ⟨A, cap, C, capc, turn, h1, _⟩ := Base.h h
    exact ⟨h1.lt, Base.ge h⟩
  | l :: ls, _, _, _, _, _, _, h, k, hk => by
    obtain ⟨⟨bf, h1⟩, h2, h3, h4, h5, h6, h7, h8, h9, h10⟩ := h
    simp only [allOf, List.mem_cons] at hk
    rcases hk with rfl | rfl | hk
    · exact ⟨h1.lt, h9⟩
    · exact ⟨h2.lt, h10⟩
    · exact Chain.lt h3 k hk

/-- The value of an end. -/
def endV (ae : Addr) (eof : Bool) : Value := if eof then .iface 122 (.pointer (some ae)) else .nilIface
/-- Bytes laid into a block from a place on. -/
def Fill (cs cs' : Array Value) (off : Nat) (l : List Nat) : Prop := cs'.size = cs.size ∧ (∀ j, j < l.length → cs'[off + j]? = some (.int .u8 ((l.getD j 0 : Nat) : Int))) ∧ ∀ i, (i < off ∨ off + l.length ≤ i) → cs'[i]? = cs[i]?
theorem Fill.nil (cs : Array Value) (off : Nat) : Fill cs cs off [] := ⟨rfl, fun j h => by simp at h, fun i _ => rfl⟩
theorem Fill.join {cs cs' cs'' : Array Value} {off : Nat} {l l' : List Nat} (h : Fill cs cs' off l) (h' : Fill cs' cs'' (off + l.length) l') : Fill cs cs'' off (l ++ l') := by
  obtain ⟨a1, a2, a3⟩ := h
  obtain ⟨b1, b2, b3⟩ := h'
  refine ⟨b1.trans a1, fun j hj => ?_, fun i hi => ?_⟩
  · rw [List.length_append] at hj
    rcases Nat.lt_or_ge j l.length with h | h
    · rw [b3 _ (.inl (by omega)), a2 j h]
      simp [List.getD_eq_getElem?_getD, List.getElem?_append_left h]
    · have := b2 (j - l.length) (by omega)
      rw [show off + l.length + (j - l.length) = off + j by omega] at this
      rw [this]
      simp [List.getD_eq_getElem?_getD, List.getElem?_append_right h]
  · rw [List.length_append] at hi
    rw [b3 i (by omega), a3 i (by omega)]
theorem fill_splice (cs : Array Value) (off : Nat) (l : List Nat) (h : off + l.length ≤ cs.size) : Fill cs (splice cs.toList off (l.map (fun (x : Nat) => Value.int .u8 (x : Int)))).toArray off l := by
  have hl : (l.map (fun (x : Nat) => Value.int .u8 (x : Int))).length = l.length := by simp
  refine ⟨?_, fun j hj => ?_, fun i hi => ?_⟩
  · rw [List.size_toArray, length_splice _ _ _ (by rw [hl]; simpa using h)]
    simp
  · rw [List.getElem?_toArray, splice_in _ _ _ (by rw [hl]; simpa using h) j (by rw [hl]; exact hj)]
    simp [hj]
  · rw [List.getElem?_toArray, splice_out _ _ _ (by rw [hl]; simpa using h) i (by rw [hl]; exact hi)]
    simp
theorem upd_setRow {S : List Nat} {w0 w : World} {g : Nat} (h : Upd S w0 w) (hg : g ∈ S) (cs : Array Value) : Upd S w0 (w.setRow g cs) :=
  h.trans ⟨rfl, rfl, rfl, by simp [World.setRow], fun k hk hs => setRow_other w g k cs (fun e => hs (e ▸ hg))⟩
/-- 'copy' into a block that is known whole, in a region that draws its order; which blocks may turn is kept. -/
theorem step_copyU {P : Program} {ops : Array Oper} {o : Oper} {a : Act} {w : World} {K : Act → World → Prop} {Q : Exit → Act → World → Prop} {E : Prop} (d s : Operand) (dT sT elem : TypeId) (hu : P.underlying dT = some (.slice elem)) (hsz : (P.info? elem).map (·.size) = some 1)
    (g off dLen dCap : Nat) (ad : Addr) (sLen sCap : Nat) (cur : Array Value) (t : TypeId) (cs : List Value) (hn : cs.length = Nat.min sLen dLen) (hfit : off + cs.length ≤ cur.size) (h1 : ∀ v ∈ cs, v.oneCell' = true) (S : List Nat) (w0 : World) (hgS : g ∈ S)
    (h : (o.guard = none ∧ o.op = .call { callee := .builtin .copy, args := #[d, s], argTypes := #[dT, sT] } ∧ a.eval d = .slice (some ⟨g, off, none⟩) dLen dCap ∧ a.eval s = .slice (some ad) sLen sCap ∧ Blk w g t cur ∧
        (∀ j v, cs[j]? = some v → w.cell? (ad.add j) = some v) ∧ Upd S w0 w) ∧
      ∀ w', Blk w' g t (splice cur.toList off cs).toArray → Upd S w0 w' → K (a.put o.dst (goInt cs.length)) w') :
    if Region.wanted o (yielded ops a.tmps) = true then Oper.wp P o a w K Q else E := by
  obtain ⟨⟨hgd, ho, hd, hs, hg, hsrc, hb⟩, h⟩ := h
  have hw : Region.wanted o (yielded ops a.tmps) = true := by simp [Region.wanted, hgd]
  rw [if_pos hw]
  have hrun := run_copy_row (P := P) w dT sT o.type elem g off dLen dCap ad sLen sCap cur t cs hu hsz hg hn hsrc hfit h1
  unfold Oper.wp
  simp [execOp, ho, resolve, invoke, builtin, hd, hs, hrun, Result.andThen]
  have h2 : Blk (w.setRow g (cur.toList.take off ++ (cs ++ cur.toList.drop (off + cs.length))).toArray) g t (splice cur.toList off cs).toArray := setRow_heap w g cur _ t _ hg
  exact h _ h2 (upd_setRow hb hgS _)
/-- What 'Read' answers, of what there is (av), into a place of L bytes. -/
def ReadPost (av : List Nat) (L d off : Nat) (td : TypeId) (cs : Array Value) (S : List Nat) (St : Nat → World → Prop) (ae : Addr) (w : World) (e : Ending) (w' : World) : Prop :=
  ∃ n eof, n ≤ L ∧ n ≤ av.length ∧ (0 < av.length → 0 < n) ∧ (eof = true → n = av.length) ∧ (av.length = 0 → eof = true) ∧ e = .returned (.tuple #[.int .i64 (n : Nat), endV ae eof]) ∧
    (∃ cs', Blk w' d td cs' ∧ Fill cs cs' off (av.take n)) ∧ Upd S w w' ∧ St n w'
end Go.Proofs.YthkpoidnhgcjhaaDoor
