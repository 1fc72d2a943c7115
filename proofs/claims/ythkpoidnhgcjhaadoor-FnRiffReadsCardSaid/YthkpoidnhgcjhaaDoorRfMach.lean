/- What steps do to a file of chunks, plainly. No walk. -/
import Derived.Test.YthkpoidnhgcjhaaDoorRfNextDef
namespace Go.Proofs.YthkpoidnhgcjhaaDoor
set_option linter.unusedSimpArgs false
set_option linter.unusedVariables false
open Go.RowKit Plain

/-- A level, plainly: how much is told in all and of its chunk, and whether a byte fills it up. -/
structure PL where
  tot : Nat
  chl : Nat
  pad : Bool
def PL.on (l : PL) (n : Nat) : PL := ⟨l.tot - n, l.chl - n, l.pad⟩
def padv (n : Nat) (ls : List PL) : List PL := ls.map fun l => l.on n
def pstr : List PL → List Nat → List Nat
  | [], bs => bs
  | l :: ls, bs => (pstr ls bs).take l.chl
def Lv.bare (l : Lv) : PL := ⟨l.tot, l.chl, l.pad⟩
def bareL (ls : List Lv) : List PL := ls.map Lv.bare
theorem bare_adv (n : Nat) (ls : List Lv) : bareL (adv n ls) = padv n (bareL ls) := by
  unfold bareL adv padv
  rw [List.map_map, List.map_map]
  rfl
theorem bare_str : ∀ (ls : List Lv) (bs : List Nat), pstr (bareL ls) bs = str ls bs
  | [], _ => rfl
  | l :: ls, bs => by
    show (pstr (bareL ls) bs).take l.chl = (str ls bs).take l.chl
    rw [bare_str ls bs]
theorem bare_len (ls : List Lv) : (bareL ls).length = ls.length := by simp [bareL]
theorem bare_nil {ls : List Lv} : bareL ls = [] ↔ ls = [] := by simp [bareL]
/-- A chunk that is told. -/
structure Ck where
  id : List Nat
  len : Nat
  data : List Nat
  en : Nat
instance : Inhabited Ck := ⟨⟨[], 0, [], 0⟩⟩
/-- The reader at hand: it can go on (and its chunk is at hand, or is not), or it told an end. -/
inductive Nw where
  | live (l : PL) (hand : Bool)
  | dead (eof : Bool)
/-- How far steps have come. -/
structure RS where
  now : Nw
  ls : List PL
  bs : List Nat
  out : List Ck
  kinds : List Int
def kd (eof : Bool) : Int := if eof then 1 else 2
def upL (f : Ck → Ck) (l : List Ck) : List Ck := l.modify (l.length - 1) f
def lastC (l : List Ck) : Ck := l.getD (l.length - 1) default
theorem upL_snoc (f : Ck → Ck) (l : List Ck) (c : Ck) : upL f (l ++ [c]) = l ++ [f c] := by
  unfold upL
  rw [List.length_append, List.length_singleton, Nat.add_sub_cancel, List.modify_eq_take_drop]
  simp
theorem lastC_snoc (l : List Ck) (c : Ck) : lastC (l ++ [c]) = c := by simp [lastC]
def RS.tell (s : RS) (k : Int) : RS := ⟨s.now, s.ls, s.bs, s.out, s.kinds ++ [k]⟩
def stNext (s : RS) : RS :=
  match s.now with
  | .dead eof => s.tell (kd eof)
  | .live l _ =>
    match nextP l.tot l.chl l.pad (pstr s.ls s.bs) with
    | .err eof k => ⟨.dead eof, padv k s.ls, s.bs.drop k, s.out, s.kinds ++ [kd eof]⟩
    | .ok k n t => ⟨.live ⟨t, n, decide (n % 2 = 1)⟩ true, padv k s.ls, s.bs.drop k, s.out ++ [⟨((pstr s.ls s.bs).drop (k - 8)).take 4, n, [], 2⟩], s.kinds ++ [0]⟩
/-- So many bytes are read of the chunk at hand. -/
def stGot (m : Nat) (l : PL) (s : RS) : RS :=
  ⟨.live (l.on (min m (pstr (l :: s.ls) s.bs).length)) true, padv (min m (pstr (l :: s.ls) s.bs).length) s.ls, s.bs.drop (min m (pstr (l :: s.ls) s.bs).length),
    upL (fun c => ⟨c.id, c.len, c.data ++ (pstr (l :: s.ls) s.bs).take m, if m ≤ (pstr (l :: s.ls) s.bs).length then c.en else 0⟩) s.out, s.kinds⟩
def stTake (most : Nat) (n : Int) (s : RS) : RS :=
  match s.now with
  | .live l true => if n ≤ 0 then s.tell 0 else (stGot (min n.toNat most) l s).tell 0
  | _ => s.tell 3
def stList (s : RS) : RS :=
  match s.now with
  | .live l true =>
    if (lastC s.out).len < 4 then s.tell 2
    else if (pstr (l :: s.ls) s.bs).length < 4 then ⟨.live (l.on (pstr (l :: s.ls) s.bs).length) true, padv (pstr (l :: s.ls) s.bs).length s.ls, s.bs.drop (pstr (l :: s.ls) s.bs).length, s.out, s.kinds ++ [2]⟩
    else ⟨.live ⟨(lastC s.out).len - 4, 0, false⟩ false, l.on 4 :: padv 4 s.ls, s.bs.drop 4, s.out, s.kinds ++ [0]⟩
  | _ => s.tell 3
def stPop (s : RS) : RS :=
  match s.ls with
  | l :: r => ⟨.live l false, r, s.bs, s.out, s.kinds ++ [0]⟩
  | [] => s.tell 3
def rstep (most : Nat) (op n : Int) (s : RS) : RS :=
  if op = 0 then stNext s else if op = 1 then stTake most n s else if op = 2 then stList s else if op = 3 then stPop s else s.tell 3
def rrun (most : Nat) (steps : List (Int × Int)) (s : RS) : RS := steps.foldl (fun s x => rstep most x.1 x.2 s) s
/-- The file's head is read. -/
def rstart (bs : List Nat) : RS := ⟨.live ⟨le4 (bs.drop 4) - 4, 0, false⟩ false, [], bs.drop 12, [], [0]⟩
instance (bs : List Nat) : Decidable (OkHead bs) := by unfold OkHead Magic; infer_instance
/-- What 'Riff' tells: the form, the chunks, what each step told. -/
def riffP (bs : List Nat) (steps : List (Int × Int)) : List Nat × List Ck × List Int :=
  if OkHead bs then ((bs.drop 8).take 4, (rrun (bs.length + 1) steps (rstart bs)).out, (rrun (bs.length + 1) steps (rstart bs)).kinds) else ([0, 0, 0, 0], [], [2])
theorem four_take (l : List Nat) : four (l.take 4) = four l := by simp [four, List.getElem?_take]
theorem pstr_mem : ∀ (ls : List PL) (bs : List Nat) (x : Nat), x ∈ pstr ls bs → x ∈ bs
  | [], bs, x, h => h
  | l :: ls, bs, x, h => pstr_mem ls bs x (List.mem_of_mem_take h)
theorem pstr_le : ∀ (ls : List PL) (bs : List Nat), (pstr ls bs).length ≤ bs.length
  | [], bs => Nat.le_refl _
  | l :: ls, bs => by
    show ((pstr ls bs).take l.chl).length ≤ _
    have := pstr_le ls bs
    rw [List.length_take]
    omega
theorem nxB_lt {t k q n tt : Nat} {S : List Nat} (hS : ∀ x ∈ S, x ≤ 255) (h : nxB t k S = .ok q n tt) : n < 4294967296 := by
  unfold nxB at h
  by_cases h1 : t = 0
  · rw [if_pos h1] at h; cases h
  · rw [if_neg h1] at h
    by_cases h2 : t < 8
    · rw [if_pos h2] at h; cases h
    · rw [if_neg h2] at h
      by_cases h3 : S.length < k + 8
      · rw [if_pos h3] at h; cases h
      · rw [if_neg h3] at h
        by_cases h4 : t - 8 < le4 (S.drop (k + 4))
        · rw [if_pos h4] at h; cases h
        · rw [if_neg h4] at h
          injection h with _ h _
          rw [← h]
          exact le4_lt _ (fun x hx => hS x (List.mem_of_mem_drop hx))
theorem nextP_lt {t c q n tt : Nat} {pad : Bool} {S : List Nat} (hS : ∀ x ∈ S, x ≤ 255) (h : nextP t c pad S = .ok q n tt) : n < 4294967296 := by
  unfold nextP at h
  by_cases h1 : S.length < c
  · rw [if_pos h1] at h; cases h
  · rw [if_neg h1] at h
    unfold nxP at h
    by_cases hp : pad = true
    · rw [if_pos hp] at h
      by_cases h2 : t - c = 0
      · rw [if_pos h2] at h; cases h
      · rw [if_neg h2] at h
        by_cases h3 : S.length ≤ c
        · rw [if_pos h3] at h; cases h
        · rw [if_neg h3] at h
          exact nxB_lt hS h
    · rw [if_neg hp] at h
      exact nxB_lt hS h
/-- What stays true of the state. -/
structure RInv (nb k : Nat) (s : RS) : Prop where
  kl : s.kinds.length = k + 1
  ol : s.out.length ≤ k
  pl : s.ls.length ≤ k
  bl : s.bs.length ≤ nb
  byt : ∀ x ∈ s.bs, x ≤ 255
  dl : ∀ c ∈ s.out, c.data.length + s.bs.length ≤ nb
  cl : ∀ c ∈ s.out, c.len < 4294967296
  hand : ∀ l, s.now = .live l true → ∃ pre cc, s.out = pre ++ [cc]
theorem padv_len (n : Nat) (ls : List PL) : (padv n ls).length = ls.length := by simp [padv]
theorem RInv.tell {nb k : Nat} {s : RS} (h : RInv nb k s) (x : Int) : RInv nb (k + 1) (s.tell x) :=
  ⟨by simp [RS.tell, h.kl], Nat.le_succ_of_le h.ol, Nat.le_succ_of_le h.pl, h.bl, h.byt, h.dl, h.cl, h.hand⟩
theorem RInv.next {nb k : Nat} {s : RS} (h : RInv nb k s) : RInv nb (k + 1) (stNext s) := by
  obtain ⟨now, ls, bs, out, kinds⟩ := s
  obtain ⟨kl, ol, pl, bl, byt, dl, cl, hand⟩ := h
  simp only at kl ol pl bl byt dl cl hand
  cases now with
  | dead eof => exact RInv.tell ⟨kl, ol, pl, bl, byt, dl, cl, hand⟩ _
  | live l hd =>
    cases hnx : nextP l.tot l.chl l.pad (pstr ls bs) with
    | err eof q =>
      have e2 : stNext ⟨.live l hd, ls, bs, out, kinds⟩ = ⟨.dead eof, padv q ls, bs.drop q, out, kinds ++ [kd eof]⟩ := by simp only [stNext, hnx]
      rw [e2]
      exact ⟨by simp [kl], by simp; omega, by simp [padv_len]; omega, by simp; omega, fun x hx => byt x (List.mem_of_mem_drop hx), fun c hc => by have := dl c hc; simp; omega, cl, fun l h => by cases h⟩
    | ok q nn tt =>
      have e2 : stNext ⟨.live l hd, ls, bs, out, kinds⟩ = ⟨.live ⟨tt, nn, decide (nn % 2 = 1)⟩ true, padv q ls, bs.drop q, out ++ [⟨((pstr ls bs).drop (q - 8)).take 4, nn, [], 2⟩], kinds ++ [0]⟩ := by simp only [stNext, hnx]
      rw [e2]
      have hnn : nn < 4294967296 := nextP_lt (fun x hx => byt x (pstr_mem ls bs x hx)) hnx
      refine ⟨by simp [kl], by simp; omega, by simp [padv_len]; omega, by simp; omega, fun x hx => byt x (List.mem_of_mem_drop hx), fun c hc => ?_, fun c hc => ?_, fun l h => ⟨_, _, rfl⟩⟩
      · rcases List.mem_append.1 hc with h | h
        · have := dl c h; simp; omega
        · simp at h; subst h; simp; omega
      · rcases List.mem_append.1 hc with h | h
        · exact cl c h
        · simp at h; subst h; exact hnn
theorem RInv.take {nb k most : Nat} {n : Int} {s : RS} (h : RInv nb k s) : RInv nb (k + 1) (stTake most n s) := by
  obtain ⟨now, ls, bs, out, kinds⟩ := s
  cases now with
  | dead eof => exact h.tell 3
  | live l hd =>
    cases hd with
    | false => exact h.tell 3
    | true =>
      by_cases hn : n ≤ 0
      · have e : stTake most n ⟨.live l true, ls, bs, out, kinds⟩ = (⟨.live l true, ls, bs, out, kinds⟩ : RS).tell 0 := by simp only [stTake, hn, if_true]
        rw [e]
        exact h.tell 0
      · have e : stTake most n ⟨.live l true, ls, bs, out, kinds⟩ = (stGot (min n.toNat most) l ⟨.live l true, ls, bs, out, kinds⟩).tell 0 := by simp only [stTake, hn, if_false]
        rw [e]
        obtain ⟨kl, ol, pl, bl, byt, dl, cl, hand⟩ := h
        simp only at kl ol pl bl byt dl cl hand
        obtain ⟨pre, cc, rfl⟩ := hand l rfl
        have h1 := pstr_le (l :: ls) bs
        have h2 := dl cc (by simp)
        unfold stGot
        simp only [upL_snoc]
        refine RInv.tell ⟨kl, by simpa using ol, by simp [padv_len]; omega, by simp; omega, fun x hx => byt x (List.mem_of_mem_drop hx), fun c hc => ?_, fun c hc => ?_, fun l h => ⟨_, _, rfl⟩⟩ _
        · rcases List.mem_append.1 hc with h | h
          · have := dl c (by simp [h]); simp; omega
          · simp only [List.mem_singleton] at h; subst h; simp; omega
        · rcases List.mem_append.1 hc with h | h
          · exact cl c (by simp [h])
          · simp only [List.mem_singleton] at h; subst h; exact cl cc (by simp)
theorem RInv.list {nb k : Nat} {s : RS} (h : RInv nb k s) : RInv nb (k + 1) (stList s) := by
  obtain ⟨now, ls, bs, out, kinds⟩ := s
  cases now with
  | dead eof => exact h.tell 3
  | live l hd =>
    cases hd with
    | false => exact h.tell 3
    | true =>
      by_cases h1 : (lastC out).len < 4
      · have e : stList ⟨.live l true, ls, bs, out, kinds⟩ = (⟨.live l true, ls, bs, out, kinds⟩ : RS).tell 2 := by simp only [stList, h1, if_true]
        rw [e]
        exact h.tell 2
      · obtain ⟨kl, ol, pl, bl, byt, dl, cl, hand⟩ := h
        simp only at kl ol pl bl byt dl cl hand
        by_cases h2 : (pstr (l :: ls) bs).length < 4
        · have e : stList ⟨.live l true, ls, bs, out, kinds⟩ = ⟨.live (l.on (pstr (l :: ls) bs).length) true, padv (pstr (l :: ls) bs).length ls, bs.drop (pstr (l :: ls) bs).length, out, kinds ++ [2]⟩ := by simp only [stList, h1, h2, if_true, if_false]
          rw [e]
          exact ⟨by simp [kl], by simp; omega, by simp [padv_len]; omega, by simp; omega, fun x hx => byt x (List.mem_of_mem_drop hx), fun c hc => by have := dl c hc; simp; omega, cl, fun l2 h => hand l rfl⟩
        · have e : stList ⟨.live l true, ls, bs, out, kinds⟩ = ⟨.live ⟨(lastC out).len - 4, 0, false⟩ false, l.on 4 :: padv 4 ls, bs.drop 4, out, kinds ++ [0]⟩ := by simp only [stList, h1, h2, if_false]
          rw [e]
          exact ⟨by simp [kl], by simp; omega, by simp [padv_len]; omega, by simp; omega, fun x hx => byt x (List.mem_of_mem_drop hx), fun c hc => by have := dl c hc; simp; omega, cl, fun l2 h => by cases h⟩
theorem RInv.pop {nb k : Nat} {s : RS} (h : RInv nb k s) : RInv nb (k + 1) (stPop s) := by
  obtain ⟨now, ls, bs, out, kinds⟩ := s
  cases ls with
  | nil => exact h.tell 3
  | cons l r =>
    obtain ⟨kl, ol, pl, bl, byt, dl, cl, hand⟩ := h
    simp only [List.length_cons] at kl ol pl bl byt dl cl hand
    exact ⟨by simp [stPop, kl], Nat.le_succ_of_le ol, by simp [stPop]; omega, bl, byt, dl, cl, fun l2 h => by cases h⟩
theorem RInv.step {nb k most : Nat} {op n : Int} {s : RS} (h : RInv nb k s) : RInv nb (k + 1) (rstep most op n s) := by
  unfold rstep
  split
  · exact h.next
  · split
    · exact h.take
    · split
      · exact h.list
      · split
        · exact h.pop
        · exact h.tell 3
end Go.Proofs.YthkpoidnhgcjhaaDoor
