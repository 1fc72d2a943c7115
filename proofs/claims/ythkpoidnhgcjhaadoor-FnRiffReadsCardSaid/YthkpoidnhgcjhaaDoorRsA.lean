/- The reference's files of chunks: plainly, in memory, and its numbers' walks. -/
import Derived.Test.YthkpoidnhgcjhaaDoorRfPlain
import Derived.Test.YthkpoidnhgcjhaaDoorRfState
import Derived.Test.YthkpoidnhgcjhaaDoorRfRows
import Derived.Test.YthkpoidnhgcjhaaDoorRfFile
namespace Go.Proofs.YthkpoidnhgcjhaaDoor
set_option linter.unusedSimpArgs false
set_option linter.unusedVariables false
open Go.RowKit Plain

/-- The reference's file. -/
structure SF where
  b : List Nat
  told : Nat
  op : Bool
  hand : Bool
  ck : Ck
  data : List Nat
  rd : Nat
  bad : Nat
  place : Nat
  form : List Nat
  odd : Bool
def sPass (f : SF) : SF :=
  if f.op = false then f
  else if f.b.length < f.ck.len then ⟨[], f.told, false, false, f.ck, f.data, f.rd, 2, f.place, f.form, f.odd⟩
  else if f.ck.len % 2 = 0 ∨ f.told - f.ck.len = 0 then ⟨f.b.drop f.ck.len, f.told - f.ck.len, false, false, f.ck, f.data, f.rd, f.bad, f.place, f.form, f.odd || decide (f.ck.len % 2 = 1 ∧ f.told - f.ck.len = 0)⟩
  else if f.b.length = f.ck.len then ⟨[], f.told - f.ck.len - 1, false, false, f.ck, f.data, f.rd, 2, f.place, f.form, f.odd⟩
  else ⟨f.b.drop (f.ck.len + 1), f.told - f.ck.len - 1, false, false, f.ck, f.data, f.rd, f.bad, f.place, f.form, f.odd⟩
def SF.fail (f : SF) (k : Nat) : SF := ⟨f.b, f.told, f.op, f.hand, f.ck, f.data, f.rd, k, f.place, f.form, f.odd⟩
def sHead (f : SF) : Nat × SF :=
  if f.told = 0 then (1, f.fail 1)
  else if f.told < 8 ∨ f.b.length < 8 ∨ f.told - 8 < le4 (f.b.drop 4) then (2, f.fail 2)
  else (0, ⟨f.b.drop 8, f.told - 8, true, true, ⟨f.b.take 4, le4 (f.b.drop 4), [], 2⟩, (f.b.drop 8).take (le4 (f.b.drop 4)), 0, f.bad, f.place, f.form, f.odd⟩)
def sNext (f : SF) : Nat × SF :=
  if f.bad ≠ 0 then (f.bad, f)
  else if (sPass f).bad ≠ 0 then ((sPass f).bad, sPass f) else sHead (sPass f)
def SF.left (f : SF) : List Nat := f.data.drop f.rd
def sTake (n : Int) (f : SF) : SF :=
  ⟨f.b, f.told, f.op, f.hand, ⟨f.ck.id, f.ck.len, f.ck.data ++ f.left.take n.toNat, if f.left.length < n.toNat then 0 else f.ck.en⟩, f.data, f.rd + min n.toNat f.left.length, f.bad, f.place, f.form, f.odd⟩
def SF.at_ (f : SF) (n : Nat) : SF := ⟨f.b, f.told, f.op, f.hand, f.ck, f.data, f.rd, f.bad, n, f.form, f.odd⟩
def SF.off (f : SF) : SF := ⟨f.b, f.told, f.op, false, f.ck, f.data, f.rd, f.bad, f.place, f.form, f.odd⟩
def ck0 : Ck := ⟨[0, 0, 0, 0], 0, [], 0⟩
def sSub (len : Nat) (b : List Nat) : SF := ⟨b.drop 4, len - 4, false, false, ck0, [], 0, 0, 0, b.take 4, false⟩
structure SS where
  f : SF
  ar : List SF
  out : List Ck
  kinds : List Int
  opn : Bool
def sStep (op n : Int) (s : SS) : SS :=
  if op = 0 then
    (if (sNext s.f).1 = 0 then ⟨(sNext s.f).2.at_ s.out.length, s.ar, s.out ++ [(sNext s.f).2.ck], s.kinds ++ [0], s.opn || (sNext s.f).2.odd⟩
     else ⟨(sNext s.f).2, s.ar, s.out, s.kinds ++ [((sNext s.f).1 : Int)], s.opn || (sNext s.f).2.odd⟩)
  else if op = 1 ∧ s.f.hand = true then ⟨sTake n s.f, s.ar, s.out.set s.f.place (sTake n s.f).ck, s.kinds ++ [0], s.opn⟩
  else if op = 2 ∧ s.f.hand = true then
    (if s.f.ck.len < 4 ∨ s.f.left.length < 4 then ⟨s.f, s.ar, s.out, s.kinds ++ [2], s.opn || decide (4 ≤ s.f.ck.len)⟩
     else ⟨sSub s.f.ck.len s.f.left, s.f :: s.ar, s.out, s.kinds ++ [0], s.opn⟩)
  else if op = 3 ∧ s.ar ≠ [] then ⟨(s.ar.headD s.f).off, s.ar.tail, s.out, s.kinds ++ [0], s.opn⟩
  else ⟨s.f, s.ar, s.out, s.kinds ++ [3], s.opn⟩
def sRun (steps : List (Int × Int)) (s : SS) : SS := steps.foldl (fun s x => sStep x.1 x.2 s) s
def sStart (bs : List Nat) : SS := ⟨⟨bs.drop 12, le4 (bs.drop 4) - 4, false, false, ck0, [], 0, 0, 0, (bs.drop 8).take 4, false⟩, [], [], [0], false⟩
/-- What the reference tells, and whether readings may take it otherwise. -/
def specP (bs : List Nat) (steps : List (Int × Int)) : (List Nat × List Ck × List Int) × Bool :=
  if OkHead bs then (((bs.drop 8).take 4, (sRun steps (sStart bs)).out, (sRun steps (sStart bs)).kinds), (sRun steps (sStart bs)).opn) else (([0, 0, 0, 0], [], [2]), false)
/-- A file of the reference as a level of the program's: c bytes of its chunk are gone. -/
structure LevSim (f : SF) (l : PL) (S : List Nat) (c : Nat) : Prop where
  bad : f.bad = 0
  b : f.b.drop c = S
  cb : c ≤ f.b.length
  tot : l.tot = f.told - c
  on : f.op = true → c ≤ f.ck.len ∧ f.ck.len ≤ f.told ∧ l.chl = f.ck.len - c ∧ l.pad = decide (f.ck.len % 2 = 1)
  off : f.op = false → c = 0 ∧ l.chl = 0 ∧ l.pad = false
def NxSim (S : List Nat) (R : NxR) (x : Nat × SF) : Prop := match R with
  | .err eof k => k ≤ S.length ∧ x.1 = (if eof = true then 1 else 2) ∧ x.2.bad = x.1 ∧ x.2.hand = false
  | .ok k n t => k ≤ S.length ∧ 8 ≤ k ∧ x.1 = 0 ∧ x.2.bad = 0 ∧ x.2.op = true ∧ x.2.hand = true ∧ x.2.ck = ⟨(S.drop (k - 8)).take 4, n, [], 2⟩ ∧ x.2.b = S.drop k ∧ x.2.told = t ∧ x.2.data = (S.drop k).take n ∧ x.2.rd = 0 ∧ n ≤ t
theorem head_sim {f : SF} {S : List Nat} {k : Nat} (hb : f.b = S.drop k) (hk : k ≤ S.length) (hbad : f.bad = 0) (hh : f.hand = false) : NxSim S (nxB f.told k S) (sHead f) := by
  unfold nxB sHead
  by_cases h0 : f.told = 0
  · rw [if_pos h0, if_pos h0]
    exact ⟨hk, rfl, rfl, hh⟩
  · rw [if_neg h0, if_neg h0]
    by_cases h1 : f.told < 8
    · rw [if_pos h1, if_pos (.inl h1)]
      exact ⟨hk, rfl, rfl, hh⟩
    · rw [if_neg h1]
      by_cases h2 : S.length < k + 8
      · rw [if_pos h2, if_pos (.inr (.inl (by rw [hb, List.length_drop]; omega)))]
        exact ⟨Nat.le_refl _, rfl, rfl, hh⟩
      · rw [if_neg h2]
        have e : le4 (f.b.drop 4) = le4 (S.drop (k + 4)) := by rw [hb, List.drop_drop]
        by_cases h3 : f.told - 8 < le4 (S.drop (k + 4))
        · rw [if_pos h3, if_pos (.inr (.inr (by rw [e]; exact h3)))]
          exact ⟨by omega, rfl, rfl, hh⟩
        · rw [if_neg h3, if_neg (by rw [e, hb, List.length_drop]; omega)]
          refine ⟨by omega, by omega, rfl, hbad, rfl, rfl, ?_, ?_, rfl, ?_, rfl, by omega⟩
          · show (⟨f.b.take 4, le4 (f.b.drop 4), [], 2⟩ : Ck) = _
            rw [e, hb, Nat.add_sub_cancel]
          · show f.b.drop 8 = _
            rw [hb, List.drop_drop]
          · show (f.b.drop 8).take (le4 (f.b.drop 4)) = _
            rw [e, hb, List.drop_drop]
theorem next_sim {f : SF} {l : PL} {S : List Nat} {c : Nat} (h : LevSim f l S c) (hh : f.op = false → f.hand = false) (ho : (sPass f).odd = false) : NxSim S (nextP l.tot l.chl l.pad S) (sNext f) := by
  have hb0 := h.bad
  have hSl : S.length = f.b.length - c := by rw [← h.b, List.length_drop]
  have hcb := h.cb
  unfold sNext
  rw [if_neg (by simp [hb0])]
  by_cases hop : f.op = false
  · obtain ⟨rfl, hc, hp⟩ := h.off hop
    have e : sPass f = f := by unfold sPass; rw [if_pos hop]
    rw [e, if_neg (by simp [hb0]), hc, hp]
    unfold nextP nxP
    rw [if_neg (by omega), if_neg (by decide), h.tot]
    exact head_sim (by rw [← h.b]; rfl) (Nat.zero_le _) hb0 (hh hop)
  · have hop' : f.op = true := by simpa using hop
    obtain ⟨h1, h2, h3, h4⟩ := h.on hop'
    unfold nextP
    by_cases hs : f.b.length < f.ck.len
    · have e : sPass f = ⟨[], f.told, false, false, f.ck, f.data, f.rd, 2, f.place, f.form, f.odd⟩ := by unfold sPass; rw [if_neg hop, if_pos hs]
      rw [if_pos (by omega), e, if_pos (by simp)]
      exact ⟨Nat.le_refl _, rfl, rfl, rfl⟩
    · rw [if_neg (by omega)]
      have ht : l.tot - l.chl = f.told - f.ck.len := by rw [h.tot, h3]; omega
      have hD : ∀ m, f.ck.len ≤ m → f.b.drop m = S.drop (l.chl + (m - f.ck.len)) := fun m hm => by rw [← h.b, List.drop_drop]; congr 1; omega
      unfold nxP
      rw [ht]
      by_cases hq : f.ck.len % 2 = 0 ∨ f.told - f.ck.len = 0
      · have e : sPass f = ⟨f.b.drop f.ck.len, f.told - f.ck.len, false, false, f.ck, f.data, f.rd, f.bad, f.place, f.form, f.odd || decide (f.ck.len % 2 = 1 ∧ f.told - f.ck.len = 0)⟩ := by unfold sPass; rw [if_neg hop, if_neg hs, if_pos hq]
        rw [e] at ho ⊢
        simp only [Bool.or_eq_false_iff, decide_eq_false_iff_not] at ho
        have hev : f.ck.len % 2 = 0 := by omega
        rw [if_neg (by rw [h4]; simp; omega), if_neg (by simp [hb0])]
        refine head_sim (f := ⟨f.b.drop f.ck.len, f.told - f.ck.len, false, false, f.ck, f.data, f.rd, f.bad, f.place, f.form, f.odd || decide (f.ck.len % 2 = 1 ∧ f.told - f.ck.len = 0)⟩) ?_ (by omega) hb0 rfl
        show f.b.drop f.ck.len = _
        rw [hD _ (Nat.le_refl _), Nat.sub_self, Nat.add_zero]
      · rw [if_pos (by rw [h4]; simp; omega), if_neg (by omega)]
        by_cases hl : f.b.length = f.ck.len
        · have e : sPass f = ⟨[], f.told - f.ck.len - 1, false, false, f.ck, f.data, f.rd, 2, f.place, f.form, f.odd⟩ := by unfold sPass; rw [if_neg hop, if_neg hs, if_neg hq, if_pos hl]
          rw [if_pos (by omega), e, if_pos (by simp)]
          exact ⟨by omega, rfl, rfl, rfl⟩
        · have e : sPass f = ⟨f.b.drop (f.ck.len + 1), f.told - f.ck.len - 1, false, false, f.ck, f.data, f.rd, f.bad, f.place, f.form, f.odd⟩ := by unfold sPass; rw [if_neg hop, if_neg hs, if_neg hq, if_neg hl]
          rw [if_neg (by omega), e, if_neg (by simp [hb0])]
          refine head_sim (f := ⟨f.b.drop (f.ck.len + 1), f.told - f.ck.len - 1, false, false, f.ck, f.data, f.rd, f.bad, f.place, f.form, f.odd⟩) ?_ (by omega) hb0 rfl
          show f.b.drop (f.ck.len + 1) = _
          rw [hD _ (by omega)]
          congr 1
          omega
/-- What is around. -/
def ArSim : List SF → List PL → List Nat → Prop
  | [], [], _ => True
  | f :: fs, l :: ls, bs => f.op = true ∧ (∃ c, LevSim f l (pstr ls bs) c) ∧ ArSim fs ls bs
  | _, _, _ => False
theorem LevSim.on_ {f : SF} {l : PL} {S : List Nat} {c : Nat} (h : LevSim f l S c) (hop : f.op = true) {k : Nat} (hk : k ≤ S.length) (hkc : k ≤ l.chl) : LevSim f (l.on k) (S.drop k) (c + k) := by
  obtain ⟨h1, h2, h3, h4⟩ := h.on hop
  have hcb := h.cb
  have hSl : S.length = f.b.length - c := by rw [← h.b, List.length_drop]
  refine ⟨h.bad, by rw [← h.b, List.drop_drop], by omega, ?_, fun _ => ⟨by omega, h2, ?_, h4⟩, fun e => by rw [hop] at e; cases e⟩
  · show l.tot - k = _
    rw [h.tot]; omega
  · show l.chl - k = _
    rw [h3]; omega
theorem pstr_on (n : Nat) : ∀ (ls : List PL) (bs : List Nat), pstr (padv n ls) (bs.drop n) = (pstr ls bs).drop n
  | [], bs => rfl
  | l :: ls, bs => by
    show (pstr (padv n ls) (bs.drop n)).take (l.chl - n) = ((pstr ls bs).take l.chl).drop n
    rw [pstr_on n ls bs, List.drop_take]
theorem ArSim.on_ {k : Nat} : ∀ {fs : List SF} {ls : List PL} {bs : List Nat}, ArSim fs ls bs → k ≤ (pstr ls bs).length → ArSim fs (padv k ls) (bs.drop k)
  | [], [], _, _, _ => trivial
  | f :: fs, l :: ls, bs, h, hk => by
    obtain ⟨h1, ⟨c, h2⟩, h3⟩ := h
    have hl : (pstr (l :: ls) bs).length = min l.chl (pstr ls bs).length := by
      show ((pstr ls bs).take l.chl).length = _
      rw [List.length_take]
    refine ⟨h1, ⟨c + k, ?_⟩, h3.on_ (by omega)⟩
    show LevSim f (l.on k) (pstr (padv k ls) (bs.drop k)) (c + k)
    rw [pstr_on]
    exact h2.on_ h1 (by omega) (by omega)
  | [], _ :: _, _, h, _ => absurd h (by simp [ArSim])
  | _ :: _, [], _, h, _ => absurd h (by simp [ArSim])
/-- How far both have come. -/
structure Sim (s : SS) (r : RS) : Prop where
  out : s.out = r.out
  kinds : s.kinds = r.kinds
  ar : ArSim s.ar r.ls r.bs
  now : match r.now with
    | .dead eof => s.f.bad = (if eof = true then 1 else 2) ∧ s.f.hand = false
    | .live l hand => s.f.hand = hand ∧ ∃ c, LevSim s.f l (pstr r.ls r.bs) c ∧ (hand = true → s.f.op = true ∧ s.f.data = s.f.b.take s.f.ck.len ∧ s.f.rd = c ∧ ∃ pre, s.out = pre ++ [s.f.ck] ∧ s.f.place = pre.length)
theorem pass_odd (f : SF) (h : (sPass f).odd = false) : f.odd = false := by
  unfold sPass at h
  repeat' split at h
  all_goals first | exact h | (simp only [Bool.or_eq_false_iff] at h; exact h.1)
theorem head_odd (f : SF) : (sHead f).2.odd = f.odd := by
  unfold sHead
  repeat' split
  all_goals rfl
theorem next_odd (f : SF) : (sNext f).2.odd = if f.bad ≠ 0 then f.odd else (sPass f).odd := by
  unfold sNext
  by_cases h : f.bad ≠ 0
  · rw [if_pos h, if_pos h]
  · rw [if_neg h, if_neg h]
    by_cases h2 : (sPass f).bad ≠ 0
    · rw [if_pos h2]
    · rw [if_neg h2, head_odd]
theorem step_opn {op n : Int} {s : SS} (h : (sStep op n s).opn = false) : s.opn = false := by
  unfold sStep at h
  repeat' split at h
  all_goals first | exact h | (simp only [Bool.or_eq_false_iff] at h; exact h.1)
theorem Sim.next {s : SS} {r : RS} (h : Sim s r) {n : Int} (ho : (sStep 0 n s).opn = false) : Sim (sStep 0 n s) (stNext r) := by
  obtain ⟨h1, h2, h3, h4⟩ := h
  have hod : (sNext s.f).2.odd = false := by
    unfold sStep at ho
    rw [if_pos rfl] at ho
    split at ho
    · simp only [Bool.or_eq_false_iff] at ho; exact ho.2
    · simp only [Bool.or_eq_false_iff] at ho; exact ho.2
  have hS : sStep 0 n s = (if (sNext s.f).1 = 0 then ⟨(sNext s.f).2.at_ s.out.length, s.ar, s.out ++ [(sNext s.f).2.ck], s.kinds ++ [0], s.opn || (sNext s.f).2.odd⟩
     else ⟨(sNext s.f).2, s.ar, s.out, s.kinds ++ [((sNext s.f).1 : Int)], s.opn || (sNext s.f).2.odd⟩) := by
    unfold sStep; rw [if_pos rfl]
  obtain ⟨now, ls, bs, out, kinds⟩ := r
  simp only at h1 h2 h3 h4
  cases now with
  | dead eof =>
    simp only at h4
    obtain ⟨h4, h5⟩ := h4
    have hb : s.f.bad ≠ 0 := by rw [h4]; split <;> decide
    have e : sNext s.f = (s.f.bad, s.f) := by unfold sNext; rw [if_pos hb]
    rw [hS, e, if_neg hb]
    refine ⟨h1, ?_, h3, ⟨h4, h5⟩⟩
    show s.kinds ++ [(s.f.bad : Int)] = kinds ++ [kd eof]
    rw [h2, h4]
    cases eof <;> rfl
  | live l hand =>
    simp only at h4
    obtain ⟨h5, c, h6, h7⟩ := h4
    have hop : s.f.op = false → s.f.hand = false := fun e => by
      cases hand with
      | false => exact h5
      | true => have := (h7 rfl).1; rw [e] at this; cases this
    rw [next_odd, if_neg (by simp [h6.bad])] at hod
    have hn := next_sim h6 hop hod
    cases hx : nextP l.tot l.chl l.pad (pstr ls bs) with
    | err eof k =>
      rw [hx] at hn
      obtain ⟨a1, a2, a3, a4⟩ := hn
      have hz : ¬ (sNext s.f).1 = 0 := by rw [a2]; split <;> decide
      have e2 : stNext ⟨.live l hand, ls, bs, out, kinds⟩ = ⟨.dead eof, padv k ls, bs.drop k, out, kinds ++ [kd eof]⟩ := by simp only [stNext, hx]
      rw [hS, if_neg hz, e2]
      refine ⟨h1, ?_, h3.on_ a1, ⟨?_, a4⟩⟩
      · show s.kinds ++ [((sNext s.f).1 : Int)] = kinds ++ [kd eof]
        rw [h2, a2]
        cases eof <;> rfl
      · show (sNext s.f).2.bad = _
        rw [a3, a2]
    | ok k m t =>
      rw [hx] at hn
      obtain ⟨a1, a2, a3, a4, a5, a6, a7, a8, a9, a10, a11, a12⟩ := hn
      have e2 : stNext ⟨.live l hand, ls, bs, out, kinds⟩ = ⟨.live ⟨t, m, decide (m % 2 = 1)⟩ true, padv k ls, bs.drop k, out ++ [⟨((pstr ls bs).drop (k - 8)).take 4, m, [], 2⟩], kinds ++ [0]⟩ := by simp only [stNext, hx]
      rw [hS, if_pos a3, e2]
      refine ⟨?_, ?_, h3.on_ a1, ⟨a6, 0, ⟨a4, ?_, Nat.zero_le _, ?_, fun _ => ⟨Nat.zero_le _, ?_, ?_, ?_⟩, fun e => ?_⟩, fun _ => ⟨a5, ?_, a11, s.out, rfl, rfl⟩⟩⟩
      · show s.out ++ [(sNext s.f).2.ck] = _
        rw [h1, a7]
      · show s.kinds ++ [0] = _
        rw [h2]
      · show (sNext s.f).2.b.drop 0 = _
        rw [a8, pstr_on]; rfl
      · show t = (sNext s.f).2.told - 0
        rw [a9]; rfl
      · show (sNext s.f).2.ck.len ≤ (sNext s.f).2.told
        rw [a7, a9]; exact a12
      · show m = (sNext s.f).2.ck.len - 0
        rw [a7]; rfl
      · show decide (m % 2 = 1) = decide ((sNext s.f).2.ck.len % 2 = 1)
        rw [a7]
      · have : (sNext s.f).2.op = false := e
        rw [a5] at this; cases this
      · show (sNext s.f).2.data = (sNext s.f).2.b.take (sNext s.f).2.ck.len
        rw [a10, a8, a7]
theorem left_eq {f : SF} {l : PL} {S : List Nat} {c : Nat} (h : LevSim f l S c) (hop : f.op = true) (hd : f.data = f.b.take f.ck.len) (hr : f.rd = c) : f.left = S.take l.chl := by
  obtain ⟨h1, h2, h3, h4⟩ := h.on hop
  unfold SF.left
  rw [hd, hr, h3, ← h.b, List.drop_take]
theorem Sim.take {s : SS} {r : RS} (h : Sim s r) {n : Int} {most : Nat} (hm : r.bs.length < most) : Sim (sStep 1 n s) (stTake most n r) := by
  obtain ⟨h1, h2, h3, h4⟩ := h
  obtain ⟨now, ls, bs, out, kinds⟩ := r
  simp only at h1 h2 h3 h4 hm
  have hidle : s.f.hand = false → sStep 1 n s = ⟨s.f, s.ar, s.out, s.kinds ++ [3], s.opn⟩ := fun e => by
    unfold sStep
    rw [if_neg (by decide), if_neg (by simp [e]), if_neg (by simp), if_neg (by simp)]
  cases now with
  | dead eof =>
    rw [hidle h4.2]
    exact ⟨h1, by show _ ++ _ = _ ++ _; rw [h2], h3, h4⟩
  | live l hand =>
    simp only at h4
    obtain ⟨h5, c, h6, h7⟩ := h4
    cases hand with
    | false =>
      rw [hidle h5]
      exact ⟨h1, by show _ ++ _ = _ ++ _; rw [h2], h3, ⟨h5, c, h6, h7⟩⟩
    | true =>
      obtain ⟨h8, h9, h10, pre, h11, h12⟩ := h7 rfl
      have hl := left_eq h6 h8 h9 h10
      have e : sStep 1 n s = ⟨sTake n s.f, s.ar, s.out.set s.f.place (sTake n s.f).ck, s.kinds ++ [0], s.opn⟩ := by
        unfold sStep
        rw [if_neg (by decide), if_pos ⟨rfl, h5⟩]
      have hset : s.out.set s.f.place (sTake n s.f).ck = pre ++ [(sTake n s.f).ck] := by
        rw [h11, h12, List.set_append_right _ _ (Nat.le_refl _), Nat.sub_self]
        rfl
      have hK : sStep 1 n s = ⟨sTake n s.f, s.ar, pre ++ [(sTake n s.f).ck], s.kinds ++ [0], s.opn⟩ := by rw [e, hset]
      have hpl := pstr_le ls bs
      have hll : s.f.left.length = min l.chl (pstr ls bs).length := by rw [hl, List.length_take]
      rw [hK]
      by_cases hn : n ≤ 0
      · have e2 : stTake most n ⟨.live l true, ls, bs, out, kinds⟩ = (⟨.live l true, ls, bs, out, kinds⟩ : RS).tell 0 := by simp only [stTake, hn, if_true]
        have hn0 : n.toNat = 0 := by omega
        have e3 : sTake n s.f = s.f := by
          unfold sTake
          rw [hn0]
          simp
        rw [e2, e3]
        exact ⟨by show pre ++ [s.f.ck] = out; rw [← h11, h1], by show s.kinds ++ [0] = kinds ++ [0]; rw [h2], h3, ⟨h5, c, h6, fun _ => ⟨h8, h9, h10, pre, rfl, h12⟩⟩⟩
      · have e2 : stTake most n ⟨.live l true, ls, bs, out, kinds⟩ = (stGot (min n.toNat most) l ⟨.live l true, ls, bs, out, kinds⟩).tell 0 := by simp only [stTake, hn, if_false]
        have hav : (pstr (l :: ls) bs).length = min l.chl (pstr ls bs).length := by
          show ((pstr ls bs).take l.chl).length = _
          rw [List.length_take]
        have hout : out = pre ++ [s.f.ck] := by rw [← h1, h11]
        obtain ⟨q, hq⟩ : ∃ q, q = min (min n.toNat most) (pstr (l :: ls) bs).length := ⟨_, rfl⟩
        have hq2 : q = min n.toNat s.f.left.length := by omega
        have hck : (sTake n s.f).ck = ⟨s.f.ck.id, s.f.ck.len, s.f.ck.data ++ (pstr (l :: ls) bs).take (min n.toNat most), if min n.toNat most ≤ (pstr (l :: ls) bs).length then s.f.ck.en else 0⟩ := by
          have d1 : s.f.left.take n.toNat = (pstr (l :: ls) bs).take (min n.toNat most) := by
            rw [hl]
            show ((pstr ls bs).take l.chl).take _ = ((pstr ls bs).take l.chl).take _
            have hle : ((pstr ls bs).take l.chl).length ≤ most := by rw [List.length_take]; omega
            generalize (pstr ls bs).take l.chl = Y at *
            rcases Nat.le_total n.toNat most with h | h
            · rw [Nat.min_eq_left h]
            · rw [Nat.min_eq_right h, List.take_of_length_le (Nat.le_trans hle h), List.take_of_length_le hle]
          have d2 : (if s.f.left.length < n.toNat then 0 else s.f.ck.en) = (if min n.toNat most ≤ (pstr (l :: ls) bs).length then s.f.ck.en else 0) := by
            by_cases h : s.f.left.length < n.toNat
            · rw [if_pos h, if_neg (by omega)]
            · rw [if_neg h, if_pos (by omega)]
          show (⟨s.f.ck.id, s.f.ck.len, s.f.ck.data ++ s.f.left.take n.toNat, if s.f.left.length < n.toNat then 0 else s.f.ck.en⟩ : Ck) = _
          rw [d1, d2]
        rw [e2]
        unfold stGot
        simp only [← hq]
        refine ⟨?_, by show s.kinds ++ [0] = kinds ++ [0]; rw [h2], h3.on_ (by omega), ⟨h5, c + q, ?_, fun _ => ⟨h8, h9, ?_, pre, rfl, h12⟩⟩⟩
        · show pre ++ [(sTake n s.f).ck] = upL _ out
          rw [hout, upL_snoc, hck]
        · have := h6.on_ h8 (k := q) (by omega) (by omega)
          rw [← pstr_on] at this
          exact ⟨this.bad, this.b, this.cb, this.tot, this.on, this.off⟩
        · show s.f.rd + min n.toNat s.f.left.length = c + q
          rw [h10, hq2]
theorem Sim.list {s : SS} {r : RS} (h : Sim s r) {n : Int} (ho : (sStep 2 n s).opn = false) : Sim (sStep 2 n s) (stList r) := by
  obtain ⟨h1, h2, h3, h4⟩ := h
  obtain ⟨now, ls, bs, out, kinds⟩ := r
  simp only at h1 h2 h3 h4
  have hidle : s.f.hand = false → sStep 2 n s = ⟨s.f, s.ar, s.out, s.kinds ++ [3], s.opn⟩ := fun e => by
    unfold sStep
    rw [if_neg (by decide), if_neg (by simp [e]), if_neg (by simp [e]), if_neg (by simp)]
  cases now with
  | dead eof =>
    rw [hidle h4.2]
    exact ⟨h1, by show _ ++ _ = _ ++ _; rw [h2], h3, h4⟩
  | live l hand =>
    simp only at h4
    obtain ⟨h5, c, h6, h7⟩ := h4
    cases hand with
    | false =>
      rw [hidle h5]
      exact ⟨h1, by show _ ++ _ = _ ++ _; rw [h2], h3, ⟨h5, c, h6, h7⟩⟩
    | true =>
      obtain ⟨h8, h9, h10, pre, h11, h12⟩ := h7 rfl
      have hl := left_eq h6 h8 h9 h10
      have hlp : s.f.left = pstr (l :: ls) bs := hl
      have hlast : lastC out = s.f.ck := by rw [← h1, h11, lastC_snoc]
      have e : sStep 2 n s = (if s.f.ck.len < 4 ∨ s.f.left.length < 4 then ⟨s.f, s.ar, s.out, s.kinds ++ [2], s.opn || decide (4 ≤ s.f.ck.len)⟩
          else ⟨sSub s.f.ck.len s.f.left, s.f :: s.ar, s.out, s.kinds ++ [0], s.opn⟩) := by
        unfold sStep
        rw [if_neg (by decide), if_neg (by simp), if_pos ⟨rfl, h5⟩]
      by_cases hc : s.f.ck.len < 4 ∨ s.f.left.length < 4
      · rw [e, if_pos hc] at ho ⊢
        simp only [Bool.or_eq_false_iff, decide_eq_false_iff_not] at ho
        have e2 : stList ⟨.live l true, ls, bs, out, kinds⟩ = (⟨.live l true, ls, bs, out, kinds⟩ : RS).tell 2 := by
          unfold stList
          simp only [hlast]
          rw [if_pos (by omega)]
        rw [e2]
        exact ⟨h1, by show s.kinds ++ [2] = kinds ++ [2]; rw [h2], h3, ⟨h5, c, h6, h7⟩⟩
      · have e2 : stList ⟨.live l true, ls, bs, out, kinds⟩ = ⟨.live ⟨s.f.ck.len - 4, 0, false⟩ false, l.on 4 :: padv 4 ls, bs.drop 4, out, kinds ++ [0]⟩ := by
          unfold stList
          simp only [hlast]
          rw [if_neg (by omega), if_neg (by rw [← hlp]; omega)]
        have hll : s.f.left.length = min l.chl (pstr ls bs).length := by rw [hl, List.length_take]
        rw [e, if_neg hc, e2]
        have hch : s.f.ck.len = l.chl + c := by obtain ⟨a1, a2, a3, a4⟩ := h6.on h8; omega
        refine ⟨h1, by show s.kinds ++ [0] = kinds ++ [0]; rw [h2], ⟨h8, ⟨c + 4, ?_⟩, h3.on_ (by omega)⟩, ⟨rfl, 0, ⟨rfl, ?_, Nat.zero_le _, ?_, fun e => ?_, fun _ => ⟨rfl, rfl, rfl⟩⟩, fun e => ?_⟩⟩
        · have := h6.on_ h8 (k := 4) (by omega) (by omega)
          rw [← pstr_on] at this
          exact this
        · show (s.f.left.drop 4).drop 0 = pstr (padv 4 (l :: ls)) (bs.drop 4)
          rw [pstr_on, hlp]
          rfl
        · rfl
        · exact absurd e (by simp [sSub])
        · exact absurd e (by simp)
theorem Sim.pop {s : SS} {r : RS} (h : Sim s r) {n : Int} : Sim (sStep 3 n s) (stPop r) := by
  obtain ⟨h1, h2, h3, h4⟩ := h
  obtain ⟨now, ls, bs, out, kinds⟩ := r
  obtain ⟨f, ar, sout, skinds, opn⟩ := s
  simp only at h1 h2 h3 h4
  cases ar with
  | nil =>
    cases ls with
    | cons l ls => exact absurd h3 (by simp [ArSim])
    | nil =>
      have e : sStep 3 n ⟨f, [], sout, skinds, opn⟩ = ⟨f, [], sout, skinds ++ [3], opn⟩ := by
        unfold sStep
        rw [if_neg (by decide), if_neg (by simp), if_neg (by simp), if_neg (by simp)]
      rw [e]
      exact ⟨h1, by show skinds ++ [3] = kinds ++ [3]; rw [h2], h3, h4⟩
  | cons g ar =>
    cases ls with
    | nil => exact absurd h3 (by simp [ArSim])
    | cons l ls =>
      obtain ⟨a1, ⟨c, a2⟩, a3⟩ := h3
      have e : sStep 3 n ⟨f, g :: ar, sout, skinds, opn⟩ = ⟨g.off, ar, sout, skinds ++ [0], opn⟩ := by
        unfold sStep
        rw [if_neg (by decide), if_neg (by simp), if_neg (by simp), if_pos (by simp)]
        rfl
      rw [e]
      exact ⟨h1, by show skinds ++ [0] = kinds ++ [0]; rw [h2], a3, ⟨rfl, c, ⟨a2.bad, a2.b, a2.cb, a2.tot, a2.on, a2.off⟩, fun e => by cases e⟩⟩
theorem Sim.step {s : SS} {r : RS} (h : Sim s r) {op n : Int} {most : Nat} (hm : r.bs.length < most) (ho : (sStep op n s).opn = false) : Sim (sStep op n s) (rstep most op n r) := by
  unfold rstep
  by_cases h0 : op = 0
  · subst h0
    rw [if_pos rfl]
    exact h.next ho
  · rw [if_neg h0]
    by_cases h1 : op = 1
    · subst h1
      rw [if_pos rfl]
      exact h.take hm
    · rw [if_neg h1]
      by_cases h2 : op = 2
      · subst h2
        rw [if_pos rfl]
        exact h.list ho
      · rw [if_neg h2]
        by_cases h3 : op = 3
        · subst h3
          rw [if_pos rfl]
          exact h.pop
        · rw [if_neg h3]
          have e : sStep op n s = ⟨s.f, s.ar, s.out, s.kinds ++ [3], s.opn⟩ := by
            unfold sStep
            rw [if_neg h0, if_neg (by simp [h1]), if_neg (by simp [h2]), if_neg (by simp [h3])]
          rw [e]
          obtain ⟨g1, g2, g3, g4⟩ := h
          exact ⟨g1, by show s.kinds ++ [3] = r.kinds ++ [3]; rw [g2], g3, g4⟩
theorem rstep_bs (most : Nat) (op n : Int) (r : RS) : (rstep most op n r).bs.length ≤ r.bs.length := by
  unfold rstep
  split
  · unfold stNext
    split
    · exact Nat.le_refl _
    · split <;> simp
  · split
    · unfold stTake
      split
      · split
        · exact Nat.le_refl _
        · simp [stGot, RS.tell]
      · exact Nat.le_refl _
    · split
      · unfold stList
        split
        · split
          · exact Nat.le_refl _
          · split <;> simp
        · exact Nat.le_refl _
      · split
        · unfold stPop
          split <;> exact Nat.le_refl _
        · exact Nat.le_refl _
theorem run_opn : ∀ (steps : List (Int × Int)) (s : SS), (sRun steps s).opn = false → s.opn = false
  | [], s, h => h
  | x :: xs, s, h => step_opn (run_opn xs (sStep x.1 x.2 s) h)
theorem Sim.run {most : Nat} : ∀ (steps : List (Int × Int)) {s : SS} {r : RS}, Sim s r → r.bs.length < most → (sRun steps s).opn = false → Sim (sRun steps s) (rrun most steps r)
  | [], s, r, h, _, _ => h
  | x :: xs, s, r, h, hm, ho => Sim.run xs (h.step hm (run_opn xs _ ho)) (Nat.lt_of_le_of_lt (rstep_bs most x.1 x.2 r) hm) ho
/-- Both tell the same. -/
theorem riff_spec (bs : List Nat) (steps : List (Int × Int)) (ho : (specP bs steps).2 = false) : riffP bs steps = (specP bs steps).1 := by
  unfold specP at ho ⊢
  unfold riffP
  by_cases h : OkHead bs
  · rw [if_pos h] at ho ⊢
    rw [if_pos h]
    have hs : Sim (sStart bs) (rstart bs) := ⟨rfl, rfl, trivial, ⟨rfl, 0, ⟨rfl, rfl, Nat.zero_le _, rfl, fun e => absurd e (by simp [sStart]), fun _ => ⟨rfl, rfl, rfl⟩⟩, fun e => absurd e (by simp)⟩⟩
    have := Sim.run (most := bs.length + 1) steps hs (by simp [rstart]; omega) ho
    show _ = ((bs.drop 8).take 4, (sRun steps (sStart bs)).out, (sRun steps (sStart bs)).kinds)
    rw [this.out, this.kinds]
  · rw [if_neg h, if_neg h]
end Go.Proofs.YthkpoidnhgcjhaaDoor

namespace Go.Proofs.YthkpoidnhgcjhaaDoor
set_option linter.unusedSimpArgs false
set_option linter.unusedVariables false
open Go.RowKit Plain

theorem info_sck : (Tryd.prog.info? 79).map (fun i => (i.zero, i.size, i.bytes)) = some (some (Value.agg #[.int .u8 0, .int .u8 0, .int .u8 0, .int .u8 0, .int .i64 0, .slice none 0 0, .int .i64 0]), 7, 48) := by kernel_rfl
theorem info_fp : (Tryd.prog.info? 93).map (fun i => (i.zero, i.size, i.bytes)) = some (some (Value.pointer none), 1, 8) := by kernel_rfl
theorem info_u8s : (Tryd.prog.info? 5).map (fun i => (i.zero, i.size, i.bytes)) = some (some (Value.int .u8 0), 1, 1) := by kernel_rfl
/-- The cells of a file. -/
def fCs (bv : Value) (told : Int) (op hand : Bool) (ck : Ck) (dv xv : Value) (rd bad place : Int) (form : List Nat) (odd : Bool) : Array Value :=
  #[bv, .int .i64 told, .bool op, .bool hand, .int .u8 (ck.id.getD 0 0 : Nat), .int .u8 (ck.id.getD 1 0 : Nat), .int .u8 (ck.id.getD 2 0 : Nat), .int .u8 (ck.id.getD 3 0 : Nat), .int .i64 (ck.len : Nat), dv, .int .i64 (ck.en : Nat), xv, .int .i64 rd, .int .i64 bad, .int .i64 place, .int .u8 (form.getD 0 0 : Nat), .int .u8 (form.getD 1 0 : Nat), .int .u8 (form.getD 2 0 : Nat), .int .u8 (form.getD 3 0 : Nat), .bool odd]
structure FAt (w : World) (g B : Nat) (f : SF) (dv : Value) : Prop where
  h : ∃ A c A2 c2, Blk w g 97 (fCs (.slice A f.b.length c) f.told f.op f.hand f.ck dv (.slice A2 f.data.length c2) f.rd f.bad f.place f.form f.odd) ∧
    Rd .u8 w B A (ofNr f.b) ∧ f.b.length ≤ c ∧ (f.bad = 0 → ∃ q o, A = some ⟨q, o, none⟩) ∧ Rd .u8 w B A2 (ofNr f.data) ∧ f.data.length ≤ c2 ∧ (f.hand = true → ∃ q o, A2 = some ⟨q, o, none⟩)
theorem FAt.lt {w : World} {g B : Nat} {f : SF} {dv : Value} (h : FAt w g B f dv) : g < w.heap.size := by
  obtain ⟨_, _, _, _, h1, _⟩ := h.h
  exact h1.lt
theorem FAt.upd {w w' : World} {g B : Nat} {f : SF} {dv : Value} {S : List Nat} (h : FAt w g B f dv) (u : Upd S w w') (hg : g ∉ S) (hB : B ≤ w.heap.size) (hS : ∀ s ∈ S, B ≤ s) : FAt w' g B f dv := by
  obtain ⟨A, c, A2, c2, h1, h2, h3, h4, h5, h6, h7⟩ := h.h
  exact ⟨A, c, A2, c2, h1.upd u hg, h2.upd u hB hS, h3, h4, h5.upd u hB hS, h6, h7⟩
/-- What stays true of a file; the bytes of the whole are nb at most. -/
structure FInv (nb : Nat) (f : SF) : Prop where
  bl : f.b.length ≤ nb
  byt : ∀ x ∈ f.b, x ≤ 255
  dl : f.data.length ≤ nb
  dbyt : ∀ x ∈ f.data, x ≤ 255
  told : f.told < 4294967296
  len : f.ck.len < 4294967296
  fit : f.op = true → f.ck.len ≤ f.told
  bad : f.bad ≤ 2
  rd : f.rd ≤ f.data.length
  hand : f.hand = true → f.ck.data.length = f.rd
theorem FInv.pass {nb : Nat} {f : SF} (h : FInv nb f) : FInv nb (sPass f) := by
  obtain ⟨h1, h2, h3, h4, h5, h6, h7, h8, h9, h10⟩ := h
  unfold sPass
  by_cases ho : f.op = false
  · rw [if_pos ho]; exact ⟨h1, h2, h3, h4, h5, h6, h7, h8, h9, h10⟩
  · rw [if_neg ho]
    by_cases hs : f.b.length < f.ck.len
    · rw [if_pos hs]
      exact ⟨Nat.zero_le _, by simp, h3, h4, h5, h6, by simp, by simp, h9, by simp⟩
    · rw [if_neg hs]
      by_cases hq : f.ck.len % 2 = 0 ∨ f.told - f.ck.len = 0
      · rw [if_pos hq]
        exact ⟨by simp; omega, fun x hx => h2 x (List.mem_of_mem_drop hx), h3, h4, by show f.told - f.ck.len < _; omega, h6, by simp, h8, h9, by simp⟩
      · rw [if_neg hq]
        by_cases hl : f.b.length = f.ck.len
        · rw [if_pos hl]
          exact ⟨Nat.zero_le _, by simp, h3, h4, by show f.told - f.ck.len - 1 < _; omega, h6, by simp, by simp, h9, by simp⟩
        · rw [if_neg hl]
          exact ⟨by simp; omega, fun x hx => h2 x (List.mem_of_mem_drop hx), h3, h4, by show f.told - f.ck.len - 1 < _; omega, h6, by simp, h8, h9, by simp⟩
theorem FInv.next {nb : Nat} {f : SF} (h : FInv nb f) : FInv nb (sNext f).2 := by
  unfold sNext
  by_cases hb : f.bad ≠ 0
  · rw [if_pos hb]; exact h
  · rw [if_neg hb]
    have hp := h.pass
    by_cases hb2 : (sPass f).bad ≠ 0
    · rw [if_pos hb2]; exact hp
    · rw [if_neg hb2]
      obtain ⟨h1, h2, h3, h4, h5, h6, h7, h8, h9, h10⟩ := hp
      generalize sPass f = p at *
      unfold sHead
      by_cases h0 : p.told = 0
      · rw [if_pos h0]
        exact ⟨h1, h2, h3, h4, h5, h6, h7, by show 1 ≤ 2; omega, h9, h10⟩
      · rw [if_neg h0]
        by_cases hc : p.told < 8 ∨ p.b.length < 8 ∨ p.told - 8 < le4 (p.b.drop 4)
        · rw [if_pos hc]
          exact ⟨h1, h2, h3, h4, h5, h6, h7, by show 2 ≤ 2; omega, h9, h10⟩
        · rw [if_neg hc]
          have g : le4 (p.b.drop 4) < 4294967296 := le4_lt _ (fun x hx => h2 x (List.mem_of_mem_drop hx))
          have g2 : le4 (p.b.drop 4) ≤ p.told - 8 := by omega
          generalize le4 (p.b.drop 4) = n at *
          have e1 : (p.b.drop 8).length ≤ nb := by rw [List.length_drop]; omega
          have e2 : ∀ x ∈ p.b.drop 8, x ≤ 255 := fun x hx => h2 x (List.mem_of_mem_drop hx)
          have e3 : ((p.b.drop 8).take n).length ≤ nb := by rw [List.length_take]; omega
          have e4 : ∀ x ∈ (p.b.drop 8).take n, x ≤ 255 := fun x hx => e2 x (List.mem_of_mem_take hx)
          have e5 : p.told - 8 < 4294967296 := by omega
          exact ⟨e1, e2, e3, e4, e5, g, fun _ => g2, h8, Nat.zero_le _, fun _ => rfl⟩
theorem FInv.take {nb : Nat} {f : SF} (h : FInv nb f) (hh : f.hand = true) (n : Int) : FInv nb (sTake n f) := by
  obtain ⟨h1, h2, h3, h4, h5, h6, h7, h8, h9, h10⟩ := h
  refine ⟨h1, h2, h3, h4, h5, h6, h7, h8, ?_, fun _ => ?_⟩
  · show f.rd + min n.toNat (f.data.drop f.rd).length ≤ f.data.length
    rw [List.length_drop]; omega
  · show (f.ck.data ++ f.left.take n.toNat).length = f.rd + min n.toNat f.left.length
    rw [List.length_append, List.length_take, h10 hh]
theorem FInv.sub {nb : Nat} {f : SF} (h : FInv nb f) (h4 : 4 ≤ f.ck.len) : FInv nb (sSub f.ck.len f.left) := by
  have hl : f.left.length ≤ nb := by have := h.dl; unfold SF.left; rw [List.length_drop]; omega
  have hb : ∀ x ∈ f.left, x ≤ 255 := fun x hx => h.dbyt x (List.mem_of_mem_drop hx)
  have := h.len
  exact ⟨by show (f.left.drop 4).length ≤ nb; rw [List.length_drop]; omega, fun x hx => hb x (List.mem_of_mem_drop hx), Nat.zero_le _, by simp [sSub], by show f.ck.len - 4 < _; omega, by show 0 < _; decide, by simp [sSub], by simp [sSub], Nat.le_refl _, by simp [sSub]⟩
/-- What stays true between steps. -/
structure SInv (nb k : Nat) (s : SS) : Prop where
  kl : s.kinds.length = k + 1
  ol : s.out.length ≤ k
  al : s.ar.length ≤ k
  f : FInv nb s.f
  ar : ∀ g ∈ s.ar, FInv nb g
  hand : s.f.hand = true → s.f.op = true ∧ ∃ pre, s.out = pre ++ [s.f.ck] ∧ s.f.place = pre.length
theorem next_hand {f : SF} (h : (sNext f).1 ≠ 0) (hh : f.hand = true → f.op = true ∧ f.bad = 0) : (sNext f).2.hand = false := by
  unfold sNext at h ⊢
  by_cases hb : f.bad ≠ 0
  · rw [if_pos hb]
    cases hx : f.hand with
    | false => rfl
    | true => exact absurd (hh hx).2 hb
  · rw [if_neg hb] at h ⊢
    have hp : (sPass f).hand = false := by
      unfold sPass
      by_cases ho : f.op = false
      · rw [if_pos ho]
        cases hx : f.hand with
        | false => rfl
        | true => have := (hh hx).1; rw [ho] at this; cases this
      · rw [if_neg ho]
        repeat' split
        all_goals rfl
    by_cases hb2 : (sPass f).bad ≠ 0
    · rw [if_pos hb2]; exact hp
    · rw [if_neg hb2] at h ⊢
      unfold sHead at h ⊢
      repeat' split at h
      all_goals first | exact absurd rfl h | skip
      · rw [if_pos (by assumption)]; exact hp
      · rw [if_neg (by assumption), if_pos (by assumption)]; exact hp
/-- The rows of chunks told, where V tells each one's bytes' slice. -/
structure SOuts (w : World) (base : Nat) (ov : Value) (out : List Ck) (V : Nat → Value) : Prop where
  row : w.ownsRow base 79 7 ov out.length (ckCells V 0 out)
  data : ∀ i, i < out.length → w.ownsRow base 5 1 (V i) (out.getD i default).data.length ((ofNr (out.getD i default).data).map (Value.int .u8))
  apart : ∀ i j, i < out.length → j < out.length → i ≠ j → (V i).ownBlock = none ∨ (V i).ownBlock ≠ (V j).ownBlock
theorem SOuts.nil (w : World) (base : Nat) (V : Nat → Value) : SOuts w base (.slice none 0 0) [] V := ⟨⟨rfl, .inl ⟨rfl, rfl⟩⟩, fun i hi => by simp at hi, fun i j hi => by simp at hi⟩
theorem SOuts.upd {w w' : World} {base : Nat} {ov : Value} {out : List Ck} {V : Nat → Value} {S : List Nat} (h : SOuts w base ov out V) (u : Upd S w w') (ho : ∀ k, ov.ownBlock = some k → k ∉ S) (hV : ∀ i, i < out.length → ∀ k, (V i).ownBlock = some k → k ∉ S) : SOuts w' base ov out V :=
  ⟨u.own h.row ho, fun i hi => u.own (h.data i hi) (hV i hi), h.apart⟩
/-- A chunk more is told. -/
theorem SOuts.snoc {w w' : World} {base : Nat} {ov ov' : Value} {out : List Ck} {c : Ck} {V : Nat → Value} (h : SOuts w base ov out V) (hg : w.grownBy w' ov.ownBlock) (hd : c.data = []) (ho : w'.ownsRow base 79 7 ov' (out.length + 1) (ckCells V 0 out ++ ckC c (.slice none 0 0))) :
    SOuts w' base ov' (out ++ [c]) (fun i => if i < out.length then V i else .slice none 0 0) := by
  obtain ⟨h1, h2, h3⟩ := h
  have hlen : (out ++ [c]).length = out.length + 1 := by simp
  have hV : ∀ i, i < out.length → (fun i => if i < out.length then V i else .slice none 0 0) i = V i := fun i hi => by simp [hi]
  have hget : ∀ i, i < out.length → (out ++ [c]).getD i default = out.getD i default := fun i hi => by simp [List.getD_eq_getElem?_getD, List.getElem?_append_left hi]
  refine ⟨?_, fun i hi => ?_, fun i j hi hj hij => ?_⟩
  · rw [hlen, ck_snoc, ck_congr (V' := V) 0 out (fun j _ hj => hV j (by omega)), Nat.zero_add]
    simp only [Nat.lt_irrefl, if_false]
    exact ho
  · rw [hlen] at hi
    rcases Nat.lt_or_ge i out.length with hi' | hi'
    · simp only [hi', if_true]
      rw [hget i hi']
      exact World.ownsRow.kept (h2 i hi') hg (by
        by_cases hn : (V i).ownBlock = none
        · exact .inl hn
        · refine .inr (fun e => ?_)
          obtain ⟨k, hk⟩ := Option.ne_none_iff_exists'.1 hn
          rw [hk] at e
          rcases (h2 i hi').2 with ⟨hv, _⟩ | ⟨g, cap, cur, hv, _, hb, _⟩
          · rw [hv] at hk; cases hk
          · rw [hv] at hk
            injection hk with hk
            subst hk
            exact own_ne h1 (t := 5) (cs := cur) hb (by decide) e.symm)
    · have : i = out.length := by omega
      subst this
      simp only [Nat.lt_irrefl, if_false]
      have : (out ++ [c]).getD out.length default = c := by simp
      rw [this, hd]
      exact ⟨rfl, .inl ⟨rfl, rfl⟩⟩
  · rw [hlen] at hi hj
    by_cases hi' : i < out.length
    · by_cases hj' : j < out.length
      · simp only [hi', hj', if_true]
        exact h3 i j hi' hj' hij
      · simp only [hi', hj', if_true, if_false]
        by_cases hn : (V i).ownBlock = none
        · exact .inl hn
        · exact .inr (by simpa [Value.ownBlock] using hn)
    · simp only [hi', if_false]
      exact .inl rfl
/-- The last chunk told, in memory. -/
theorem SOuts.last {w : World} {base : Nat} {ov : Value} {pre : List Ck} {c : Ck} {V : Nat → Value} (h : SOuts w base ov (pre ++ [c]) V) : ∃ (g cap : Nat) (cs : Array Value), ov = .slice (some ⟨g, 0, none⟩) (pre.length + 1) cap ∧ base ≤ g ∧ Blk w g 79 cs ∧ pre.length + 1 ≤ cap ∧ cap ≤ maxLen ∧ cs.size = cap * 7 ∧ cs.toList.take ((pre.length + 1) * 7) = ckCells V 0 pre ++ ckC c (V pre.length) := by
  have h1 := h.row
  rw [List.length_append, List.length_singleton] at h1
  rcases h1.2 with ⟨_, h0⟩ | ⟨g, cap, cur, hv, hb, hh, hc, hm, hs, ht⟩
  · omega
  · exact ⟨g, cap, cur, hv, hb, hh, hc, hm, hs, by rw [ht, ck_snoc, Nat.zero_add]⟩
/-- The last chunk told is told anew. -/
theorem SOuts.took {w w' : World} {base g cap : Nat} {pre : List Ck} {c c' : Ck} {cs' : Array Value} {V : Nat → Value} {v' : Value} {ov : Value} (h : SOuts w base ov (pre ++ [c]) V) (hb : base ≤ g) (hc : pre.length + 1 ≤ cap) (hm : cap ≤ maxLen) (hs : cs'.size = cap * 7) (ht : cs'.toList.take ((pre.length + 1) * 7) = ckCells V 0 pre ++ ckC c' v')
    (hV' : ∀ i, i < pre.length → w'.ownsRow base 5 1 (V i) (pre.getD i default).data.length ((ofNr (pre.getD i default).data).map (Value.int .u8)))
    (hg : Blk w' g 79 cs') (ho : w'.ownsRow base 5 1 v' c'.data.length ((ofNr c'.data).map (Value.int .u8))) (hn : ∀ k, v'.ownBlock = some k → (V pre.length).ownBlock = some k ∨ w.heap.size ≤ k) :
    SOuts w' base (.slice (some ⟨g, 0, none⟩) (pre.length + 1) cap) (pre ++ [c']) (fun i => if i = pre.length then v' else V i) := by
  have hlen : (pre ++ [c']).length = pre.length + 1 := by simp
  have hlen0 : (pre ++ [c]).length = pre.length + 1 := by simp
  have hcon : ckCells (fun i => if i = pre.length then v' else V i) 0 pre = ckCells V 0 pre := ck_congr 0 pre (fun j _ hj => by simp only [(show j ≠ pre.length by omega), if_false])
  have hp : ∀ i j, i < pre.length + 1 → j < pre.length + 1 → i ≠ j → (V i).ownBlock = none ∨ (V i).ownBlock ≠ (V j).ownBlock := fun i j hi hj => h.apart i j (by omega) (by omega)
  have hne : ∀ i, i < pre.length → ∀ k, (V i).ownBlock = some k → k < w.heap.size := fun i hi k hk => ((h.data i (by omega)).lt k hk).2
  refine ⟨⟨?_, .inr ⟨g, cap, cs', ?_, hb, hg, ?_, hm, hs, ?_⟩⟩, fun i hi => ?_, fun i j hi hj hij => ?_⟩
  · rw [ck_len]
  · rw [hlen]
  · rw [hlen]; exact hc
  · rw [hlen, ht, ck_snoc, hcon, Nat.zero_add]
    simp only [if_true]
  · rw [hlen] at hi
    by_cases he : i = pre.length
    · subst he
      simp only [if_true]
      have e : (pre ++ [c']).getD pre.length default = c' := by simp
      rw [e]
      exact ho
    · simp only [he, if_false]
      have e : (pre ++ [c']).getD i default = pre.getD i default := by simp [List.getD_eq_getElem?_getD, List.getElem?_append_left (by omega : i < pre.length)]
      rw [e]
      exact hV' i (by omega)
  · rw [hlen] at hi hj
    by_cases he : i = pre.length
    · have hj' : j ≠ pre.length := by omega
      simp only [he, hj', if_true, if_false]
      by_cases hx : v'.ownBlock = none
      · exact .inl hx
      · refine .inr (fun e => ?_)
        obtain ⟨k, hk⟩ := Option.ne_none_iff_exists'.1 hx
        rw [hk] at e
        rcases hn k hk with h1 | h1
        · rcases hp j pre.length hj (by omega) hj' with h2 | h2
          · rw [h2] at e; cases e
          · exact h2 (by rw [← e, h1])
        · have := hne j (by omega) k e.symm
          omega
    · by_cases hj' : j = pre.length
      · simp only [he, hj', if_true, if_false]
        by_cases hx : (V i).ownBlock = none
        · exact .inl hx
        · refine .inr (fun e => ?_)
          obtain ⟨k, hk⟩ := Option.ne_none_iff_exists'.1 hx
          rw [hk] at e
          rcases hn k e.symm with h1 | h1
          · rcases hp i pre.length hi (by omega) he with h2 | h2
            · exact hx h2
            · exact h2 (by rw [hk, h1])
          · have := hne i (by omega) k hk
            omega
      · simp only [he, hj', if_false]
        exact hp i j hi hj hij
/-- Files around, and where they lie, the innermost first. -/
def Files (w : World) (B : Nat) : List Nat → List SF → Prop
  | [], [] => True
  | g :: gs, f :: fs => (∃ dv, FAt w g B f dv) ∧ Files w B gs fs
  | _, _ => False
theorem Files.upd {w w' : World} {B : Nat} {S : List Nat} (u : Upd S w w') (hB : B ≤ w.heap.size) (hS : ∀ s ∈ S, B ≤ s) : ∀ {gs : List Nat} {fs : List SF}, Files w B gs fs → (∀ g ∈ gs, g ∉ S) → Files w' B gs fs
  | [], [], _, _ => trivial
  | g :: gs, f :: fs, h, hg => ⟨by obtain ⟨dv, h1⟩ := h.1; exact ⟨dv, h1.upd u (hg g (by simp)) hB hS⟩, Files.upd u hB hS h.2 (fun k hk => hg k (by simp [hk]))⟩
  | [], _ :: _, h, _ => absurd h (by simp [Files])
  | _ :: _, [], h, _ => absurd h (by simp [Files])
theorem Files.len {w : World} {B : Nat} : ∀ {gs : List Nat} {fs : List SF}, Files w B gs fs → gs.length = fs.length
  | [], [], _ => rfl
  | g :: gs, f :: fs, h => by simp [Files.len h.2]
  | [], _ :: _, h => absurd h (by simp [Files])
  | _ :: _, [], h => absurd h (by simp [Files])
theorem Files.blk {w : World} {B : Nat} : ∀ {gs : List Nat} {fs : List SF}, Files w B gs fs → ∀ g ∈ gs, ∃ cs, Blk w g 97 cs
  | [], [], _, g, hg => by simp at hg
  | g :: gs, f :: fs, h, k, hk => by
    rcases List.mem_cons.1 hk with rfl | hk
    · obtain ⟨dv, A, c, A2, c2, h1, _⟩ := h.1
      exact ⟨_, h1⟩
    · exact Files.blk h.2 k hk
  | [], _ :: _, h, _, _ => absurd h (by simp [Files])
  | _ :: _, [], h, _, _ => absurd h (by simp [Files])
def pCs (gs : List Nat) : List Value := gs.reverse.map fun g => .pointer (some ⟨g, 0, none⟩)
theorem pCs_cons (g : Nat) (gs : List Nat) : pCs (g :: gs) = pCs gs ++ [.pointer (some ⟨g, 0, none⟩)] := by simp [pCs]
theorem pCs_len (gs : List Nat) : (pCs gs).length = gs.length := by simp [pCs]
/-- What 'walked' holds in memory. -/
structure SW (w0 w : World) (B gf : Nat) (gs : List Nat) (dv : Value) (V : Nat → Value) (s : SS) (kv ov av : Value) : Prop where
  up : Upd [] w0 w
  hB0 : w0.heap.size = B
  kinds : w.ownsRow B 3 1 kv s.kinds.length (s.kinds.map (Value.int .i64))
  around : w.ownsRow B 93 1 av gs.length (pCs gs)
  files : Files w B gs s.ar
  nod : (gf :: gs).Nodup
  ge : ∀ g ∈ gf :: gs, B ≤ g
  f : FAt w gf B s.f dv
  outs : SOuts w B ov s.out V
  dvV : s.f.hand = true → dv = V (s.out.length - 1)
end Go.Proofs.YthkpoidnhgcjhaaDoor

namespace Go.Proofs.YthkpoidnhgcjhaaDoor
set_option linter.unusedSimpArgs false
set_option linter.unusedVariables false
open Go.RowKit Plain

theorem wraps63 (n : Int) (h0 : 0 ≤ n) (h1 : n < 2 ^ 63) : IntKind.i64.wrap n = n := by
  have h1' : n < 9223372036854775808 := by simpa using h1
  exact IntWalk.i64_in n (by omega)
theorem rd_cell {A : Option Addr} {B : Nat} {l : List Nat} {w : World} (hr : Rd .u8 w B A (ofNr l)) (hl : 1 ≤ l.length) : ∃ b o, A = some ⟨b, o, none⟩ ∧ b < B ∧ ∀ i, i < l.length → w.cell? ⟨b, o + i, none⟩ = some (.int .u8 ((l.getD i 0 : Nat) : Int)) := by
  obtain ⟨b, o, h1, h2, h3⟩ := hr.at_ (j := 0) (by rw [ofNr_len]; omega)
  exact ⟨b, o, h1, h2, fun i hi => by rw [h3 i (by rw [ofNr_len]; exact hi), ofNr_get]⟩
theorem byte_le {l : List Nat} (h : ∀ x ∈ l, x ≤ 255) (i : Nat) : l.getD i 0 ≤ 255 := by
  rcases Nat.lt_or_ge i l.length with h1 | h1
  · have : l.getD i 0 = l[i] := by simp [h1]
    rw [this]; exact h _ (List.getElem_mem h1)
  · simp [h1]
theorem rd_drop {B q o n : Nat} {b : List Nat} {w : World} {A' : Option Addr} (h : Rd .u8 w B (some ⟨q, o, none⟩) (ofNr b)) (hA : n < b.length → A' = some ⟨q, o + n, none⟩) : Rd .u8 w B A' (ofNr (b.drop n)) := by
  rcases Nat.lt_or_ge n b.length with h1 | h1
  · rw [hA h1]
    obtain ⟨b', o', e, hb', hc'⟩ := h.at_ (j := 0) (by rw [ofNr_len]; omega)
    cases e
    refine Rd.ofCells hb' (fun j hj => ?_)
    rw [ofNr_len, List.length_drop] at hj
    rw [show o + n + j = o + (n + j) by omega, hc' (n + j) (by rw [ofNr_len]; omega), ofNr_get, ofNr_get]
    simp
  · rw [List.drop_eq_nil_of_le h1]
    exact Rd.nil
theorem rd_take {B n : Nat} {b : List Nat} {w : World} {A : Option Addr} (h : Rd .u8 w B A (ofNr b)) : Rd .u8 w B A (ofNr (b.take n)) := fun hl => by
  have hb : ofNr b ≠ [] := fun e => hl (by rw [show ofNr (b.take n) = (ofNr b).take n from by simp [ofNr, List.map_take], e, List.take_nil])
  obtain ⟨q, o, h1, h2, h3⟩ := h hb
  refine ⟨q, o, h1, h2, fun j hj => ?_⟩
  rw [ofNr_len, List.length_take] at hj
  rw [h3 j (by rw [ofNr_len]; omega), ofNr_get, ofNr_get]
  simp [List.getElem?_take, (by omega : j < n)]
set_option maxRecDepth 100000 in
set_option maxHeartbeats 4000000 in
theorem sfour_any (A : Option Addr) (c B : Nat) (l : List Nat) (w : World) (h4 : 4 ≤ l.length) (hr : Rd .u8 w B A (ofNr l)) (hB : B ≤ w.heap.size) :
    Calls Tryd.prog 37 #[.slice A l.length c] w fun e w' => e = .returned (four l) ∧ Upd [] w w' := by
  obtain ⟨b, o, rfl, hb, hc⟩ := rd_cell hr (by omega)
  have hl : (4 : Int) ≤ (l.length : Int) := by omega
  have hbw : b < w.heap.size := by omega
  have hbn : ¬ b = w.heap.size := by omega
  have hbn' : ¬ w.heap.size = b := by omega
  have c0 := hc 0 (by omega)
  rw [Nat.add_zero] at c0
  have c1 := hc 1 (by omega)
  have c2 := hc 2 (by omega)
  have c3 := hc 3 (by omega)
  unfold four
  clear hc hr
  generalize l.getD 0 0 = b0 at *
  generalize l.getD 1 0 = b1 at *
  generalize l.getD 2 0 = b2 at *
  generalize l.getD 3 0 = b3 at *
  generalize l.length = m at *
  go_enter Tryd.func37, Tryd.ntmps37
  go_wp2_with fail
  go_region
  go_wp2
  exact bodyPost_ret (ret_cell rfl rfl (load_arr4 (Blk.drew (Blk.new w 22 #[.int .u8 (b0 : Nat), .int .u8 (b1 : Nat), .int .u8 (b2 : Nat), .int .u8 (b3 : Nat)])) rfl)) rfl (by exact ⟨rfl, ((Upd.refl [] w).alloc _).drew⟩)
set_option maxRecDepth 100000 in
set_option maxHeartbeats 4000000 in
theorem snum_any (A : Option Addr) (c B : Nat) (l : List Nat) (w : World) (h4 : 4 ≤ l.length) (hr : Rd .u8 w B A (ofNr l)) (h8 : ∀ x ∈ l, x ≤ 255) :
    Calls Tryd.prog 38 #[.slice A l.length c] w fun e w' => e = .returned (.int .i64 (le4 l : Nat)) ∧ ∃ n, w.drewN n = w' := by
  obtain ⟨b, o, rfl, hb, hc⟩ := rd_cell hr (by omega)
  have c0 := hc 0 (by omega)
  rw [Nat.add_zero] at c0
  have c1 := hc 1 (by omega)
  have c2 := hc 2 (by omega)
  have c3 := hc 3 (by omega)
  have hl : (4 : Int) ≤ (l.length : Int) := by omega
  have g0 : ((l.getD 0 0 : Nat) : Int) ≤ 255 := by have := byte_le h8 0; omega
  have g1 : ((l.getD 1 0 : Nat) : Int) ≤ 255 := by have := byte_le h8 1; omega
  have g2 : ((l.getD 2 0 : Nat) : Int) ≤ 255 := by have := byte_le h8 2; omega
  have g3 : ((l.getD 3 0 : Nat) : Int) ≤ 255 := by have := byte_le h8 3; omega
  have hle : ((le4 l : Nat) : Int) = (l.getD 0 0 : Nat) + (l.getD 1 0 : Nat) * 256 + (l.getD 2 0 : Nat) * 65536 + (l.getD 3 0 : Nat) * 16777216 := by
    unfold le4
    rw [Int.natCast_add, Int.natCast_add, Int.natCast_add, Int.natCast_mul, Int.natCast_mul, Int.natCast_mul]
    rfl
  rw [hle]
  clear hc hr h8 hle
  generalize l.getD 0 0 = b0 at *
  generalize l.getD 1 0 = b1 at *
  generalize l.getD 2 0 = b2 at *
  generalize l.getD 3 0 = b3 at *
  generalize l.length = m at *
  have p0 : (0 : Int) ≤ (b0 : Int) := by omega
  have p1 : (0 : Int) ≤ (b1 : Int) := by omega
  have p2 : (0 : Int) ≤ (b2 : Int) := by omega
  have p3 : (0 : Int) ≤ (b3 : Int) := by omega
  go_enter Tryd.func38, Tryd.ntmps38
  go_wp2
  go_quiet (fail)
  go_wp2
  go_ret
  exact ⟨rfl, _, rfl⟩
end Go.Proofs.YthkpoidnhgcjhaaDoor
