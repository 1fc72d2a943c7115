/- Chunks as they are written, and what steps tell of them: plain. No walk. -/
import Derived.Test.YthkpoidnhgcjhaaDoorRfMach
namespace Go.Proofs.YthkpoidnhgcjhaaDoor
set_option linter.unusedSimpArgs false
set_option linter.unusedVariables false
open Go.RowKit Plain

theorem pstr_adv (n : Nat) : ∀ (ls : List PL) (bs : List Nat), pstr (padv n ls) (bs.drop n) = (pstr ls bs).drop n
  | [], bs => rfl
  | l :: ls, bs => by
    show (pstr (padv n ls) (bs.drop n)).take (l.chl - n) = ((pstr ls bs).take l.chl).drop n
    rw [pstr_adv n ls bs, List.drop_take]
theorem padv_padv (n m : Nat) (ls : List PL) : padv m (padv n ls) = padv (n + m) ls := by
  unfold padv
  rw [List.map_map]
  apply List.map_congr_left
  intro l _
  simp [PL.on, Nat.sub_sub]
theorem padv_zero (ls : List PL) : padv 0 ls = ls := by
  unfold padv
  have : (fun l : PL => l.on 0) = id := by funext l; rfl
  rw [this, List.map_id]
def lowP (n : Nat) : List Nat := [n % 256, n / 256 % 256, n / 65536 % 256, n / 16777216 % 256]
def padP (b : Bool) : List Nat := if b then [0] else []
theorem padP_len (b : Bool) : (padP b).length = if b = true then 1 else 0 := by cases b <;> rfl
/-- A chunk as it is written. -/
def chunkP (id b : List Nat) : List Nat := id ++ (lowP b.length ++ (b ++ padP (decide (b.length % 2 = 1))))
/-- Chunks as they are written; each with how much of it will be asked. -/
def encP (cs : List (List Nat × List Nat × Nat)) : List Nat := cs.flatMap fun x => chunkP x.1 x.2.1
theorem le4_low (n : Nat) (h : n < 4294967296) (R : List Nat) : le4 (lowP n ++ R) = n := by
  simp only [le4, lowP]
  simp
  omega
theorem chunk_len (id b : List Nat) (h : id.length = 4) : (chunkP id b).length = 8 + b.length + (padP (decide (b.length % 2 = 1))).length := by
  simp [chunkP, lowP, h]
  omega
/-- Between two chunks: what is left of the one before, its filling byte, and those that follow. -/
structure AtB (s : RS) (cs : List (List Nat × List Nat × Nat)) (tail : List Nat) : Prop where
  h : ∃ l hand J, s.now = .live l hand ∧ pstr s.ls s.bs = J ++ (padP l.pad ++ (encP cs ++ tail)) ∧ J.length = l.chl ∧ l.tot = l.chl + (padP l.pad).length + (encP cs).length
/-- The levels around have gone on by so much. -/
def On (s s' : RS) (K : Nat) : Prop := s'.ls = padv K s.ls ∧ s'.bs = s.bs.drop K ∧ K ≤ (pstr s.ls s.bs).length
theorem On.refl (s : RS) : On s s 0 := ⟨(padv_zero _).symm, rfl, Nat.zero_le _⟩
theorem On.str {s s' : RS} {K : Nat} (h : On s s' K) : pstr s'.ls s'.bs = (pstr s.ls s.bs).drop K := by
  obtain ⟨a, b, _⟩ := h
  rw [a, b, pstr_adv]
theorem On.trans {s s' s'' : RS} {K L : Nat} (h : On s s' K) (h' : On s' s'' L) : On s s'' (K + L) := by
  have e := h.str
  obtain ⟨a, b, k⟩ := h
  obtain ⟨c, d, l⟩ := h'
  refine ⟨by rw [c, a, padv_padv], by rw [d, b, List.drop_drop], ?_⟩
  rw [e, List.length_drop] at l
  omega
theorem next_skip {tot chl : Nat} {pad : Bool} {J R : List Nat} (hJ : J.length = chl) (ht : chl + (padP pad).length ≤ tot) : nextP tot chl pad (J ++ (padP pad ++ R)) = nxB (tot - chl - (padP pad).length) (chl + (padP pad).length) (J ++ (padP pad ++ R)) := by
  unfold nextP nxP
  rw [if_neg (by simp; omega)]
  cases pad with
  | true =>
    simp only [padP, if_true, List.length_singleton] at ht ⊢
    rw [if_neg (by omega), if_neg (by simp; omega)]
  | false => simp [padP]
theorem drop_skip {chl : Nat} {J P R : List Nat} (hJ : J.length = chl) (n : Nat) : (J ++ (P ++ R)).drop (chl + P.length + n) = R.drop n := by
  rw [← List.append_assoc, ← hJ, ← List.length_append, ← List.drop_drop, List.drop_left]
/-- The next chunk is told. -/
theorem AtB.next {s : RS} {id d : List Nat} {N : Nat} {cs : List (List Nat × List Nat × Nat)} {tail : List Nat} (h : AtB s ((id, d, N) :: cs) tail) (hid : id.length = 4) (hd : d.length < 4294967296) :
    ∃ t K, (stNext s).now = .live ⟨t, d.length, decide (d.length % 2 = 1)⟩ true ∧ t = d.length + (padP (decide (d.length % 2 = 1))).length + (encP cs).length ∧ (stNext s).out = s.out ++ [⟨id, d.length, [], 2⟩] ∧ (stNext s).kinds = s.kinds ++ [0] ∧
      pstr (stNext s).ls (stNext s).bs = d ++ (padP (decide (d.length % 2 = 1)) ++ (encP cs ++ tail)) ∧ On s (stNext s) K := by
  obtain ⟨l, hand, J, hn, hX, hJ, ht⟩ := h.h
  have he : encP ((id, d, N) :: cs) = id ++ (lowP d.length ++ (d ++ (padP (decide (d.length % 2 = 1)) ++ encP cs))) := by simp [encP, chunkP]
  have hel : (encP ((id, d, N) :: cs)).length = 8 + d.length + (padP (decide (d.length % 2 = 1))).length + (encP cs).length := by
    rw [he]; simp [lowP, hid]; omega
  have hR : encP ((id, d, N) :: cs) ++ tail = id ++ (lowP d.length ++ (d ++ (padP (decide (d.length % 2 = 1)) ++ (encP cs ++ tail)))) := by rw [he]; simp
  have hk : ∀ n, (pstr s.ls s.bs).drop (l.chl + (padP l.pad).length + n) = (encP ((id, d, N) :: cs) ++ tail).drop n := fun n => by rw [hX]; exact drop_skip hJ n
  have hlen : (pstr s.ls s.bs).length = l.chl + (padP l.pad).length + ((encP ((id, d, N) :: cs)).length + tail.length) := by rw [hX]; simp; omega
  have hnx : nextP l.tot l.chl l.pad (pstr s.ls s.bs) = .ok (l.chl + (padP l.pad).length + 8) d.length (d.length + (padP (decide (d.length % 2 = 1))).length + (encP cs).length) := by
    have h1 : nextP l.tot l.chl l.pad (pstr s.ls s.bs) = nxB (l.tot - l.chl - (padP l.pad).length) (l.chl + (padP l.pad).length) (pstr s.ls s.bs) := by
      rw [hX]; exact next_skip hJ (by omega)
    have h4 : le4 ((pstr s.ls s.bs).drop (l.chl + (padP l.pad).length + 4)) = d.length := by
      rw [hk 4, hR, ← hid, List.drop_left]
      exact le4_low _ hd _
    rw [h1, nxB_ok (by omega) (by omega) (by rw [h4]; omega), h4]
    congr 1
    omega
  have e : stNext s = ⟨.live ⟨d.length + (padP (decide (d.length % 2 = 1))).length + (encP cs).length, d.length, decide (d.length % 2 = 1)⟩ true, padv (l.chl + (padP l.pad).length + 8) s.ls, s.bs.drop (l.chl + (padP l.pad).length + 8), s.out ++ [⟨((pstr s.ls s.bs).drop (l.chl + (padP l.pad).length + 8 - 8)).take 4, d.length, [], 2⟩], s.kinds ++ [0]⟩ := by
    unfold stNext
    rw [hn]
    simp only [hnx]
  have hid4 : ((pstr s.ls s.bs).drop (l.chl + (padP l.pad).length + 8 - 8)).take 4 = id := by
    rw [Nat.add_sub_cancel]
    have := hk 0
    rw [Nat.add_zero, List.drop_zero] at this
    rw [this, hR, ← hid, List.take_left]
  rw [hid4] at e
  rw [e]
  refine ⟨_, l.chl + (padP l.pad).length + 8, rfl, rfl, rfl, rfl, ?_, rfl, rfl, by omega⟩
  show pstr (padv _ s.ls) (s.bs.drop _) = _
  rw [pstr_adv, hk 8, hR]
  rw [show id ++ (lowP d.length ++ (d ++ (padP (decide (d.length % 2 = 1)) ++ (encP cs ++ tail)))) = (id ++ lowP d.length) ++ (d ++ (padP (decide (d.length % 2 = 1)) ++ (encP cs ++ tail))) from by simp]
  exact List.drop_left' (by simp [lowP, hid])
/-- There are no more chunks. -/
theorem AtB.done {s : RS} {tail : List Nat} (h : AtB s [] tail) : ∃ K, (stNext s).now = .dead true ∧ (stNext s).out = s.out ∧ (stNext s).kinds = s.kinds ++ [1] ∧ On s (stNext s) K ∧ pstr (stNext s).ls (stNext s).bs = tail := by
  obtain ⟨l, hand, J, hn, hX, hJ, ht⟩ := h.h
  have h0 : (encP []).length = 0 := rfl
  have hnx : nextP l.tot l.chl l.pad (pstr s.ls s.bs) = .err true (l.chl + (padP l.pad).length) := by
    rw [hX, next_skip hJ (by omega), show l.tot - l.chl - (padP l.pad).length = 0 by omega, nxB_eof]
  have e : stNext s = ⟨.dead true, padv (l.chl + (padP l.pad).length) s.ls, s.bs.drop (l.chl + (padP l.pad).length), s.out, s.kinds ++ [kd true]⟩ := by
    unfold stNext
    rw [hn]
    simp only [hnx]
  rw [e]
  refine ⟨_, rfl, rfl, rfl, ⟨rfl, rfl, by rw [hX]; simp; omega⟩, ?_⟩
  show pstr (padv _ s.ls) (s.bs.drop _) = _
  rw [pstr_adv, hX]
  have := drop_skip (P := padP l.pad) (R := encP [] ++ tail) hJ 0
  rw [Nat.add_zero, List.drop_zero] at this
  rw [this]
  rfl
/-- More of the chunk at hand is read: all of it, or so much. -/
theorem take_at {s : RS} {t N most : Nat} {d : List Nat} {pad : Bool} {cs : List (List Nat × List Nat × Nat)} {tail : List Nat} {pre : List Ck} {c : Ck} (hn : s.now = .live ⟨t, d.length, pad⟩ true) (ht : t = d.length + (padP pad).length + (encP cs).length) (hX : pstr s.ls s.bs = d ++ (padP pad ++ (encP cs ++ tail))) (ho : s.out = pre ++ [c]) (hN : 1 ≤ N) (hm : d.length < most) :
    AtB (stTake most N s) cs tail ∧ (stTake most N s).out = pre ++ [⟨c.id, c.len, c.data ++ d.take N, if N ≤ d.length then c.en else 0⟩] ∧ (stTake most N s).kinds = s.kinds ++ [0] ∧ ∃ K, On s (stTake most N s) K := by
  have hav : pstr (⟨t, d.length, pad⟩ :: s.ls) s.bs = d := by
    show (pstr s.ls s.bs).take d.length = d
    rw [hX, List.take_left]
  have hmN : min ((N : Int).toNat) most = min N most := by simp
  have e : stTake most N s = (stGot (min N most) ⟨t, d.length, pad⟩ s).tell 0 := by
    unfold stTake
    rw [hn]
    simp only [hmN]
    rw [if_neg (by omega)]
  have htk : d.take (min N most) = d.take N := by
    rcases Nat.le_total N most with h | h
    · rw [Nat.min_eq_left h]
    · rw [Nat.min_eq_right h, List.take_of_length_le (by omega), List.take_of_length_le (by omega)]
  have hen : (min N most ≤ d.length) = (N ≤ d.length) := by apply propext; omega
  have hout : (stGot (min N most) ⟨t, d.length, pad⟩ s).out = pre ++ [⟨c.id, c.len, c.data ++ d.take N, if N ≤ d.length then c.en else 0⟩] := by
    unfold stGot
    simp only [hav, ho, upL_snoc, htk, hen]
  rw [e]
  refine ⟨⟨⟨(⟨t, d.length, pad⟩ : PL).on (min (min N most) d.length), true, d.drop (min (min N most) d.length), ?_, ?_, ?_, ?_⟩⟩, hout, rfl, min (min N most) d.length, ?_⟩
  · show (stGot _ _ s).now = _
    unfold stGot
    simp only [hav]
  · show pstr (stGot _ _ s).ls (stGot _ _ s).bs = _
    unfold stGot
    simp only [hav]
    rw [pstr_adv, hX]
    simp only [PL.on]
    rw [List.drop_append_of_le_length (by omega)]
  · simp [PL.on]
  · simp only [PL.on, ht]
    omega
  · refine ⟨?_, ?_, by rw [hX]; simp; omega⟩
    · show (stGot _ _ s).ls = _
      unfold stGot
      simp only [hav]
    · show (stGot _ _ s).bs = _
      unfold stGot
      simp only [hav]
/-- A pair of steps for each chunk: to go to it, and to read so much of it. -/
def stepsP (cs : List (List Nat × List Nat × Nat)) : List (Int × Int) := cs.flatMap fun x => [((0 : Int), (0 : Int)), (1, (x.2.2 : Int))]
/-- What is told of each. -/
def toldP (cs : List (List Nat × List Nat × Nat)) : List Ck := cs.map fun x => ⟨x.1, x.2.1.length, x.2.1.take x.2.2, if x.2.2 ≤ x.2.1.length then 2 else 0⟩
theorem run_chunks (most : Nat) (tail : List Nat) : ∀ (cs : List (List Nat × List Nat × Nat)) (s : RS), AtB s cs tail → (∀ x ∈ cs, x.1.length = 4 ∧ x.2.1.length < 4294967296 ∧ x.2.1.length < most ∧ 1 ≤ x.2.2) →
    AtB (rrun most (stepsP cs) s) [] tail ∧ (rrun most (stepsP cs) s).out = s.out ++ toldP cs ∧ (rrun most (stepsP cs) s).kinds = s.kinds ++ List.replicate (2 * cs.length) 0 ∧ ∃ K, On s (rrun most (stepsP cs) s) K
  | [], s, h, _ => ⟨h, by simp [rrun, stepsP, toldP], by simp [rrun, stepsP], 0, On.refl s⟩
  | (id, d, N) :: cs, s, h, hx => by
    obtain ⟨h1, h2, h3, h4⟩ := hx _ (List.mem_cons_self ..)
    obtain ⟨t, K, n1, n2, n3, n4, n5, n6⟩ := h.next h1 h2
    obtain ⟨a1, a2, a3, L, a4⟩ := take_at n1 n2 n5 n3 h4 h3
    have hstep : rrun most (stepsP ((id, d, N) :: cs)) s = rrun most (stepsP cs) (stTake most N (stNext s)) := by
      simp only [rrun, stepsP, List.flatMap_cons, List.foldl_append, List.foldl_cons, List.foldl_nil]
      rfl
    obtain ⟨b1, b2, b3, M, b4⟩ := run_chunks most tail cs _ a1 (fun x hm => hx x (List.mem_cons_of_mem _ hm))
    rw [hstep]
    refine ⟨b1, ?_, ?_, _, (n6.trans a4).trans b4⟩
    · rw [b2, a2]
      simp [toldP]
    · rw [b3, a3, n4]
      simp [List.replicate_succ, Nat.mul_add]
theorem rrun_append (most : Nat) (a b : List (Int × Int)) (s : RS) : rrun most (a ++ b) s = rrun most b (rrun most a s) := by simp [rrun]
/-- A file of chunks. -/
def fileP (form body : List Nat) : List Nat := chunkP [82, 73, 70, 70] (form ++ body)
theorem file_ok {form body more : List Nat} (hf : form.length = 4) (hb : body.length + 4 < 4294967296) : OkHead (fileP form body ++ more) ∧ ((fileP form body ++ more).drop 8).take 4 = form ∧ le4 ((fileP form body ++ more).drop 4) - 4 = body.length ∧ (fileP form body ++ more).drop 12 = body ++ (padP (decide ((4 + body.length) % 2 = 1)) ++ more) := by
  have hl : (form ++ body).length = 4 + body.length := by simp [hf]
  have e : fileP form body ++ more = [82, 73, 70, 70] ++ (lowP (4 + body.length) ++ (form ++ (body ++ (padP (decide ((4 + body.length) % 2 = 1)) ++ more)))) := by
    simp only [fileP, chunkP, hl]
    simp
  have h4 : le4 ((fileP form body ++ more).drop 4) = 4 + body.length := by
    rw [e]
    show le4 (lowP (4 + body.length) ++ _) = _
    exact le4_low _ (by omega) _
  have h8 : (fileP form body ++ more).drop 8 = form ++ (body ++ (padP (decide ((4 + body.length) % 2 = 1)) ++ more)) := by
    rw [e]; rfl
  refine ⟨⟨?_, ?_, by rw [h4]; omega⟩, ?_, by rw [h4]; omega, ?_⟩
  · rw [e]; simp [lowP, hf]
  · rw [e]; exact ⟨rfl, rfl, rfl, rfl⟩
  · rw [h8, ← hf, List.take_left]
  · rw [show (12 : Nat) = 8 + 4 from rfl, ← List.drop_drop, h8, ← hf, List.drop_left]
/-- A file of chunks is read, whatever stands behind it. -/
theorem riff_chunks {form more : List Nat} {cs : List (List Nat × List Nat × Nat)} (last : List (Int × Int)) (hf : form.length = 4) (hb : (encP cs).length + 4 < 4294967296) (hx : ∀ x ∈ cs, x.1.length = 4 ∧ 1 ≤ x.2.2) :
    ∃ s, AtB s [] (padP (decide ((4 + (encP cs).length) % 2 = 1)) ++ more) ∧ s.out = toldP cs ∧ s.kinds = 0 :: List.replicate (2 * cs.length) 0 ∧ s.ls = [] ∧
      riffP (fileP form (encP cs) ++ more) (stepsP cs ++ last) = (form, (rrun ((fileP form (encP cs) ++ more).length + 1) last s).out, (rrun ((fileP form (encP cs) ++ more).length + 1) last s).kinds) := by
  obtain ⟨h1, h2, h3, h4⟩ := file_ok (more := more) hf hb
  have hlen : (encP cs).length ≤ (fileP form (encP cs) ++ more).length := by simp [fileP, chunkP]; omega
  have hxl : ∀ x ∈ cs, x.2.1.length ≤ (encP cs).length := fun x hm => by
    have h1 : chunkP x.1 x.2.1 ∈ cs.map (fun x => chunkP x.1 x.2.1) := List.mem_map_of_mem hm
    have h2 : (chunkP x.1 x.2.1).length ≤ (encP cs).length := by
      unfold encP
      rw [List.flatMap_def]
      exact (List.sublist_flatten_of_mem h1).length_le
    have h3 : x.2.1.length ≤ (chunkP x.1 x.2.1).length := by simp [chunkP]; omega
    omega
  have ha : AtB (rstart (fileP form (encP cs) ++ more)) cs (padP (decide ((4 + (encP cs).length) % 2 = 1)) ++ more) := by
    refine ⟨⟨_, false, [], rfl, ?_, rfl, ?_⟩⟩
    · show (fileP form (encP cs) ++ more).drop 12 = _
      rw [h4]
      rfl
    · show le4 ((fileP form (encP cs) ++ more).drop 4) - 4 = _
      rw [h3]
      simp [padP]
  obtain ⟨b1, b2, b3, K, b4⟩ := run_chunks ((fileP form (encP cs) ++ more).length + 1) _ cs _ ha (fun x hm => ⟨(hx x hm).1, by have := hxl x hm; omega, by have := hxl x hm; omega, (hx x hm).2⟩)
  refine ⟨_, b1, by rw [b2]; rfl, by rw [b3]; rfl, by rw [b4.1]; rfl, ?_⟩
  unfold riffP
  rw [if_pos h1, h2, rrun_append]
/-- A byte more is asked than there is of each chunk, and a chunk more than there are. -/
theorem riff_written {form more : List Nat} {cs : List (List Nat × List Nat × Nat)} (hf : form.length = 4) (hb : (encP cs).length + 4 < 4294967296) (hx : ∀ x ∈ cs, x.1.length = 4 ∧ 1 ≤ x.2.2) :
    riffP (fileP form (encP cs) ++ more) (stepsP cs ++ [(0, 0)]) = (form, toldP cs, 0 :: (List.replicate (2 * cs.length) 0 ++ [1])) := by
  obtain ⟨s, h1, h2, h3, h4, h5⟩ := riff_chunks [(0, 0)] (more := more) hf hb hx
  obtain ⟨K, n1, n2, n3, _⟩ := h1.done
  rw [h5]
  have e : ∀ m, rrun m [(0, 0)] s = stNext s := fun m => rfl
  rw [e, n2, n3, h2, h3]
  rfl
/-- .. and a chunk more, of which so much is asked. -/
theorem riff_behind {form more : List Nat} {cs : List (List Nat × List Nat × Nat)} (N : Int) (hf : form.length = 4) (hb : (encP cs).length + 4 < 4294967296) (hx : ∀ x ∈ cs, x.1.length = 4 ∧ 1 ≤ x.2.2) :
    riffP (fileP form (encP cs) ++ more) (stepsP cs ++ [(0, 0), (1, N)]) = (form, toldP cs, 0 :: (List.replicate (2 * cs.length) 0 ++ [1, 3])) := by
  obtain ⟨s, h1, h2, h3, h4, h5⟩ := riff_chunks [(0, 0), (1, N)] (more := more) hf hb hx
  obtain ⟨K, n1, n2, n3, _⟩ := h1.done
  rw [h5]
  have e : ∀ m, rrun m [(0, 0), (1, N)] s = (stNext s).tell 3 := fun m => by
    show stTake m N (stNext s) = _
    unfold stTake
    rw [n1]
  rw [e]
  simp only [RS.tell, n2, n3, h2, h3]
  simp
end Go.Proofs.YthkpoidnhgcjhaaDoor
