/- A list of chunks within a file, and a chunk behind it: what steps tell, plainly. No walk. -/
import Derived.Test.YthkpoidnhgcjhaaDoorRfPlain
namespace Go.Proofs.YthkpoidnhgcjhaaDoor
set_option linter.unusedSimpArgs false
set_option linter.unusedVariables false
open Go.RowKit Plain

/-- The steps of the law. -/
def listSteps (cs : List (List Nat × List Nat × Nat)) : List (Int × Int) := [(0, 0), (2, 0)] ++ (stepsP cs ++ [(0, 0), (3, 0), (0, 0), (0, 0)])
def listFile (kind : List Nat) (cs : List (List Nat × List Nat × Nat)) : List Nat := fileP [116, 101, 115, 116] (chunkP [76, 73, 83, 84] (kind ++ encP cs) ++ chunkP [108, 97, 115, 116] [])
theorem rstep0 (m : Nat) (n : Int) (s : RS) : rstep m 0 n s = stNext s := by unfold rstep; rw [if_pos rfl]
theorem rstep2 (m : Nat) (n : Int) (s : RS) : rstep m 2 n s = stList s := by unfold rstep; rw [if_neg (by decide), if_neg (by decide), if_pos rfl]
theorem rstep3 (m : Nat) (n : Int) (s : RS) : rstep m 3 n s = stPop s := by unfold rstep; rw [if_neg (by decide), if_neg (by decide), if_neg (by decide), if_pos rfl]
theorem rrun_cons (m : Nat) (a b : Int) (l : List (Int × Int)) (s : RS) : rrun m ((a, b) :: l) s = rrun m l (rstep m a b s) := rfl
theorem pstr_cons (l : PL) (ls : List PL) (bs : List Nat) : pstr (l :: ls) bs = (pstr ls bs).take l.chl := rfl
theorem pstr_nil (bs : List Nat) : pstr [] bs = bs := rfl
theorem rrun_nil (m : Nat) (s : RS) : rrun m [] s = s := rfl
theorem list_at {s : RS} {l : PL} {pre : List Ck} {c : Ck} (hn : s.now = .live l true) (ho : s.out = pre ++ [c]) (h4 : ¬ c.len < 4) (hv : ¬ (pstr (l :: s.ls) s.bs).length < 4) : stList s = ⟨.live ⟨c.len - 4, 0, false⟩ false, l.on 4 :: padv 4 s.ls, s.bs.drop 4, s.out, s.kinds ++ [0]⟩ := by
  have hl : (lastC s.out).len = c.len := by rw [ho, lastC_snoc]
  unfold stList
  rw [hn]
  simp only [hl, h4, hv, if_false]
theorem pop_at {s : RS} {l : PL} {r : List PL} (h : s.ls = l :: r) : stPop s = ⟨.live l false, r, s.bs, s.out, s.kinds ++ [0]⟩ := by
  unfold stPop
  rw [h]
/-- Within a list: where the list's chunk d is at hand, its type is read off. -/
theorem AtB.enter {s : RS} {t : Nat} {d : List Nat} {pad : Bool} {R : List Nat} {cs : List (List Nat × List Nat × Nat)} {pre : List Ck} {c : Ck} (hn : s.now = .live ⟨t, d.length, pad⟩ true) (ho : s.out = pre ++ [c]) (hc : c.len = d.length) (hX : pstr s.ls s.bs = d ++ R) (hd : 4 ≤ d.length) (he : d.drop 4 = encP cs) :
    AtB (stList s) cs [] ∧ (stList s).ls = (⟨t, d.length, pad⟩ : PL).on 4 :: padv 4 s.ls ∧ (stList s).bs = s.bs.drop 4 ∧ (stList s).out = s.out ∧ (stList s).kinds = s.kinds ++ [0] ∧ pstr (stList s).ls (stList s).bs = encP cs := by
  have hav : pstr (⟨t, d.length, pad⟩ :: s.ls) s.bs = d := by
    rw [pstr_cons, hX]
    exact List.take_left
  have e := list_at hn ho (by omega) (by rw [hav]; omega)
  have x2 : pstr ((⟨t, d.length, pad⟩ : PL).on 4 :: padv 4 s.ls) (s.bs.drop 4) = encP cs := by
    have h1 := pstr_adv 4 (⟨t, d.length, pad⟩ :: s.ls) s.bs
    rw [hav, he] at h1
    exact h1
  have hel : (encP cs).length = d.length - 4 := by rw [← he, List.length_drop]
  rw [e]
  refine ⟨⟨⟨⟨c.len - 4, 0, false⟩, false, [], rfl, ?_, rfl, ?_⟩⟩, rfl, rfl, rfl, rfl, x2⟩
  · simp only [x2, padP, List.nil_append, List.append_nil, Bool.false_eq_true, if_false]
  · simp only [padP, Bool.false_eq_true, if_false, List.length_nil]
    omega
/-- .. and when it is left, all of what is behind what was read of it is left to be gone over. -/
theorem AtB.leave {s1 s : RS} {t KK : Nat} {d : List Nat} {pad : Bool} {cs : List (List Nat × List Nat × Nat)} {T : List Nat} (hl : s.ls = [((⟨t, d.length, pad⟩ : PL).on 4).on KK]) (hb : s.bs = s1.bs.drop (4 + KK)) (hX : s1.bs = d ++ (padP pad ++ (encP cs ++ T))) (hk : 4 + KK ≤ d.length) (ht : t = d.length + (padP pad).length + (encP cs).length) :
    AtB (stPop s) cs T ∧ (stPop s).out = s.out ∧ (stPop s).kinds = s.kinds ++ [0] := by
  rw [pop_at hl]
  refine ⟨⟨⟨_, false, d.drop (4 + KK), rfl, ?_, ?_, ?_⟩⟩, rfl, rfl⟩
  · show pstr [] s.bs = _
    rw [pstr_nil, hb, hX, List.drop_append_of_le_length hk]
    rfl
  · simp only [PL.on, List.length_drop]
    omega
  · simp only [PL.on, ht]
    omega
theorem riff_lists {kind : List Nat} {cs : List (List Nat × List Nat × Nat)} (hk : kind.length = 4) (hb : (encP cs).length ≤ 2000000000) (hx : ∀ x ∈ cs, x.1.length = 4 ∧ 1 ≤ x.2.2) :
    (riffP (listFile kind cs) (listSteps cs)).2 = (⟨[76, 73, 83, 84], 4 + (encP cs).length, [], 2⟩ :: (toldP cs ++ [⟨[108, 97, 115, 116], 0, [], 2⟩]), [0, 0, 0] ++ (List.replicate (2 * cs.length) 0 ++ [1, 0, 0, 1])) := by
  obtain ⟨d, hd⟩ : ∃ d, d = kind ++ encP cs := ⟨_, rfl⟩
  have hdl : d.length = 4 + (encP cs).length := by rw [hd]; simp [hk]
  have hd4 : d.drop 4 = encP cs := by rw [hd, ← hk, List.drop_left]
  obtain ⟨C2, hC2⟩ : ∃ C2 : List (List Nat × List Nat × Nat), C2 = [([76, 73, 83, 84], d, 1), ([108, 97, 115, 116], [], 1)] := ⟨_, rfl⟩
  have hfile : listFile kind cs = fileP [116, 101, 115, 116] (encP C2) := by rw [hC2]; simp [listFile, encP, hd]
  have hpp := padP_len (decide (d.length % 2 = 1))
  have hel : (encP C2).length ≤ d.length + 20 := by
    have h1 := chunk_len [76, 73, 83, 84] d rfl
    have h2 : (chunkP [108, 97, 115, 116] []).length = 8 := rfl
    rw [hC2]
    simp only [encP, List.flatMap_cons, List.flatMap_nil, List.length_append, List.append_nil, h1, h2]
    split at hpp <;> omega
  obtain ⟨f1, f2, f3, f4⟩ := file_ok (form := [116, 101, 115, 116]) (body := encP C2) (more := []) rfl (by omega)
  rw [List.append_nil] at f1 f2 f3 f4
  generalize hT : padP (decide ((4 + (encP C2).length) % 2 = 1)) ++ [] = T at f4
  have hflen : (fileP [116, 101, 115, 116] (encP C2)).length = (encP C2).length + T.length + 12 := by
    have h1 := congrArg List.length f4
    rw [List.length_drop, List.length_append] at h1
    have h2 := f1.1
    omega
  have ha : AtB (rstart (fileP [116, 101, 115, 116] (encP C2))) C2 T := by
    refine ⟨⟨_, false, [], rfl, ?_, rfl, ?_⟩⟩
    · show (fileP [116, 101, 115, 116] (encP C2)).drop 12 = _
      rw [f4]
      rfl
    · show le4 ((fileP [116, 101, 115, 116] (encP C2)).drop 4) - 4 = _
      rw [f3]
      simp [padP]
  generalize hS0 : rstart (fileP [116, 101, 115, 116] (encP C2)) = s0 at ha
  have o0 : s0.out = [] := by rw [← hS0]; rfl
  have k0 : s0.kinds = [0] := by rw [← hS0]; rfl
  have l0 : s0.ls = [] := by rw [← hS0]; rfl
  rw [hC2] at ha
  obtain ⟨t, K1, n1, n2, n3, n4, n5, n6⟩ := ha.next rfl (by omega)
  generalize hS1 : stNext s0 = s1 at n1 n3 n4 n5 n6
  have l1 : s1.ls = [] := by rw [n6.1, l0]; rfl
  rw [o0] at n3
  obtain ⟨a2, ls2, bs2, o2, kk2, x2⟩ := AtB.enter (cs := cs) n1 n3 rfl n5 (by omega) hd4
  have x1 : s1.bs = d ++ (padP (decide (d.length % 2 = 1)) ++ (encP [([108, 97, 115, 116], [], 1)] ++ T)) := by rw [l1, pstr_nil] at n5; exact n5
  rw [l1] at ls2
  generalize hS2 : stList s1 = s2 at a2 ls2 bs2 o2 kk2 x2
  obtain ⟨b1, b2, b3, K2, b4⟩ := run_chunks ((fileP [116, 101, 115, 116] (encP C2)).length + 1) [] cs s2 a2 (fun x hm => by
    have h1 : chunkP x.1 x.2.1 ∈ cs.map (fun x => chunkP x.1 x.2.1) := List.mem_map_of_mem hm
    have h2 : (chunkP x.1 x.2.1).length ≤ (encP cs).length := by
      unfold encP
      rw [List.flatMap_def]
      exact (List.sublist_flatten_of_mem h1).length_le
    have h3 : x.2.1.length ≤ (chunkP x.1 x.2.1).length := by simp [chunkP]; omega
    have h5 : d.length ≤ (encP C2).length := by
      have h6 := chunk_len [76, 73, 83, 84] d rfl
      rw [hC2]
      simp only [encP, List.flatMap_cons, List.length_append, h6]
      omega
    exact ⟨(hx x hm).1, by omega, by omega, (hx x hm).2⟩)
  generalize hS3 : rrun ((fileP [116, 101, 115, 116] (encP C2)).length + 1) (stepsP cs) s2 = s3 at b1 b2 b3 b4
  obtain ⟨K3, c1, c2, c3, c4, _⟩ := b1.done
  generalize hS4 : stNext s3 = s4 at c1 c2 c3 c4
  obtain ⟨g1, g2, g3⟩ := b4.trans c4
  generalize K2 + K3 = KK at g1 g2 g3
  rw [x2] at g3
  rw [ls2] at g1
  rw [bs2, List.drop_drop] at g2
  obtain ⟨a5, o5, kk5⟩ := AtB.leave (s1 := s1) (T := T) (cs := [([108, 97, 115, 116], [], 1)]) g1 g2 x1 (by omega) n2
  generalize hS5 : stPop s4 = s5 at a5 o5 kk5
  obtain ⟨t6, K6, d1, d2, d3, d4, d5, d6⟩ := a5.next rfl (by decide)
  generalize hS6 : stNext s5 = s6 at d1 d3 d4 d5 d6
  have a6 : AtB s6 [] T := ⟨⟨_, true, [], d1, (by rw [d5]), rfl, (by rw [d2])⟩⟩
  obtain ⟨K7, _, q2, q3, _⟩ := a6.done
  have hrun : rrun ((fileP [116, 101, 115, 116] (encP C2)).length + 1) (listSteps cs) s0 = stNext s6 := by
    unfold listSteps
    rw [rrun_append, rrun_cons, rrun_cons, rrun_nil, rstep0, rstep2, hS1, hS2, rrun_append, hS3, rrun_cons, rrun_cons, rrun_cons, rrun_cons, rrun_nil, rstep0, rstep3, rstep0, rstep0, hS4, hS5, hS6]
  unfold riffP
  rw [hfile, if_pos f1, hS0, hrun]
  simp only
  rw [q2, q3, d3, d4, o5, kk5, c2, c3, b2, b3, o2, kk2, n3, n4, k0, hdl]
  simp
end Go.Proofs.YthkpoidnhgcjhaaDoor
