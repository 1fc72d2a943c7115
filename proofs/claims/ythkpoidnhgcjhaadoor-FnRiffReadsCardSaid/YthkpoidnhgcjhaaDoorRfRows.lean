/- Lists of bytes that came in; lists of chunks: how they read; 'zzFits2', 'sum', 'chunks': the walks. -/
import Derived.Test.YthkpoidnhgcjhaaDoorRfLow
import Derived.Test.YthkpoidnhgcjhaaDoorBytes
import Derived.Test.YthkpoidnhgcjhaaDoorStep
namespace Go.Proofs.YthkpoidnhgcjhaaDoor
set_option linter.unusedSimpArgs false
set_option linter.unusedVariables false
open Go.RowKit Plain

/-- The slice at A reads as lists of bytes. -/
def RdR (w : World) (B : Nat) (A : Option Addr) (L : List (List Nat)) : Prop :=
  L ≠ [] → ∃ (b off : Nat) (Af : Nat → Option Addr) (Cf : Nat → Nat), A = some ⟨b, off, none⟩ ∧ b < B ∧ ∀ j, j < L.length → w.cell? ⟨b, off + j, none⟩ = some (.slice (Af j) (L.getD j []).length (Cf j)) ∧ Rd .u8 w B (Af j) (ofNr (L.getD j []))
theorem RdR.upd {S : List Nat} {w w' : World} {B : Nat} {A : Option Addr} {L : List (List Nat)} (h : RdR w B A L) (u : Upd S w w') (hB : B ≤ w.heap.size) (hS : ∀ s, s ∈ S → B ≤ s) : RdR w' B A L := fun hl => by
  obtain ⟨b, off, Af, Cf, h1, h2, h3⟩ := h hl
  exact ⟨b, off, Af, Cf, h1, h2, fun j hj => ⟨(u.cell (p := ⟨b, off + j, none⟩) (by show b < _; omega) (fun hm => by have h9 : B ≤ b := hS _ hm; omega)).trans (h3 j hj).1, (h3 j hj).2.upd u hB hS⟩⟩
theorem RdR.at_ {w : World} {B : Nat} {A : Option Addr} {L : List (List Nat)} {j : Nat} (h : RdR w B A L) (hj : j < L.length) : ∃ (b off : Nat) (Af : Nat → Option Addr) (Cf : Nat → Nat), A = some ⟨b, off, none⟩ ∧ b < B ∧ ∀ j, j < L.length → w.cell? ⟨b, off + j, none⟩ = some (.slice (Af j) (L.getD j []).length (Cf j)) ∧ Rd .u8 w B (Af j) (ofNr (L.getD j [])) := h (by rintro rfl; simp at hj)
/-- The slice at A reads as chunks. -/
def RdC (w : World) (B : Nat) (A : Option Addr) (l : List Ck) : Prop :=
  l ≠ [] → ∃ (b off : Nat) (Af : Nat → Option Addr) (Cf : Nat → Nat), A = some ⟨b, off, none⟩ ∧ b < B ∧ ∀ j, j < l.length → (∀ i, i < 7 → w.cell? ⟨b, off + j * 7 + i, none⟩ = (ckC (l.getD j default) (.slice (Af j) (l.getD j default).data.length (Cf j)))[i]?) ∧ Rd .u8 w B (Af j) (ofNr (l.getD j default).data)
theorem RdC.upd {S : List Nat} {w w' : World} {B : Nat} {A : Option Addr} {L : List Ck} (h : RdC w B A L) (u : Upd S w w') (hB : B ≤ w.heap.size) (hS : ∀ s, s ∈ S → B ≤ s) : RdC w' B A L := fun hl => by
  obtain ⟨b, off, Af, Cf, h1, h2, h3⟩ := h hl
  exact ⟨b, off, Af, Cf, h1, h2, fun j hj => ⟨fun i hi => (u.cell (p := ⟨b, off + j * 7 + i, none⟩) (by show b < _; omega) (fun hm => by have h9 : B ≤ b := hS _ hm; omega)).trans ((h3 j hj).1 i hi), (h3 j hj).2.upd u hB hS⟩⟩
theorem ck_at (V : Nat → Value) : ∀ (l : List Ck) (i j k : Nat), j < l.length → k < 7 → (ckCells V i l)[j * 7 + k]? = (ckC (l.getD j default) (V (i + j)))[k]?
  | [], i, j, k, hj, _ => by simp at hj
  | c :: cs, i, 0, k, hj, hk => by
    show (ckC c (V i) ++ ckCells V (i + 1) cs)[0 * 7 + k]? = _
    rw [List.getElem?_append_left (by simp [ckC]; omega)]
    simp
  | c :: cs, i, j + 1, k, hj, hk => by
    show (ckC c (V i) ++ ckCells V (i + 1) cs)[(j + 1) * 7 + k]? = _
    rw [List.getElem?_append_right (by simp [ckC]; omega)]
    have := ck_at V cs (i + 1) j k (by simpa using hj) hk
    rw [show (j + 1) * 7 + k - (ckC c (V i)).length = j * 7 + k from by simp [ckC]; omega, this]
    simp only [List.getD_cons_succ]
    rw [show i + 1 + j = i + (j + 1) from by omega]
/-- A row of chunks of the call's own reads as chunks. -/
theorem RdC.ofOwn {w : World} {base c : Nat} {A : Option Addr} {l : List Ck} {V : Nat → Value} (h : w.ownsRow base 43 7 (.slice A l.length c) l.length (ckCells V 0 l)) {B : Nat} (hB : w.heap.size ≤ B) (Af : Nat → Option Addr) (Cf : Nat → Nat) (hV : ∀ j, j < l.length → V j = .slice (Af j) (l.getD j default).data.length (Cf j) ∧ Rd .u8 w B (Af j) (ofNr (l.getD j default).data)) : RdC w B A l := fun hl => by
  have hpos : 0 < l.length := by cases l <;> simp_all
  obtain ⟨g, cap, hv, _, hlt⟩ := h.form hpos
  have hA : A = some ⟨g, 0, none⟩ := by injection hv
  subst hA
  refine ⟨g, 0, Af, Cf, rfl, by omega, fun j hj => ⟨fun i hi => ?_, (hV j hj).2⟩⟩
  rw [Nat.zero_add, h.cellAt (j * 7 + i) (by omega), ck_at V l 0 j i hj hi, Nat.zero_add, (hV j hj).1]
theorem Outs.reads {w : World} {base : Nat} {ov : Value} {l : List Ck} (h : Outs w base ov l) : ∃ A c, ov = .slice A l.length c ∧ RdC w w.heap.size A l := by
  obtain ⟨V, h1, h2, _⟩ := h.h
  obtain ⟨A, c, rfl⟩ := own_shape h1
  refine ⟨A, c, rfl, ?_⟩
  have hf : ∀ j, ∃ p : Option Addr × Nat, j < l.length → V j = .slice p.1 (l.getD j default).data.length p.2 := fun j => by
    by_cases hj : j < l.length
    · obtain ⟨a, c, e⟩ := own_shape (h2 j hj)
      exact ⟨(a, c), fun _ => e⟩
    · exact ⟨(none, 0), fun h => absurd h hj⟩
  refine RdC.ofOwn h1 (Nat.le_refl _) (fun j => (hf j).choose.1) (fun j => (hf j).choose.2) (fun j hj => ⟨(hf j).choose_spec hj, ?_⟩)
  have h3 := h2 j hj
  rw [(hf j).choose_spec hj] at h3
  exact Rd.ofOwn h3
def fits2 (L : List (List Nat)) : Bool := decide ((L.length : Int) ≤ 2147483647 ∧ ∀ l ∈ L, (l.length : Int) ≤ 2147483647)
set_option maxRecDepth 100000 in
set_option maxHeartbeats 2000000 in
theorem fits_any (A : Option Addr) (c B : Nat) (L : List (List Nat)) (w : World) (hr : RdR w B A L) (hl : (L.length : Int) ≤ 9223372036854775807) (hll : ∀ l ∈ L, (l.length : Int) ≤ 9223372036854775807) : Calls Tryd.prog 7 #[.slice A L.length c] w fun e w' => e = .returned (.bool (fits2 L)) ∧ w = w' := by
  by_cases h0 : (L.length : Int) ≤ 2147483647
  · have h0' : ¬ (2147483647 : Int) < (L.length : Int) := by omega
    replace hll := hide hll
    go_enter Tryd.func7, Tryd.ntmps7
    go_wp2
    go_loopg [10] L.length (fun k v10 wr => ∃ j : Nat, k + j = L.length ∧ v10 = .int .i64 (j : Nat) ∧ (∀ i, i < j → ((L.getD i []).length : Int) ≤ 2147483647) ∧ wr = w)
    case atStart => exact ⟨0, by simp, rfl, fun i h => by omega, rfl⟩
    case round =>
      obtain ⟨j, hj, rfl, hd, rfl⟩ := hrel
      cases gk with
      | zero =>
        have hj' : j = L.length := by omega
        subst hj'
        have hf : fits2 L = true := by
          refine decide_eq_true ⟨h0, fun l hm => ?_⟩
          obtain ⟨i, hi, rfl⟩ := List.mem_iff_getElem.1 hm
          have := hd i hi
          simpa [hi] using this
        replace hd := hide hd
        go_wp2
        go_ret
        rw [hf]
        exact ⟨rfl, rfl⟩
      | succ k =>
        have hjl : j < L.length := by omega
        obtain ⟨b, off, Af, Cf, rfl, hb, hc⟩ := hr.at_ hjl
        have h1 := (hc j hjl).1
        have hm : L.getD j [] ∈ L := by simp [hjl]
        have hI := hll.out _ hm
        clear hc hr
        replace hd := hide hd
        generalize hgl : L.getD j [] = lj at *
        replace hgl := hide hgl
        replace hm := hide hm
        by_cases hs : (lj.length : Int) ≤ 2147483647
        · have hs' : ¬ (2147483647 : Int) < (lj.length : Int) := by omega
          go_wp2
          go_roundg k
          case measure => omega
          case rel => exact ⟨j + 1, by omega, by go_num, fun i hi => by
            rcases (by omega : i < j ∨ i = j) with h | h
            · exact hd.out i h
            · subst h; rw [hgl.out]; exact hs, rfl⟩
        · have hs' : (2147483647 : Int) < (lj.length : Int) := by omega
          have hf : fits2 L = false := decide_eq_false (fun h => hs (h.2 _ hm.out))
          go_wp2
          go_ret
          exact ⟨rfl, rfl⟩
  · have h0' : (2147483647 : Int) < (L.length : Int) := by omega
    have hf : fits2 L = false := decide_eq_false (fun h => h0 h.1)
    rw [hf]
    go_enter Tryd.func7, Tryd.ntmps7
    go_wp2
    go_ret
    exact ⟨rfl, rfl⟩
def tot (L : List (List Nat)) : Nat := (L.map List.length).sum
theorem tot_take (L : List (List Nat)) (j : Nat) (hj : j < L.length) : tot (L.take (j + 1)) = tot (L.take j) + (L.getD j []).length := by
  unfold tot
  rw [List.take_succ_eq_append_getElem hj, List.map_append, List.sum_append]
  simp [hj]
set_option maxRecDepth 100000 in
set_option maxHeartbeats 2000000 in
theorem sum_any (A : Option Addr) (c B : Nat) (L : List (List Nat)) (w : World) (hr : RdR w B A L) (hl : (L.length : Int) ≤ 2147483647) (hll : ∀ l ∈ L, (l.length : Int) ≤ 2147483647) : Calls Tryd.prog 8 #[.slice A L.length c] w fun e w' => ∃ n : Int, e = .returned (.int .i64 n) ∧ (n ≤ 1048576 → (L.length : Int) + tot L ≤ 1048576) ∧ (0 ≤ n ∧ n ≤ 2149580801) ∧ w = w' := by
  replace hll := hide hll
  go_enter Tryd.func8, Tryd.ntmps8
  go_wp2
  go_loopg [3, 4] L.length (fun k v3 v4 wr => ∃ (j : Nat) (n : Int), k + j = L.length ∧ v4 = .int .i64 (j : Nat) ∧ v3 = .int .i64 n ∧ 0 ≤ n ∧ n ≤ 2149580801 ∧ (n ≤ 1048576 → n = (L.length : Int) + tot (L.take j)) ∧ wr = w)
  case atStart => exact ⟨0, L.length, by simp, rfl, rfl, by omega, by omega, fun _ => by simp [tot], rfl⟩
  case round =>
    obtain ⟨j, n, hj, rfl, rfl, hn0, hn1, hd, rfl⟩ := hrel
    cases gk with
    | zero =>
      have hj' : j = L.length := by omega
      subst hj'
      rw [List.take_length] at hd
      replace hd := hide hd
      go_wp2
      go_ret
      exact ⟨_, rfl, fun h => by have := hd.out h; omega, ⟨hn0, hn1⟩, rfl⟩
    | succ k =>
      have hjl : j < L.length := by omega
      have hjI : (j : Int) < (L.length : Int) := by omega
      obtain ⟨b, off, Af, Cf, rfl, hb, hc⟩ := hr.at_ hjl
      have h1 := (hc j hjl).1
      have hm : L.getD j [] ∈ L := by simp [hjl]
      have hI := hll.out _ hm
      have ht := tot_take L j hjl
      clear hc hr hm
      replace hd := hide hd
      generalize L.getD j [] = lj at *
      replace ht := hide ht
      by_cases hq : n ≤ 1048576
      · have hq' : ¬ (1048576 : Int) < n := by omega
        by_cases hs : (lj.length : Int) ≤ 1048577
        · have hs' : ¬ (1048577 : Int) < (lj.length : Int) := by omega
          go_wp2
          go_roundg k
          case measure => omega
          case rel => exact ⟨j + 1, n + lj.length, by omega, by go_num, rfl, by omega, by omega, fun h => by have h2 := hd.out (by omega); have h3 := ht.out; omega, rfl⟩
        · have hs' : (1048577 : Int) < (lj.length : Int) := by omega
          go_wp2
          go_roundg k
          case measure => omega
          case rel => exact ⟨j + 1, n + 1048577, by omega, by go_num, rfl, by omega, by omega, fun h => by omega, rfl⟩
      · have hq' : (1048576 : Int) < n := by omega
        go_wp2
        go_ret
        exact ⟨_, rfl, fun h => by omega, ⟨hn0, hn1⟩, rfl⟩
end Go.Proofs.YthkpoidnhgcjhaaDoor
