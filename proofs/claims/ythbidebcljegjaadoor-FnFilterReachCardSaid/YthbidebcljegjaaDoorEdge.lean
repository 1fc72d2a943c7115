/- 'isEdge', 'isApart': which edges a law speaks of. The walks. -/
import Derived.Test.YthbidebcljegjaaDoorTruths
import Derived.Outline
import Derived.Deep.LoopGhost
namespace Go.Proofs.YthbidebcljegjaaDoor
set_option linter.unusedSimpArgs false
set_option linter.unusedVariables false
open Go.RowKit

theorem mul_bd (a x : Int) (h1 : -16 ≤ a) (h2 : a ≤ 16) (h3 : -16384 ≤ x) (h4 : x ≤ 16384) : -262144 ≤ a * x ∧ a * x ≤ 262144 := by
  rcases Int.le_total 0 a with h | h
  · have e1 := Int.mul_le_mul_of_nonneg_left h4 h
    have e2 := Int.mul_le_mul_of_nonneg_left h3 h
    constructor <;> omega
  · have e1 := Int.mul_le_mul_of_nonneg_left h4 (show 0 ≤ -a by omega)
    have e2 := Int.mul_le_mul_of_nonneg_left h3 (show 0 ≤ -a by omega)
    rw [show -a * x = -(a * x) by rw [Int.neg_mul]] at e1 e2
    constructor <;> omega

def placeOk (len : Nat) (c st s : Int) (i : Nat) (j : Int) : Bool := decide (0 ≤ c + (i : Int) * st + j * s ∧ c + (i : Int) * st + j * s < (len : Int))
def lineOk (len side : Nat) (c st s : Int) (i m : Nat) : Bool := (List.range m).all fun j => placeOk len c st s i ((j : Int) - (side : Int))
def linesOk (len side : Nat) (c st s : Int) (n : Nat) : Bool := (List.range n).all fun i => lineOk len side c st s i (2 * side)
def edgeB (len n side : Nat) (c st s : Int) : Bool := decide ((len : Int) ≤ 16384) && within (-16384) 16384 [c, st, s] && linesOk len side c st s n
theorem lineOk_succ (len side : Nat) (c st s : Int) (i m : Nat) : lineOk len side c st s i (m + 1) = (lineOk len side c st s i m && placeOk len c st s i ((m : Int) - (side : Int))) := by
  simp [lineOk, List.range_succ]
theorem linesOk_succ (len side : Nat) (c st s : Int) (n : Nat) : linesOk len side c st s (n + 1) = (linesOk len side c st s n && lineOk len side c st s n (2 * side)) := by
  simp [linesOk, List.range_succ]
theorem lineOk_no {len side : Nat} {c st s : Int} {i m : Nat} (hm : m < 2 * side) (h : placeOk len c st s i ((m : Int) - (side : Int)) = false) : lineOk len side c st s i (2 * side) = false := by
  unfold lineOk
  rw [List.all_eq_false]
  exact ⟨m, by simpa using hm, by simp [h]⟩
theorem linesOk_no {len side : Nat} {c st s : Int} {n i : Nat} (hi : i < n) (h : lineOk len side c st s i (2 * side) = false) : linesOk len side c st s n = false := by
  unfold linesOk
  rw [List.all_eq_false]
  exact ⟨i, by simpa using hi, by simp [h]⟩
theorem linesOk_at {len side : Nat} {c st s : Int} {n : Nat} (h : linesOk len side c st s n = true) (i : Nat) (hi : i < n) (j : Int) (h1 : -(side : Int) ≤ j) (h2 : j < (side : Int)) :
    0 ≤ c + (i : Int) * st + j * s ∧ c + (i : Int) * st + j * s < (len : Int) := by
  unfold linesOk at h
  have h3 := (List.all_eq_true.1 h) i (by simpa using hi)
  unfold lineOk at h3
  have h4 := (List.all_eq_true.1 h3) (j + side).toNat (by simp; omega)
  unfold placeOk at h4
  rw [show (((j + (side : Int)).toNat : Nat) : Int) - (side : Int) = j by omega] at h4
  exact of_decide_eq_true h4

theorem ret_b {a b : Bool} (h : a = b) : Ending.returned (.bool a) = .returned (.bool b) := by rw [h]

theorem three_cells (a b c : Int) (j : Nat) (hj : j < ([a, b, c] : List Int).length) : (#[Value.int .i64 a, Value.int .i64 b, Value.int .i64 c] : Array Value)[j]? = some (.int .i64 (([a, b, c] : List Int).getD j 0)) := by
  rcases j with _ | _ | _ | j
  · rfl
  · rfl
  · rfl
  · simp at hj; omega

set_option maxHeartbeats 4000000 in
theorem isEdge_any (A : Option Addr) (cap len n side : Nat) (c st s : Int) (w : World) (hlen : (len : Int) ≤ 9223372036854775807) (hn : n ≤ 16) (hside : side ≤ 8) :
    Calls Tryd.prog 20 #[.slice A len cap, .int .i64 n, .int .i64 side, .int .i64 c, .int .i64 st, .int .i64 s] w fun e w' => e = .returned (.bool (edgeB len n side c st s)) ∧ Below w.heap.size w w' := by
  by_cases h1 : (len : Int) ≤ 16384
  · have cIn := inRange_any (some ⟨w.heap.size, 0, none⟩) 3 (w.heap.size + 1) [c, st, s] (-16384) 16384 (w.alloc (.cells #[.int .i64 c, .int .i64 st, .int .i64 s] 3)) (by simp)
      (Rd.ofCells (by omega) (by intro j hj; rw [Nat.zero_add, World.cell?_alloc_new]; exact three_cells c st s j hj))
    cases hw : within (-16384) 16384 [c, st, s]
    · have hE : edgeB len n side c st s = false := by simp [edgeB, hw]
      rw [hw] at cIn
      replace hE := hide hE
      go_enter Tryd.func20, Tryd.ntmps20
      go_wp2_with (first | (go_at_call 17; refine cIn.mono ?_; rintro e w' ⟨rfl, rfl⟩) | go_in)
      go_ret
      exact ⟨ret_b hE.out.symm, (Below.refl _ _).alloc (Nat.le_refl _) _⟩
    · have hE : edgeB len n side c st s = linesOk len side c st s n := by simp [edgeB, hw, h1]
      rw [hE]
      have hb := hw
      simp [within] at hb
      obtain ⟨⟨c1, c2⟩, ⟨d1, d2⟩, e1, e2⟩ := hb
      rw [hw] at cIn
      replace hE := hide hE
      replace hw := hide hw
      go_enter Tryd.func20, Tryd.ntmps20
      go_wp2_with (first | (go_at_call 17; refine cIn.mono ?_; rintro e w1 ⟨rfl, hw1⟩; subst hw1) | go_in)
      go_loopg [13] n (fun k i wr => ∃ m : Nat, k + m = n ∧ i = .int .i64 m ∧ linesOk len side c st s m = true ∧ wr = w.alloc (.cells #[.int .i64 c, .int .i64 st, .int .i64 s] 3))
      case atStart => exact ⟨0, rfl, rfl, rfl, rfl⟩
      case round =>
        obtain ⟨i, hi, rfl, hok, rfl⟩ := hrel
        cases gk with
        | zero =>
          have hi' : i = n := by omega
          subst hi'
          replace hok := hide hok
          go_wp2
          go_ret
          exact ⟨ret_b hok.out.symm, (Below.refl _ _).alloc (Nat.le_refl _) _⟩
        | succ k =>
          have hlt : (i : Int) < (n : Int) := by omega
          have hin : i < n := by omega
          have hii : (i : Int) ≤ 16 := by omega
          obtain ⟨p1, p2⟩ := mul_bd i st (by omega) hii d1 d2
          replace hok := hide hok
          go_wp2
          go_loopg [14] (2 * side) (fun k j wr => ∃ m : Nat, k + m = 2 * side ∧ j = .int .i64 ((m : Int) - (side : Int)) ∧ lineOk len side c st s i m = true ∧ wr = w.alloc (.cells #[.int .i64 c, .int .i64 st, .int .i64 s] 3))
          case atStart => exact ⟨0, by omega, by simp, rfl, rfl⟩
          case round =>
            obtain ⟨m, hm, rfl, hok2, rfl⟩ := hrel
            cases gk with
            | zero =>
              have hm' : m = 2 * side := by omega
              subst hm'
              have hs2 := linesOk_succ len side c st s i
              rw [hok.out, hok2] at hs2
              have hs3 := hide hs2
              clear hs2
              have e3 : ((2 * side : Nat) : Int) - (side : Int) = (side : Int) := by omega
              rw [e3]
              replace hok2 := hide hok2
              clear e3
              go_wp2
              go_roundg k
              case measure => omega
              case rel => exact ⟨i + 1, by omega, by go_num, by simpa using hs3.out, rfl⟩
            | succ k2 =>
              obtain ⟨q1, q2⟩ := mul_bd ((m : Int) - (side : Int)) s (by omega) (by omega) e1 e2
              have hmi : (m : Int) - (side : Int) < (side : Int) := by omega
              have hms : m < 2 * side := by omega
              have hsd : (side : Int) ≤ 8 := by omega
              have hm0 : (0 : Int) ≤ (m : Int) - (side : Int) + 8 := by omega
              have hsucc := lineOk_succ len side c st s i m
              have hno := @lineOk_no len side c st s i m hms
              have hnos := @linesOk_no len side c st s n i hin
              rw [hok2] at hsucc
              unfold placeOk at hsucc hno
              have hj1 : ((m + 1 : Nat) : Int) - (side : Int) = (m : Int) - (side : Int) + 1 := by omega
              replace hok2 := hide hok2
              replace hj1 := hide hj1
              generalize hJ : (m : Int) - (side : Int) = J at *
              replace hJ := hide hJ
              by_cases g0 : c + (i : Int) * st + J * s < 0
              · have hno2 := hnos (hno (by simp; omega))
                replace hno2 := hide hno2
                replace hsucc := hide hsucc
                clear hno hnos
                go_wp2
                go_ret
                exact ⟨ret_b hno2.out.symm, (Below.refl _ _).alloc (Nat.le_refl _) _⟩
              · by_cases g1 : (len : Int) ≤ c + (i : Int) * st + J * s
                · have hno2 := hnos (hno (by simp; omega))
                  replace hno2 := hide hno2
                  replace hsucc := hide hsucc
                  clear hno hnos
                  go_wp2
                  go_ret
                  exact ⟨ret_b hno2.out.symm, (Below.refl _ _).alloc (Nat.le_refl _) _⟩
                · have hs2 : lineOk len side c st s i (m + 1) = true := by rw [hsucc]; simp; omega
                  replace hs2 := hide hs2
                  clear hno hnos hsucc
                  go_wp2
                  go_roundg k2
                  case measure => omega
                  case rel => exact ⟨m + 1, by omega, by rw [hj1.out], hs2.out, rfl⟩
  · have hE : edgeB len n side c st s = false := by simp [edgeB, h1]
    replace hE := hide hE
    go_enter Tryd.func20, Tryd.ntmps20
    go_wp2
    go_ret
    exact ⟨ret_b hE.out.symm, Below.refl _ _⟩

def meets (st s : Int) (i j : Nat) : Bool := decide ((0 < i ∨ 0 < j) ∧ ((i : Int) * st = (j : Int) * s ∨ (i : Int) * st = -(j : Int) * s))
def apartRow (side : Nat) (st s : Int) (i m : Nat) : Bool := (List.range m).all fun j => !meets st s i j
def apartB (n side : Nat) (st s : Int) : Bool := (List.range n).all fun i => apartRow side st s i (2 * side)
theorem apartRow_succ (side : Nat) (st s : Int) (i m : Nat) : apartRow side st s i (m + 1) = (apartRow side st s i m && !meets st s i m) := by simp [apartRow, List.range_succ]
theorem apartB_succ (n side : Nat) (st s : Int) : apartB (n + 1) side st s = (apartB n side st s && apartRow side st s n (2 * side)) := by simp [apartB, List.range_succ]
theorem apart_no {n side : Nat} {st s : Int} {i m : Nat} (hi : i < n) (hm : m < 2 * side) (h : meets st s i m = true) : apartB n side st s = false := by
  unfold apartB
  rw [List.all_eq_false]
  refine ⟨i, by simpa using hi, ?_⟩
  have : apartRow side st s i (2 * side) = false := by
    unfold apartRow
    rw [List.all_eq_false]
    exact ⟨m, by simpa using hm, by simp [h]⟩
  simp [this]
theorem apart_at {n side : Nat} {st s : Int} (h : apartB n side st s = true) (i j : Nat) (hi : i < n) (hj : j < 2 * side) (h0 : 0 < i ∨ 0 < j) : (i : Int) * st ≠ (j : Int) * s ∧ (i : Int) * st ≠ -(j : Int) * s := by
  unfold apartB at h
  have h3 := (List.all_eq_true.1 h) i (by simpa using hi)
  unfold apartRow at h3
  have h4 := (List.all_eq_true.1 h3) j (by simpa using hj)
  simp [meets, h0] at h4
  exact ⟨h4.1, by simpa using h4.2⟩

set_option maxHeartbeats 4000000 in
theorem isApart_any (n side : Nat) (st s : Int) (w : World) (hn : n ≤ 16) (hside : side ≤ 8) (d1 : -16384 ≤ st) (d2 : st ≤ 16384) (e1 : -16384 ≤ s) (e2 : s ≤ 16384) :
    Calls Tryd.prog 21 #[.int .i64 n, .int .i64 side, .int .i64 st, .int .i64 s] w fun e w' => e = .returned (.bool (apartB n side st s)) ∧ w = w' := by
  go_enter Tryd.func21, Tryd.ntmps21
  go_wp2
  go_loopg [9] n (fun k i wr => ∃ m : Nat, k + m = n ∧ i = .int .i64 m ∧ apartB m side st s = true ∧ w = wr)
  case atStart => exact ⟨0, rfl, rfl, rfl, rfl⟩
  case round =>
    obtain ⟨i, hi, rfl, hok, rfl⟩ := hrel
    cases gk with
    | zero =>
      have hi' : i = n := by omega
      subst hi'
      replace hok := hide hok
      go_wp2
      go_ret
      exact ⟨ret_b hok.out.symm, rfl⟩
    | succ k =>
      have hlt : (i : Int) < (n : Int) := by omega
      have hin : i < n := by omega
      have hii : (i : Int) ≤ 16 := by omega
      obtain ⟨p1, p2⟩ := mul_bd i st (by omega) hii d1 d2
      replace hok := hide hok
      go_wp2
      go_loopg [10] (2 * side) (fun k j wr => ∃ m : Nat, k + m = 2 * side ∧ j = .int .i64 m ∧ apartRow side st s i m = true ∧ w = wr)
      case atStart => exact ⟨0, by omega, rfl, rfl, rfl⟩
      case round =>
        obtain ⟨m, hm, rfl, hok2, rfl⟩ := hrel
        cases gk with
        | zero =>
          have hm' : m = 2 * side := by omega
          subst hm'
          have hs2 := apartB_succ i side st s
          rw [hok.out, hok2] at hs2
          have hs3 := hide hs2
          clear hs2
          have e3 : ((2 * side : Nat) : Int) = 2 * (side : Int) := by omega
          rw [e3]
          replace hok2 := hide hok2
          clear e3
          go_wp2
          go_roundg k
          case measure => omega
          case rel => exact ⟨i + 1, by omega, by go_num, by simpa using hs3.out, rfl⟩
        | succ k2 =>
          obtain ⟨q1, q2⟩ := mul_bd (m : Int) s (by omega) (by omega) e1 e2
          obtain ⟨q3, q4⟩ := mul_bd (-(m : Int)) s (by omega) (by omega) e1 e2
          have hmi : (m : Int) < 2 * (side : Int) := by omega
          have hms : m < 2 * side := by omega
          have hsd : (side : Int) ≤ 8 := by omega
          have hsucc := apartRow_succ side st s i m
          have hno := @apart_no n side st s i m hin hms
          rw [hok2] at hsucc
          unfold meets at hsucc hno
          replace hok2 := hide hok2
          by_cases hbad : (0 < i ∨ 0 < m) ∧ ((i : Int) * st = (m : Int) * s ∨ (i : Int) * st = -(m : Int) * s)
          · have hno2 := hide (hno (by simpa using hbad))
            replace hsucc := hide hsucc
            clear hno
            obtain ⟨hz, he⟩ := hbad
            have hz1 : 0 < i ∨ (¬ 0 < i ∧ 0 < m) := by omega
            have he1 : ((i : Int) * st == (m : Int) * s) = true ∨ (((i : Int) * st == (m : Int) * s) = false ∧ ((i : Int) * st == -(m : Int) * s) = true) := by
              by_cases z2 : (i : Int) * st = (m : Int) * s
              · exact .inl (beq_iff_eq.2 z2)
              · exact .inr ⟨beq_eq_false_iff_ne.2 z2, beq_iff_eq.2 (he.resolve_left z2)⟩
            clear hz he
            rcases hz1 with z1 | ⟨z1, z4⟩ <;> rcases he1 with z2 | ⟨z2, z3⟩
            all_goals
              go_wp2
              go_ret
              exact ⟨ret_b hno2.out.symm, rfl⟩
          · have hs2 : apartRow side st s i (m + 1) = true := by rw [hsucc, decide_eq_false hbad]; rfl
            replace hs2 := hide hs2
            clear hno hsucc
            have hg : (¬ 0 < i ∧ ¬ 0 < m) ∨ (((i : Int) * st == (m : Int) * s) = false ∧ ((i : Int) * st == -(m : Int) * s) = false) := by
              by_cases z0 : 0 < i ∨ 0 < m
              · exact .inr ⟨beq_eq_false_iff_ne.2 (fun e => hbad ⟨z0, .inl e⟩), beq_eq_false_iff_ne.2 (fun e => hbad ⟨z0, .inr e⟩)⟩
              · exact .inl (by omega)
            clear hbad
            rcases hg with ⟨z1, z4⟩ | ⟨z2, z3⟩
            · go_wp2
              go_roundg k2
              case measure => omega
              case rel => exact ⟨m + 1, by omega, by go_num, hs2.out, rfl⟩
            · by_cases z1 : 0 < i
              · go_wp2
                go_roundg k2
                case measure => omega
                case rel => exact ⟨m + 1, by omega, by go_num, hs2.out, rfl⟩
              · by_cases z4 : 0 < m
                · go_wp2
                  go_roundg k2
                  case measure => omega
                  case rel => exact ⟨m + 1, by omega, by go_num, hs2.out, rfl⟩
                · go_wp2
                  go_roundg k2
                  case measure => omega
                  case rel => exact ⟨m + 1, by omega, by go_num, hs2.out, rfl⟩
end Go.Proofs.YthbidebcljegjaaDoor
