/- 'hTree.insert': words and small facts. No walk. -/
import Derived.Test.YtpiapfahcoopbaaDoorTreeMem
import Derived.Test.YtpiapfahcoopbaaDoorBits
namespace Go.Proofs.YtpiapfahcoopbaaDoor
set_option linter.unusedSimpArgs false
set_option linter.unusedVariables false
open Go.RowKit Plain

/-- The two tables that are asked: the reversed bytes, and the error. -/
structure TabH (w : World) (ae : Addr) : Prop where
  rev : ∀ j, j < 256 → w.cell? ⟨4, j, none⟩ = some (.int .u8 (revN j 8))
  err : w.cell? ⟨2, 0, none⟩ = some (.iface 127 (.pointer (some ae)))
theorem TabH.keep {w w' : World} {ae : Addr} (h : TabH w ae) (hc : ∀ p : Addr, p.block = 4 ∨ p.block = 2 → w'.cell? p = w.cell? p) : TabH w' ae :=
  ⟨fun j hj => (hc _ (.inl rfl)).trans (h.rev j hj), (hc _ (.inr rfl)).trans h.err⟩
theorem TabH.lt {w : World} {ae : Addr} (h : TabH w ae) : 4 < w.heap.size ∧ 2 < w.heap.size := ⟨World.block_lt_of_cell? _ _ (h.rev 0 (by decide)), World.block_lt_of_cell? _ _ h.err⟩
theorem TabH.upd {S : List Nat} {w w' : World} {ae : Addr} (h : TabH w ae) (u : Upd S w w') (h1 : 4 ∉ S) (h2 : 2 ∉ S) : TabH w' ae :=
  h.keep fun p hp => u.cell (by have := h.lt; rcases hp with e | e <;> omega) (by rcases hp with e | e <;> rw [e] <;> assumption)
theorem and255 (x : Int) : bits .and .u32 x 255 = x % 256 := and_mask .u32 8 (by decide) x
theorem and1 (x : Int) : bits .and .u32 1 x = x % 2 := by
  have h := and_mask .u32 1 (by decide) x
  have e : bits .and .u32 1 x = bits .and .u32 x 1 := by
    show IntKind.u32.wrap _ = IntKind.u32.wrap _
    rw [BitVec.and_comm]
  rw [e]
  exact h
theorem or_val (k l : Nat) (hk : k < 4096) (hl : l ≤ 15) : bits .or .u32 ((k : Int) * 256) ((l : Int) + 1) = ((k * 256 + (l + 1) : Nat) : Int) := by
  rw [bits_join .u32 32 (by decide) wraps_u32 8 ((k : Int) * 256) ((l : Int) + 1) (by omega) (by omega) (by rw [show (2 : Int) ^ 32 = 4294967296 from rfl]; omega) (by omega) (by rw [show (2 : Int) ^ 8 = 256 from rfl]; omega) (by rw [show (2 : Int) ^ 32 = 4294967296 from rfl]; omega)]
  omega
theorem pow_mod_div (c l j : Nat) (h : j ≤ l) : c % 2 ^ l / 2 ^ j = c / 2 ^ j % 2 ^ (l - j) := by
  have e : 2 ^ l = 2 ^ j * 2 ^ (l - j) := by rw [← Nat.pow_add]; congr 1; omega
  rw [e, Nat.mod_mul_right_div_self]
/-- What a filled table reads. -/
def fillL (k l x0 i : Nat) (lt : Nat → Nat) (x : Nat) : Nat := if x % 2 ^ l = x0 ∧ x / 2 ^ l < i then k * 256 + (l + 1) else lt x
theorem fillL_zero (k l x0 : Nat) (lt : Nat → Nat) : fillL k l x0 0 lt = lt := by
  funext x
  unfold fillL
  rw [if_neg (fun h => Nat.not_lt_zero _ h.2)]
theorem fillL_succ (k l x0 i : Nat) (lt : Nat → Nat) (hx : x0 < 2 ^ l) : (fun y => if y = x0 + i * 2 ^ l then k * 256 + (l + 1) else fillL k l x0 i lt y) = fillL k l x0 (i + 1) lt := by
  funext y
  have hp : 0 < 2 ^ l := Nat.pow_pos (by decide)
  unfold fillL
  have key : (y = x0 + i * 2 ^ l) ↔ (y % 2 ^ l = x0 ∧ y / 2 ^ l = i) := by
    constructor
    · rintro rfl
      exact ⟨by rw [Nat.add_mul_mod_self_right, Nat.mod_eq_of_lt hx], by rw [Nat.add_mul_div_right _ _ hp, Nat.div_eq_of_lt hx]; omega⟩
    · rintro ⟨h1, h2⟩
      have := Nat.mod_add_div y (2 ^ l)
      rw [h1, h2, Nat.mul_comm] at this
      exact this.symm
  by_cases h1 : y = x0 + i * 2 ^ l
  · rw [if_pos h1, if_pos ⟨(key.1 h1).1, by have := (key.1 h1).2; omega⟩]
  · rw [if_neg h1]
    by_cases h2 : y % 2 ^ l = x0
    · have h3 : y / 2 ^ l ≠ i := fun h => h1 (key.2 ⟨h2, h⟩)
      by_cases h4 : y / 2 ^ l < i
      · rw [if_pos ⟨h2, h4⟩, if_pos ⟨h2, by omega⟩]
      · rw [if_neg (fun h => h4 h.2), if_neg (fun h => by omega)]
    · rw [if_neg (fun h => h2 h.1), if_neg (fun h => h2 h.1)]
theorem fillL_all (k l x0 : Nat) (lt : Nat → Nat) (hl : l ≤ 7) (x : Nat) (hx : x < 128) : fillL k l x0 (2 ^ (7 - l)) lt x = if x % 2 ^ l = x0 then k * 256 + (l + 1) else lt x := by
  unfold fillL
  have h : x / 2 ^ l < 2 ^ (7 - l) := by
    rw [Nat.div_lt_iff_lt_mul (Nat.pow_pos (by decide)), ← Nat.pow_add, show 7 - l + l = 7 by omega]
    exact hx
  by_cases h1 : x % 2 ^ l = x0
  · rw [if_pos ⟨h1, h⟩, if_pos h1]
  · rw [if_neg (fun c => h1 c.1), if_neg h1]
/-- The code's beginning at a depth. -/
theorem begin_bd {L : List Nat} {k l d r : Nat} (hU : Used L k) (hl : L.getD k 0 = l) (hd : r + d = l) (hr : 0 < r) : topN L d ≤ codeG L k / 2 ^ r := by
  have h1 := top_grow' L (show d < l by omega)
  have h2 := code_ge hU
  rw [hl] at h2
  rw [show l - d = r by omega] at h1
  rw [Nat.le_div_iff_mul_le (Nat.pow_pos (by decide))]
  omega
theorem begin_step (c r : Nat) : c / 2 ^ r = 2 * (c / 2 ^ (r + 1)) + c / 2 ^ r % 2 := by
  rw [Nat.pow_succ, ← Nat.div_div_eq_div_mul]
  omega
/-- On the way down no leaf is met. -/
theorem no_leaf {L : List Nat} {k l d r : Nat} {ns : List Nd} {nd : Nd} (hT : Tree L k ns) (hU : Used L k) (hl : L.getD k 0 = l) (hm : nd ∈ ns) (hd : r + d = l) (h1 : nd.d = d) (h2 : nd.v = codeG L k / 2 ^ r) : nd.ch ≠ -1 := by
  intro hc
  obtain ⟨h3, h4, h5, h6⟩ := hT.leaf nd hm hc
  have h7 : L.getD nd.sym 0 ≤ L.getD k 0 := by omega
  have h8 := prefix_free h4 hU h7 (by rw [← h6, h2]; congr 2; omega)
  omega
theorem no_inner {L : List Nat} {k l : Nat} {ns : List Nd} {nd : Nd} (hT : Tree L k ns) (hU : Used L k) (hl : L.getD k 0 = l) (hm : nd ∈ ns) (h1 : nd.d = l) (h2 : nd.v = codeG L k) : ¬ 0 < nd.ch := by
  intro hc
  have h3 := hT.inner nd hm hc
  have h4 := code_lt_top hU
  rw [hl] at h4
  rw [h1, h2] at h3
  omega
def InsPost (g nb cap k : Nat) (L : List Nat) (ae : Addr) (w : World) (e : Ending) (w' : World) : Prop :=
  Upd [g, nb] w w' ∧ ((e = .returned .nilIface ∧ ∃ ns' lt', Tree L (k + 1) ns' ∧ LutK L (k + 1) ns' lt' ∧ TreeM w' g nb cap ns' lt') ∨ (e = .returned (.iface 127 (.pointer (some ae))) ∧ ¬ kS L 15 = 32768))
end Go.Proofs.YtpiapfahcoopbaaDoor
