/- The errors' variables; a number of four bytes. -/
import Derived.Test.YthkpoidnhgcjhaaDoorRfCopy
namespace Go.Proofs.YthkpoidnhgcjhaaDoor
set_option linter.unusedSimpArgs false
set_option linter.unusedVariables false
open Go.RowKit Plain

/-- A variable that holds an error that was made when the program began. -/
structure Sent (w : World) (B g : Nat) (ax : Addr) : Prop where
  cell : w.cell? ⟨g, 0, none⟩ = some (.iface 122 (.pointer (some ax)))
  blk : ∃ c t, w.heap[ax.block]? = some (.cells c t (0, 0))
  lt : ax.block < B
  glt : g < B
theorem Sent.upd {S : List Nat} {w w' : World} {B g : Nat} {ax : Addr} (h : Sent w B g ax) (u : Upd S w w') (hS : ∀ s ∈ S, B ≤ s) (hB : B ≤ w.heap.size) : Sent w' B g ax := by
  refine ⟨(u.cell (p := ⟨g, 0, none⟩) (by show g < _; have := h.glt; omega) (fun hm => by have h1 : B ≤ g := hS _ hm; have := h.glt; omega)).trans h.cell, ?_, h.lt, h.glt⟩
  obtain ⟨c, t, hb⟩ := h.blk
  exact ⟨c, t, (u.block ax.block (by have := h.lt; omega) (fun hm => by have := hS _ hm; have := h.lt; omega)).trans hb⟩
theorem eql_other {w : World} {B g g' : Nat} {ax ay : Addr} (h : Sent w B g ax) (h' : Sent w B g' ay) (hne : ax ≠ ay) : (binOp .eql 57 (.iface 122 (.pointer (some ax))) (.iface 122 (.pointer (some ay)))).run Tryd.prog w = .ok (.bool false) w := by
  obtain ⟨i, hi, hc⟩ := Option.map_eq_some_iff.1 comp_er
  obtain ⟨j, hj, hz⟩ := Option.map_eq_some_iff.1 size_er
  obtain ⟨c, t, hb⟩ := h.blk
  obtain ⟨c', t', hb'⟩ := h'.blk
  exact run_eql_iface_ptr_other w Tryd.underlying57 Tryd.underlying122 hi hc hj (by rw [hz]; decide) hne hb hb'
/-- All of them; none of the others is the end's. -/
structure Errs (w : World) (B : Nat) (ae au ar ad al ap ah : Addr) : Prop where
  eof : Sent w B 0 ae
  une : Sent w B 1 au
  rif : Sent w B 2 ar
  dat : Sent w B 3 ad
  lng : Sent w B 4 al
  fil : Sent w B 5 ap
  hea : Sent w B 6 ah
  ne : au ≠ ae ∧ ar ≠ ae ∧ ad ≠ ae ∧ al ≠ ae ∧ ap ≠ ae ∧ ah ≠ ae
theorem Errs.upd {S : List Nat} {w w' : World} {B : Nat} {ae au ar ad al ap ah : Addr} (h : Errs w B ae au ar ad al ap ah) (u : Upd S w w') (hS : ∀ s ∈ S, B ≤ s) (hB : B ≤ w.heap.size) : Errs w' B ae au ar ad al ap ah :=
  ⟨h.eof.upd u hS hB, h.une.upd u hS hB, h.rif.upd u hS hB, h.dat.upd u hS hB, h.lng.upd u hS hB, h.fil.upd u hS hB, h.hea.upd u hS hB, h.ne⟩
def errV (a : Addr) : Value := .iface 122 (.pointer (some a))

/-- A number of four bytes, the lowest first. -/
def le4 (l : List Nat) : Nat := l.getD 0 0 + l.getD 1 0 * 256 + l.getD 2 0 * 65536 + l.getD 3 0 * 16777216
theorem le4_lt (l : List Nat) (h : ∀ x ∈ l, x ≤ 255) : le4 l < 4294967296 := by
  have hb : ∀ i, l.getD i 0 ≤ 255 := by
    intro i
    rcases Nat.lt_or_ge i l.length with h1 | h1
    · have : l.getD i 0 = l[i] := by simp [h1]
      rw [this]; exact h _ (List.getElem_mem h1)
    · simp [h1]
  have h0 := hb 0
  have h1 := hb 1
  have h2 := hb 2
  have h3 := hb 3
  unfold le4
  generalize l.getD 0 0 = a at *
  generalize l.getD 1 0 = b at *
  generalize l.getD 2 0 = c at *
  generalize l.getD 3 0 = d at *
  have e : (4294967296 : Nat) = 16777216 * 256 := by decide
  rw [e]
  omega
theorem wraps32 (n : Int) (h0 : 0 ≤ n) (h1 : n < 2 ^ 32) : IntKind.u32.wrap n = n := by
  have h1' : n < 4294967296 := by simpa using h1
  exact IntWalk.u32_in n (by omega)

set_option maxRecDepth 100000 in
set_option maxHeartbeats 4000000 in
theorem u32_any (d off cap : Nat) (b0 b1 b2 b3 : Int) (w : World) (h0 : w.cell? ⟨d, off, none⟩ = some (.int .u8 b0)) (h1 : w.cell? ⟨d, off + 1, none⟩ = some (.int .u8 b1)) (h2 : w.cell? ⟨d, off + 2, none⟩ = some (.int .u8 b2)) (h3 : w.cell? ⟨d, off + 3, none⟩ = some (.int .u8 b3))
    (g0 : 0 ≤ b0 ∧ b0 ≤ 255) (g1 : 0 ≤ b1 ∧ b1 ≤ 255) (g2 : 0 ≤ b2 ∧ b2 ≤ 255) (g3 : 0 ≤ b3 ∧ b3 ≤ 255) :
    Calls Tryd.prog 29 #[.slice (some ⟨d, off, none⟩) 4 cap] w fun e w' => e = .returned (.int .u32 (b0 + b1 * 256 + b2 * 65536 + b3 * 16777216)) ∧ ∃ n, w' = w.drewN n := by
  obtain ⟨x0, y0⟩ := g0
  obtain ⟨x1, y1⟩ := g1
  obtain ⟨x2, y2⟩ := g2
  obtain ⟨x3, y3⟩ := g3
  have o1 : bits .or .u32 b0 (b1 * 256) = b0 + b1 * 256 := bits_join_low .u32 32 (by decide) wraps32 8 b0 (b1 * 256) (by omega) (by omega) (by rw [show (2 : Int) ^ 32 = 4294967296 from rfl]; omega) (by omega) (by rw [show (2 : Int) ^ 8 = 256 from rfl]; omega) (by rw [show (2 : Int) ^ 32 = 4294967296 from rfl]; omega)
  have o2 : bits .or .u32 (b0 + b1 * 256) (b2 * 65536) = b0 + b1 * 256 + b2 * 65536 := bits_join_low .u32 32 (by decide) wraps32 16 (b0 + b1 * 256) (b2 * 65536) (by omega) (by rw [show (2 : Int) ^ 16 = 65536 from rfl]; omega) (by rw [show (2 : Int) ^ 32 = 4294967296 from rfl]; omega) (by omega) (by rw [show (2 : Int) ^ 16 = 65536 from rfl]; omega) (by rw [show (2 : Int) ^ 32 = 4294967296 from rfl]; omega)
  have o3 : bits .or .u32 (b0 + b1 * 256 + b2 * 65536) (b3 * 16777216) = b0 + b1 * 256 + b2 * 65536 + b3 * 16777216 := bits_join_low .u32 32 (by decide) wraps32 24 (b0 + b1 * 256 + b2 * 65536) (b3 * 16777216) (by omega) (by rw [show (2 : Int) ^ 24 = 16777216 from rfl]; omega) (by rw [show (2 : Int) ^ 32 = 4294967296 from rfl]; omega) (by omega) (by rw [show (2 : Int) ^ 24 = 16777216 from rfl]; omega) (by rw [show (2 : Int) ^ 32 = 4294967296 from rfl]; omega)
  go_enter Tryd.func29, Tryd.ntmps29
  go_wp2
  go_quiet (fail)
  go_wp2
  go_ret
  exact ⟨rfl, _, rfl⟩
end Go.Proofs.YthkpoidnhgcjhaaDoor
