/- 'hTree.next': words. No walk. -/
import Derived.Test.YtpiapfahcoopbaaDoorInsDef
import Derived.ScopeJumps
import Derived.WalkMore
import Derived.BigRegion
namespace Go.Proofs.YtpiapfahcoopbaaDoor
set_option linter.unusedSimpArgs false
set_option linter.unusedVariables false
open Go.RowKit Plain

theorem exit_jump_ret {l : Nat} {J : Act → World → Prop} {Q : Exit → Act → World → Prop} {a : Act} {w : World} : Exit.jump l J Q .ret a w = Q .ret a w := rfl
theorem and127 (x : Int) : bits .and .u32 x 127 = x % 128 := and_mask .u32 7 (by decide) x
/-- What 'next' answers: the symbol, or that the bytes end. -/
def NextPost (L Bs : List Nat) (pos gd r cap : Nat) (A : Option Addr) (au : Addr) (w : World) (e : Ending) (w' : World) : Prop :=
  (pos + L.getD (dec L Bs pos) 0 ≤ 8 * Bs.length → ∃ i' nb' bt', e = .returned (.tuple #[.int .u32 (dec L Bs pos : Nat), .nilIface]) ∧ Kept Bs i' (pos + L.getD (dec L Bs pos) 0) nb' bt' ∧ nb' ≤ 31 ∧ Dec w' gd r A Bs.length cap i' nb' bt') ∧
  (¬ pos + L.getD (dec L Bs pos) 0 ≤ 8 * Bs.length → e = .returned (.tuple #[.int .u32 0, .iface 127 (.pointer (some au))])) ∧ Upd [gd, r] w w'
/-- A finished tree in memory. -/
structure Done (L : List Nat) (w : World) (g nt ct : Nat) (ns : List Nd) (lt : Nat → Nat) : Prop where
  tree : Tree L L.length ns
  lut : LutK L L.length ns lt
  mem : TreeM w g nt ct ns lt
  full : ∀ nd ∈ ns, nd.ch ≠ 0
  ct_ : ct ≤ 8191
theorem Done.upd {L : List Nat} {w w' : World} {S : List Nat} {g nt ct : Nat} {ns : List Nd} {lt : Nat → Nat} (h : Done L w g nt ct ns lt) (u : Upd S w w') (h1 : g ∉ S) (h2 : nt ∉ S) : Done L w' g nt ct ns lt := ⟨h.tree, h.lut, h.mem.upd u h1 h2, h.full, h.ct_⟩
/-- A leaf that is met is the symbol. -/
theorem leaf_dec {L Bs : List Nat} {pos d : Nat} {ns : List Nd} {nd : Nd} (hL : ∀ x ∈ L, x ≤ 15) (hk : kS L 15 = 32768) (hT : Tree L L.length ns) (hm : nd ∈ ns) (hc : nd.ch = -1) (hd : nd.d = d) (hv : nd.v = vN Bs pos d) : dec L Bs pos = nd.sym ∧ L.getD nd.sym 0 = d ∧ nd.sym < L.length := by
  obtain ⟨h1, h2, h3, h4⟩ := hT.leaf nd hm hc
  refine ⟨dec_eq hL hk ⟨h2, ?_⟩, by omega, h1⟩
  rw [← h3, hd, ← hv, h4]
theorem bits_one (Bs : List Nat) (p : Nat) : bitsAt Bs p 1 = leN Bs / 2 ^ p % 2 := by unfold bitsAt; simp
theorem Blk.dec {w w' : World} {gd r bt nb : Nat} {b n : Int} (h : Blk w gd 99 #[.iface 57 (.pointer (some ⟨r, 0, none⟩)), .int .u32 b, .int .u32 n]) (hw : w'.heap = w.heap) (hb : b = (bt : Nat)) (hn : n = (nb : Nat)) : Blk w' gd 99 #[.iface 57 (.pointer (some ⟨r, 0, none⟩)), .int .u32 bt, .int .u32 nb] := by
  subst hb hn
  exact Blk.to h hw rfl
end Go.Proofs.YtpiapfahcoopbaaDoor
