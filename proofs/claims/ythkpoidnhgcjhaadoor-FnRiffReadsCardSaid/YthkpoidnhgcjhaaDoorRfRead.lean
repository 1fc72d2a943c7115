/- 'Read' through any number of levels. No walk. -/
import Derived.Test.YthkpoidnhgcjhaaDoorRfChunkA
import Derived.Test.YthkpoidnhgcjhaaDoorRfChunkB
namespace Go.Proofs.YthkpoidnhgcjhaaDoor
set_option linter.unusedSimpArgs false
set_option linter.unusedVariables false
open Go.RowKit Plain

/-- What holds of the cuts, of how often reading was called, and of the end's variable. -/
structure Env (B : Nat) (cl : List Int) (T : Nat) : Prop where
  cl_ : (cl.length : Int) ≤ 2147483647
  clw : ∀ x ∈ cl, -9223372036854775808 ≤ x ∧ x ≤ 9223372036854775807
  t_ : (T : Int) ≤ 4611686018427387904
  eof : 0 < B
theorem read_any {B p T : Nat} {cl : List Int} {ae : Addr} (hv : Env B cl T) : ∀ (ls : List Lv) (bs : List Nat) (L d off capd : Nat) (td : TypeId) (cs : Array Value) (w : World), Chain w B p cl ls bs T → (bs.length : Int) ≤ 2147483647 → 1 ≤ L → (L : Int) ≤ 2147483647 → Blk w d td cs → off + L ≤ cs.size → L ≤ capd → d ∉ allOf p ls → B ≤ d → B ≤ w.heap.size →
    w.cell? ⟨0, 0, none⟩ = some (.iface 122 (.pointer (some ae))) →
    Calls Tryd.prog (fnOf ls) #[.pointer (some ⟨blOf p ls, 0, none⟩), .slice (some ⟨d, off, none⟩) L capd] w (ReadPost (str ls bs) L d off td cs (d :: zsOf p ls) (fun n w' => Chain w' B p cl (adv n ls) (bs.drop n) (T + 1)) ae w)
  | [], bs, L, d, off, capd, td, cs, w, hC, hl, hL0, hL, hd, hf, hLc, hda, hdB, hBw, hE =>
    pieces_any B p d off L capd T cl bs td cs ae w hC hl hv.cl_ hv.t_ hL0 hL hd hf hLc (by simpa [allOf] using hda) hdB hBw hE hv.eof hv.clw
  | l :: ls, bs, L, d, off, capd, td, cs, w, hC, hl, hL0, hL, hd, hf, hLc, hda, hdB, hBw, hE => by
    have hlow : ∀ n0 wk, 1 ≤ n0 → n0 ≤ L → Upd [] w wk → Calls Tryd.prog (fnOf ls) #[.pointer (some ⟨blOf p ls, 0, none⟩), .slice (some ⟨d, off, none⟩) n0 capd] wk (ReadPost (str ls bs) n0 d off td cs (d :: zsOf p ls) (fun n w' => Chain w' B p cl (adv n ls) (bs.drop n) (T + 1)) ae wk) := fun n0 wk h1 h2 hu =>
      read_any hv ls bs n0 d off capd td cs wk (hC.2.2.1.upd hu (by simp) hBw (by simp)) hl h1 (by omega) (hd.upd hu (by simp)) (by omega) (by omega) (fun h => hda (by simp [allOf, h])) hdB (Nat.le_trans hBw hu.size)
        ((hu.cell (p := ⟨0, 0, none⟩) (World.block_lt_of_cell? _ _ hE) (by simp)).trans hE)
    cases ls with
    | nil => exact chunk_a B p d off L capd T cl bs l td cs ae w hC hlow hL0 hL hd hLc hda hdB hBw hE hv.eof
    | cons l2 ls2 => exact chunk_b B p d off L capd T cl bs l l2 ls2 td cs ae w hC hlow hL0 hL hd hLc hda hdB hBw hE hv.eof
end Go.Proofs.YthkpoidnhgcjhaaDoor
