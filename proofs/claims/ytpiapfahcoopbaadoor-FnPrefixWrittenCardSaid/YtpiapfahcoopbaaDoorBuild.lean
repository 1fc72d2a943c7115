/- 'hTree.build' of at least two symbols: the walk. -/
import Derived.Test.YtpiapfahcoopbaaDoorInsert
import Derived.Test.YtpiapfahcoopbaaDoorCodesImpl
import Derived.Test.YtpiapfahcoopbaaDoorRdNe
namespace Go.Proofs.YtpiapfahcoopbaaDoor
set_option linter.unusedSimpArgs false
set_option linter.unusedVariables false
open Go.RowKit Plain

theorem info_hnode : (Tryd.prog.info? 125).map (fun i => (i.zero, i.size, i.bytes)) = some (some (Value.agg #[.int .u32 0, .int .i32 0]), 2, 8) := by kernel_rfl
def mkN (cap : Nat) : Array Value := madeCells (Value.agg #[.int .u32 0, .int .i32 0]).cells (cap * 2)
theorem mkN_size (cap : Nat) : (mkN cap).size = cap * 2 := by simp [mkN, madeCells]
theorem mkN_at (cap i : Nat) (h : i < cap) : (mkN cap)[i * 2]? = some (.int .u32 0) ∧ (mkN cap)[i * 2 + 1]? = some (.int .i32 0) := by
  have e : (Value.agg #[.int .u32 0, .int .i32 0]).cells = #[.int .u32 0, .int .i32 0] := rfl
  unfold mkN madeCells
  rw [e]
  have h1 : i * 2 % 2 = 0 := by omega
  have h2 : (i * 2 + 1) % 2 = 1 := by omega
  have h3 : i * 2 < cap * 2 := by omega
  have h4 : i * 2 + 1 < cap * 2 := by omega
  constructor
  · simp [h3, h1]
  · simp [h4, h2]
theorem mk_hnode (cap : Nat) (h1 : 1 ≤ cap) (hc : cap ≤ 8191) (W : World) : (Instr.makeSlice 79 (.int .i64 1) (.int .u32 (cap : Nat))).run Tryd.prog W = .ok (.slice (some ⟨W.heap.size, 0, none⟩) 1 cap) (W.alloc (.cells (mkN cap) 125)) := by
  obtain ⟨i, hi, hz, hs, hb⟩ := info_parts info_hnode
  have h := run_make (P := Tryd.prog) W 79 125 i _ Tryd.underlying79 hi hz .i64 .u32 1 (cap : Nat) (by omega) (by omega) (by rw [hb]; omega) (by omega)
  rw [hs] at h
  simpa [mkN] using h
theorem Rd.below' {k : IntKind} {w w' : World} {B : Nat} {A : Option Addr} {l : List Int} (h : Rd k w B A l) (hb : Below w.heap.size w w') (hB : B ≤ w.heap.size) : Rd k w' B A l := h.keep fun p hp => hb.cell (by omega)
/-- The tree as it is made. -/
structure Tree0 (w : World) (g : Nat) : Prop where
  h : ∃ cs, Blk w g 82 cs ∧ cs.size = 129 ∧ (∃ v, cs[0]? = some v) ∧ ∀ x, x < 128 → cs[1 + x]? = some (.int .u32 0)
theorem Tree0.first {w : World} {g cap : Nat} (t : Tree0 w g) (h1 : 1 ≤ cap) : TreeM ((w.setCell ⟨g, 0, none⟩ (.slice (some ⟨w.heap.size, 0, none⟩) 1 cap)).alloc (.cells (mkN cap) 125)) g w.heap.size cap [⟨0, 0, 0, 0⟩] (fun _ => 0) := by
  obtain ⟨cs, a1, a2, ⟨v, a3⟩, a4⟩ := t.h
  have hlt := a1.lt
  have hnew : Blk ((w.setCell ⟨g, 0, none⟩ (.slice (some ⟨w.heap.size, 0, none⟩) 1 cap)).alloc (.cells (mkN cap) 125)) w.heap.size 125 (mkN cap) := by
    have h := Blk.new (w.setCell ⟨g, 0, none⟩ (.slice (some ⟨w.heap.size, 0, none⟩) 1 cap)) 125 (mkN cap)
    have e : (w.setCell ⟨g, 0, none⟩ (.slice (some ⟨w.heap.size, 0, none⟩) 1 cap)).heap.size = w.heap.size := by simp [World.setCell]
    rwa [e] at h
  refine ⟨⟨_, (a1.set_ 0 _).alloc _, by rw [Array.size_setIfInBounds]; exact a2, by rw [tset_eq _ _ _ (by omega)]; rfl, fun x hx => by rw [tset_ne _ _ _ _ (by omega)]; exact a4 x hx⟩, ⟨mkN cap, hnew, mkN_size cap, fun i hi => ?_⟩, by omega, h1⟩
  have h := mkN_at cap i hi
  have e1 : symOf [⟨0, 0, 0, 0⟩] i = 0 := by
    cases i with
    | zero => rfl
    | succ i => simp [symOf]
  have e2 : chOf [⟨0, 0, 0, 0⟩] i = 0 := by
    cases i with
    | zero => rfl
    | succ i => simp [chOf]
  rw [e1, e2]
  exact h
def BuildPost (g : Nat) (L : List Nat) (ae : Addr) (w : World) (e : Ending) (w' : World) : Prop :=
  Upd [g] w w' ∧ ((e = .returned .nilIface ∧ ∃ nb ns lt, w.heap.size ≤ nb ∧ Tree L L.length ns ∧ LutK L L.length ns lt ∧ TreeM w' g nb (2 * nz L - 1) ns lt) ∨ (e = .returned (.iface 127 (.pointer (some ae))) ∧ ¬ kS L 15 = 32768))

set_option maxRecDepth 100000 in
set_option maxHeartbeats 4000000 in
theorem build_any (g : Nat) (A : Option Addr) (cap B : Nat) (L : List Nat) (ae : Addr) (w : World) (hl : (L.length : Int) ≤ 4096) (hL : ∀ x ∈ L, x ≤ 15) (hk : kS L 15 ≤ 32768) (hn2 : 2 ≤ nz L) (hS : Rd .u32 w B A (ofN' L)) (hB : B ≤ w.heap.size) (hgA : ∀ a, A = some a → a.block ≠ g) (h0 : Tree0 w g) (hTab : TabH w ae)
    (hg1 : g ≠ 4) (hg2 : g ≠ 2) :
    Calls Tryd.prog 55 #[.pointer (some ⟨g, 0, none⟩), .slice A L.length cap] w (BuildPost g L ae w) := by
  have hnL : nz L ≤ L.length := List.countP_le_length
  have hcap : 2 * nz L - 1 ≤ 8191 := by omega
  have hmk := mk_hnode (2 * nz L - 1) (by omega) hcap
  have hfst := h0.first (cap := 2 * nz L - 1) (by omega)
  have hglt : g < w.heap.size := by obtain ⟨cs, a1, _⟩ := h0.h; exact a1.lt
  obtain ⟨cs0, c01, c02, ⟨v0, c03⟩, _⟩ := h0.h
  have k0 := (c01.cell 0).trans c03
  have f0 := c01.frozen 0
  have hTlt := hTab.lt
  have hts := Tree.start hL hk
  have hlk := LutK.start L [⟨0, 0, 0, 0⟩]
  replace hTab := hide hTab
  replace hS := hide hS
  replace hL := hide hL
  replace hk := hide hk
  replace hfst := hide hfst
  replace hts := hide hts
  replace hlk := hide hlk
  replace hTlt := hide hTlt
  replace hgA := hide hgA
  clear h0 c01 c02 c03
  go_enter Tryd.func55, Tryd.ntmps55
  go_wp2
  go_loopg [5, 6, 16] L.length (fun k u5 u6 u16 wr => ∃ m last : Nat, k + m = L.length ∧ u16 = .int .i64 m ∧ u5 = .int .u32 (nzT L m) ∧ u6 = .int .u32 (last : Nat) ∧ w = wr)
  case atStart => exact ⟨0, 0, rfl, rfl, by simp [nzT], rfl, rfl⟩
  case round =>
    obtain ⟨m, last, hm, rfl, rfl, rfl, rfl⟩ := hrel
    cases gk with
    | succ k =>
      have hmn : m < L.length := by omega
      have hmi : (m : Int) < (L.length : Int) := by omega
      have hm0 : (0 : Int) ≤ (m : Int) := by omega
      obtain ⟨b, off, rfl, hbb, hc⟩ := hS.out.at_ (j := m) (by rw [ofN'_len]; omega)
      have hx := hc m (by rw [ofN'_len]; omega)
      rw [ofN'_get] at hx
      have hnz := nzT_succ L m hmn
      have hnb := nzT_le L m
      have hnbI : ((nzT L m : Nat) : Int) ≤ 4096 := by omega
      generalize hqx : L.getD m 0 = x at *
      generalize nzT L m = z at *
      replace hqx := hide hqx
      replace hnz := hide hnz
      clear hc hfst hmk
      by_cases hx0 : x = 0
      · subst hx0
        go_wp2
        go_roundg k
        case measure => omega
        case rel => exact ⟨m + 1, last, by omega, by go_num, by rw [hnz.out]; simp, rfl, rfl⟩
      · have hxI : ¬ (x : Int) = 0 := by omega
        have hxq : ((x : Int) == 0) = false := by simp <;> omega
        have hxq2 : ((x : Int) != 0) = true := by simp <;> omega
        go_wp2
        go_roundg k
        case measure => omega
        case rel => exact ⟨m + 1, m, by omega, by go_num, by rw [hnz.out, if_neg hx0]; go_num, rfl, rfl⟩
    | zero =>
      have hmL : m = L.length := by omega
      subst hmL
      rw [nzT_all]
      generalize hnz : nz L = n at *
      replace hnz := hide hnz
      have hn0 : ¬ (n : Int) = 0 := by omega
      have hn1 : ¬ (n : Int) = 1 := by omega
      have hq0 : ((n : Int) == 0) = false := by simp <;> omega
      have hq1 : ((n : Int) == 1) = false := by simp <;> omega
      have hnb : (n : Int) ≤ 4096 := by omega
      have hn2I : (2 : Int) ≤ (n : Int) := by omega
      have hcapI : 2 * (n : Int) - 1 = ((2 * n - 1 : Nat) : Int) := by omega
      generalize hcp : 2 * n - 1 = cp at *
      replace hcp := hide hcp
      have hU1 := ((Upd.refl [g] w).setCell (p := ⟨g, 0, none⟩) (.inl (by simp)) (.slice (some ⟨w.heap.size, 0, none⟩) 1 cp)).alloc (.cells (mkN cp) 125)
      have hW1 : ((w.setCell ⟨g, 0, none⟩ (.slice (some ⟨w.heap.size, 0, none⟩) 1 cp)).alloc (.cells (mkN cp) 125)).heap.size = w.heap.size + 1 := by simp [World.setCell]
      replace hU1 := hide hU1
      replace hW1 := hide hW1
      go_wp2_with fail
      generalize (w.setCell ⟨g, 0, none⟩ (.slice (some ⟨w.heap.size, 0, none⟩) 1 cp)).alloc (.cells (mkN cp) 125) = w1 at *
      have hS1 : Rd .u32 w1 B A (ofN' L) := hS.out.updNe hU1.out hB (fun a ha => by have := hgA.out a ha; simpa using this)
      (with_reducible refine (clc_any A cap B L w1 (by omega) hl hL.out hS1 (by have := hW1.out; omega)).mono ?_)
      rintro e w2 ⟨gc, cc, rfl, hco, hb2⟩
      have hM2 : TreeM w2 g w.heap.size cp [⟨0, 0, 0, 0⟩] (fun _ => 0) := hfst.out.upd (Upd.ofBelow (S := []) hb2) (by simp) (by simp)
      have hgc : w.heap.size < gc := by have := (hco.lt gc rfl).1; have := hW1.out; omega
      have hS2 := hide (hS1.below' hb2 (by have := hW1.out; omega))
      have hU2 := hide (hU1.out.step (Upd.ofBelow (S := []) hb2) (by simp))
      have hTab1 := hide (hTab.out.upd hU2.out (by simp; omega) (by simp; omega))
      replace hco := hide hco
      replace hM2 := hide hM2
      clear hS1 hb2 hU1 hmk hfst hS hTab
      go_wp2_with fail
      go_loopg [59] L.length (fun k u59 wr => ∃ (m : Nat) (ns : List Nd) (lt : Nat → Nat), k + m = L.length ∧ u59 = .int .i64 m ∧ Tree L m ns ∧ LutK L m ns lt ∧ TreeM wr g w.heap.size cp ns lt ∧ Upd [g, w.heap.size] w2 wr)
      case atStart => exact ⟨0, _, _, rfl, rfl, hts.out, hlk.out, hM2.out, Upd.refl _ _⟩
      case round =>
        obtain ⟨m, ns, lt, hm, rfl, hT, hLu, hM, hU⟩ := hrel
        clear hts hlk hM2
        have hlt2 := hU2.out.size
        cases gk with
        | zero =>
          have hmL : m = L.length := by omega
          subst hmL
          have hfin := hU2.out.step hU (by simp <;> omega)
          replace hfin := hide hfin
          clear hS2 hco
          go_wp2_with fail
          go_ret
          exact ⟨hfin.out, .inl ⟨rfl, w.heap.size, ns, lt, Nat.le_refl _, hT, hLu, by rw [hnz.out, hcp.out]; exact hM⟩⟩
        | succ k =>
          have hmn : m < L.length := by omega
          have hmi : (m : Int) < (L.length : Int) := by omega
          have hm0 : (0 : Int) ≤ (m : Int) := by omega
          obtain ⟨b, off, rfl, hbb, hc⟩ := hS2.out.at_ (j := m) (by rw [ofN'_len]; omega)
          have hbg : b ≠ g := hgA.out ⟨b, off, none⟩ rfl
          have hx := (hU.cell (p := ⟨b, off + m, none⟩) (by show b < _; omega) (by simp; omega)).trans (hc m (by rw [ofN'_len]; omega))
          rw [ofN'_get] at hx
          have hlc := hco.out.lt gc rfl
          have hy := (hU.cell (p := ⟨gc, m, none⟩) (by show gc < _; omega) (by simp; omega)).trans (own_cell hco.out m hmn)
          rw [codesF_get L m hmn] at hy
          have hcb := codeF_bd L m (by omega) hL.out
          have hcbI : ((codeF L m : Nat) : Int) ≤ 268500000 := by omega
          have hl15 := getD_mem_le hL.out m
          by_cases hx0 : L.getD m 0 = 0
          · have hT' := hT.skip hmn hx0
            have hL' := hLu.skip hx0
            rw [hx0] at hx
            replace hT' := hide hT'
            replace hL' := hide hL'
            replace hM := hide hM
            replace hU := hide hU
            clear hT hLu hc hy hcb
            go_wp2_with fail
            go_roundg k
            case measure => omega
            case rel => exact ⟨m + 1, ns, lt, by omega, by go_num, hT'.out, hL'.out, hM.out, hU.out⟩
          · have hUs : Used L m := ⟨hmn, hx0⟩
            have hTabr := hTab1.out.upd hU (by have := hTlt.out; simp; omega) (by have := hTlt.out; simp; omega)
            have cI := insert_any g w.heap.size cp m (L.getD m 0) (codeF L m) L ns lt ae wr hL.out hk.out hUs (by omega) rfl (codeF_mod hL.out hk.out hUs) hcb hT hLu hM (by have := hcp.out; omega) (by rw [hnz.out]; exact hcp.out.symm) hTabr hg1 hg2 (by have := hTlt.out; omega) (by have := hTlt.out; omega)
            generalize hqx : L.getD m 0 = x at *
            generalize hqc : codeF L m = c at *
            have hxI : (0 : Int) < (x : Int) := by omega
            replace hqx := hide hqx
            replace hqc := hide hqc
            replace cI := hide cI
            replace hU := hide hU
            clear hT hLu hM hc hcb hTabr
            go_wp2_with fail
            (with_reducible refine (cI.out).mono ?_)
            rintro e w3 ⟨hU3, hcase⟩
            have hU4 := hide (hU.out.step hU3 (by simp))
            rcases hcase with ⟨rfl, ns', lt', hT', hL', hM'⟩ | ⟨rfl, hbad⟩
            · replace hT' := hide hT'
              replace hL' := hide hL'
              replace hM' := hide hM'
              clear cI hU hU3 hx hy
              go_wp2_with fail
              go_roundg k
              case measure => omega
              case rel => exact ⟨m + 1, ns', lt', by omega, by go_num, hT'.out, hL'.out, hM'.out, hU4.out⟩
            · have hfin := hU2.out.step hU4.out (by simp <;> omega)
              replace hfin := hide hfin
              replace hbad := hide hbad
              clear cI hU hU3 hx hy
              go_wp2_with fail
              go_ret
              exact ⟨hfin.out, .inr ⟨rfl, hbad.out⟩⟩
end Go.Proofs.YtpiapfahcoopbaaDoor
