/- 'impl.Symbols': the walk. -/
import Derived.Test.YtpiapfahcoopbaaDoorSymImpl
import Derived.Test.YtpiapfahcoopbaaDoorBuild
import Derived.Test.YtpiapfahcoopbaaDoorWords
import Derived.KernelRfl
namespace Go.Proofs.YtpiapfahcoopbaaDoor
set_option linter.unusedSimpArgs false
set_option linter.unusedVariables false
open Go.RowKit Plain

theorem zt_len : (Tryd.zeroCells82.toList.length == 129) = true := by kernel_rfl
theorem zt_tail : Tryd.zeroCells82.toList.drop 1 = List.replicate 128 (Value.int .u32 0) := by kernel_rfl
theorem zt_at (x : Nat) (hx : x < 128) : Tryd.zeroCells82[1 + x]? = some (.int .u32 0) := by
  have h := congrArg (fun l : List Value => l[x]?) zt_tail
  simp only [List.getElem?_drop, List.getElem?_replicate, if_pos hx] at h
  rw [← Array.getElem?_toList]
  exact h
theorem tree0_new (w : World) : Tree0 (w.alloc (.cells Tryd.zeroCells82 82)) w.heap.size := by
  have hl : Tryd.zeroCells82.size = 129 := by rw [← Array.length_toList]; exact eq_of_beq zt_len
  exact ⟨_, Blk.new w _ _, hl, ⟨_, Array.getElem?_eq_getElem (by omega)⟩, zt_at⟩
theorem Tree0.upd {S : List Nat} {w w' : World} {g : Nat} (t : Tree0 w g) (u : Upd S w w') (h : g ∉ S) : Tree0 w' g := by
  obtain ⟨cs, a1, a2, a3, a4⟩ := t.h
  exact ⟨cs, a1.upd u h, a2, a3, a4⟩
theorem newReader_any (A : Option Addr) (len cap : Nat) (w : World) : Calls Tryd.prog 31 #[.slice A len cap] w fun e w' => e = .returned (.pointer (some ⟨w.heap.size, 0, none⟩)) ∧ w.alloc (.cells #[.slice A len cap, .int .i64 0, .int .i64 (-1)] 101) = w' := by
  go_enter Tryd.func31, Tryd.ntmps31
  go_wp2
  go_ret
  exact ⟨rfl, rfl⟩
theorem newBits_any (r : Nat) (w : World) : Calls Tryd.prog 30 #[.iface 57 (.pointer (some ⟨r, 0, none⟩))] w fun e w' => e = .returned (.pointer (some ⟨w.heap.size, 0, none⟩)) ∧ w.alloc (.cells #[.iface 57 (.pointer (some ⟨r, 0, none⟩)), .int .u32 0, .int .u32 0] 99) = w' := by
  go_enter Tryd.func30, Tryd.ntmps30
  go_wp2
  go_ret
  exact ⟨rfl, rfl⟩
theorem doorBuild_any {P : Ending → World → Prop} (g : Addr) (v : Value) (w : World) (h : Calls Tryd.prog 55 #[.pointer (some g), v] w fun e w' => (∃ x, e = .returned x) ∧ P e w') :
    Calls Tryd.prog 39 #[.pointer (some g), v] w P := by
  replace h := hide h
  go_enter Tryd.func39, Tryd.ntmps39
  go_wp2_with fail
  (with_reducible refine (h.out).mono ?_)
  rintro e w' ⟨⟨x, rfl⟩, hP⟩
  replace hP := hide hP
  go_wp2
  exact hP.out

def dN (L Bs : List Nat) (p : Nat) : Nat := dec L Bs p
def lN (L Bs : List Nat) (p : Nat) : Nat := L.getD (dec L Bs p) 0
/-- The answer of 'Symbols': there is no code, or as many symbols as are there. -/
def TopPost (L Bs : List Nat) (n : Nat) (w : World) (e : Ending) (w' : World) : Prop :=
  Upd [] w w' ∧ ((kS L 15 = 32768 ∧ ∃ m v, StopG (lN L Bs) 0 Bs.length n m ∧ e = .returned (.tuple #[v, .int .i64 (kindI n m)]) ∧ w'.ownsRow w.heap.size 3 1 v m ((runSG (dN L Bs) (lN L Bs) 0 m).map (Value.int .i64))) ∨
   (¬ kS L 15 = 32768 ∧ e = .returned (.tuple #[.slice none 0 0, .int .i64 1])))

set_option maxRecDepth 100000 in
set_option maxHeartbeats 4000000 in
theorem implSyms_any (As A : Option Addr) (caps cap n : Nat) (L Bs : List Nat) (ar ae au : Addr) (w : World) (hl : (L.length : Int) ≤ 4096) (hL : ∀ x ∈ L, x ≤ 15) (hk : kS L 15 ≤ 32768) (hn2 : 2 ≤ nz L) (hB : Oct Bs) (hlb : (Bs.length : Int) ≤ 1048576) (hn : (n : Int) ≤ 4096)
    (hSs : Rd .i64 w w.heap.size As (ofN' L)) (hS : Rd .u8 w w.heap.size A (ofN' Bs)) (hTab : TabH w ar) (hE : Ends w ae au) :
    Calls Tryd.prog 20 #[.slice As L.length caps, .slice A Bs.length cap, .int .i64 n] w (TopPost L Bs n w) := by
  have hTl := hTab.lt
  have hEl := hE.lt
  have h0 := tree0_new w
  have u1 := (Upd.refl [] w).alloc (.cells Tryd.zeroCells82 82)
  have h0b := (tree0_new w).upd ((Upd.refl [] _).alloc (.cells #[.slice A Bs.length cap, .int .i64 0, .int .i64 (-1)] 101)) (by simp)
  have h0c := h0b.upd ((Upd.refl [] _).alloc (.cells #[.iface 57 (.pointer (some ⟨w.heap.size + 1, 0, none⟩)), .int .u32 0, .int .u32 0] 99)) (by simp)
  have hR3 := (Blk.new (w.alloc (.cells Tryd.zeroCells82 82)) 101 #[.slice A Bs.length cap, .int .i64 0, .int .i64 (-1)]).alloc (.cells #[.iface 57 (.pointer (some ⟨w.heap.size + 1, 0, none⟩)), .int .u32 0, .int .u32 0] 99)
  have hD3 := Blk.new ((w.alloc (.cells Tryd.zeroCells82 82)).alloc (.cells #[.slice A Bs.length cap, .int .i64 0, .int .i64 (-1)] 101)) 99 #[.iface 57 (.pointer (some ⟨w.heap.size + 1, 0, none⟩)), .int .u32 0, .int .u32 0]
  have u3 := (u1.alloc (.cells #[.slice A Bs.length cap, .int .i64 0, .int .i64 (-1)] 101)).alloc (.cells #[.iface 57 (.pointer (some ⟨w.heap.size + 1, 0, none⟩)), .int .u32 0, .int .u32 0] 99)
  have hz3 : (((w.alloc (.cells Tryd.zeroCells82 82)).alloc (.cells #[.slice A Bs.length cap, .int .i64 0, .int .i64 (-1)] 101)).alloc (.cells #[.iface 57 (.pointer (some ⟨w.heap.size + 1, 0, none⟩)), .int .u32 0, .int .u32 0] 99)).heap.size = w.heap.size + 3 := by simp
  simp only [World.size_alloc] at hD3 hR3
  clear h0 h0b u1
  replace hS := hide hS
  replace hL := hide hL
  replace hSs := hide hSs
  replace hB := hide hB
  replace hTab := hide hTab
  replace hE := hide hE
  replace h0c := hide h0c
  replace hR3 := hide hR3
  replace hD3 := hide hD3
  replace u3 := hide u3
  replace hz3 := hide hz3
  go_enter Tryd.func20, Tryd.ntmps20
  go_wp2_with (first | (go_at_call 31; refine (newReader_any _ _ _ _).mono ?_; rintro e w' ⟨rfl, rfl⟩) | (go_at_call 30; refine (newBits_any _ _).mono ?_; rintro e w' ⟨rfl, rfl⟩) | fail)
  generalize ((w.alloc (.cells Tryd.zeroCells82 82)).alloc (.cells #[.slice A Bs.length cap, .int .i64 0, .int .i64 (-1)] 101)).alloc (.cells #[.iface 57 (.pointer (some ⟨w.heap.size + 1, 0, none⟩)), .int .u32 0, .int .u32 0] 99) = w3 at *
  have hS3 : Rd .i64 w3 w.heap.size As (ofN' L) := hSs.out.upd u3.out (Nat.le_refl _) (by simp)
  (with_reducible refine (words_any As caps L w3 (by omega) (fun x hx => Nat.le_trans (hL.out x hx) (by decide)) (hS3.more u3.out.size)).mono ?_)
  rintro e w4 ⟨v4, rfl, ho4, hb4⟩
  obtain ⟨A4, c4, rfl, _, _⟩ := own_len ho4
  have u4 := u3.out.step (Upd.ofBelow (S := []) hb4) (by simp)
  have h04 := h0c.out.upd (Upd.ofBelow (S := []) hb4) (by simp)
  have hR4 := hide (hR3.out.upd (Upd.ofBelow (S := []) hb4) (by simp))
  have hD4 := hide (hD3.out.upd (Upd.ofBelow (S := []) hb4) (by simp))
  have hz4 : w.heap.size + 3 ≤ w4.heap.size := by rw [← hz3.out]; exact hb4.size
  have hz3s := hz3.out
  have cB := build_any w.heap.size A4 c4 w4.heap.size L ar w4 hl hL.out hk hn2 (Rd.ofOwn ho4) (Nat.le_refl _) (fun a ha => by subst ha; have := (ho4.lt a.block rfl).1; omega) h04 (hTab.out.upd u4 (by simp) (by simp)) (by omega) (by omega)
  have cD := doorBuild_any (P := BuildPost w.heap.size L ar w4) ⟨w.heap.size, 0, none⟩ _ w4 (cB.mono fun e w' h => ⟨by rcases h.2 with ⟨h, _⟩ | ⟨h, _⟩ <;> exact ⟨_, h⟩, h⟩)
  replace u4 := hide u4
  replace cD := hide cD
  replace hz3s := hide hz3s
  clear hb4 h0c hR3 hD3 u3 hz3 h04 cB ho4 hS3
  go_wp2_with fail
  (with_reducible refine (cD.out).mono ?_)
  rintro e w5 ⟨u5, hcase⟩
  have u50 := u4.out.step u5 (by simp)
  have hR5 := hR4.out.upd u5 (by simp)
  have hD5 := hD4.out.upd u5 (by simp; omega)
  rcases hcase with ⟨rfl, nt, ns, lt, hnt, hT, hLu, hM⟩ | ⟨rfl, hbad⟩
  · have hfull := hT.full hM.le (by omega)
    have hkf : kS L 15 = 32768 := by rw [kS_eq L hL.out]; exact hT.kraft_full hM.le (by omega)
    have hnL : nz L ≤ L.length := List.countP_le_length
    have hDn : Done L w5 w.heap.size nt (2 * nz L - 1) ns lt := ⟨hT, hLu, hM, hfull, by omega⟩
    have hE5 := hE.out.keep fun p hp => u50.cell (p := p) (by rcases hp with e | e <;> omega) (by simp)
    have hS5 := hS.out.upd u50 (Nat.le_refl _) (by simp)
    have hu5s := u5.size
    have hD5' : Dec w5 (w.heap.size + 1 + 1) (w.heap.size + 1) A Bs.length cap 0 0 0 := ⟨hD5, -1, hR5⟩
    have hOK : NextOK (dN L Bs) (lN L Bs) Bs w.heap.size (w.heap.size + 1 + 1) (w.heap.size + 1) cap A au w5 := fun i pos nb bt w1 hK hnb hD hU =>
      next_any w.heap.size nt (2 * nz L - 1) (w.heap.size + 1 + 1) (w.heap.size + 1) w.heap.size cap i pos nb bt A L Bs ns lt ae au w1 hL.out hkf (by omega) (hDn.upd hU (by simp; omega) (by simp; omega)) hB.out (by omega) hK hnb hD (hS5.upd hU u50.size (by simp; omega)) (Nat.le_trans u50.size hU.size) (hE5.keep fun p hp => hU.cell (p := p) (by have := u50.size; rcases hp with e | e <;> omega) (by simp; rcases hp with e | e <;> omega)) (by omega) (by omega) (by omega) (by omega) (by omega)
    have cS := symbols_any w.heap.size (w.heap.size + 1 + 1) (w.heap.size + 1) cap 0 0 0 0 n A (dN L Bs) (lN L Bs) Bs au w5 hn (fun p => by
      unfold dN
      have := (dec_hit hL.out hkf Bs p).1.lt
      omega) (Kept.start Bs) (by decide) hD5' hOK (by omega)
    replace cS := hide cS
    replace u50 := hide u50
    replace hkf := hide hkf
    clear cD hT hLu hM hfull hDn hE5 hS5 hD5' hOK hR5 hD5 hR4 hD4 u5 u4
    go_wp2_with fail
    (with_reducible refine (cS.out).mono ?_)
    rintro e w6 ⟨m, v, hst, rfl, ho6, u6⟩
    have hfin : TopPost L Bs n w (.returned (.tuple #[v, .int .i64 (kindI n m)])) w6 := ⟨u50.out.step u6 (by simp; omega), .inl ⟨hkf.out, m, v, hst, rfl, own_down ho6 u50.out.size⟩⟩
    replace hfin := hide hfin
    clear cS hst ho6 u6
    go_wp2
    go_ret2
    exact hfin.out
  · have hfin : TopPost L Bs n w (.returned (.tuple #[.slice none 0 0, .int .i64 1])) w5 := ⟨u50, .inr ⟨hbad, rfl⟩⟩
    replace hfin := hide hfin
    clear cD u50 hR5 hD5 hR4 hD4 u5 u4 hbad
    go_wp2
    go_ret2
    exact hfin.out
end Go.Proofs.YtpiapfahcoopbaaDoor
