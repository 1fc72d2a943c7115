/- Truths read: 'impl.Bools'; 'readBool'. The walks. -/
import Derived.Test.YtleiehiabcgalaaDoorBoolInit
import Derived.Test.YtleiehiabcgalaaDoorBoolDone
import Derived.Test.YtleiehiabcgalaaDoorRdB
namespace Go.Proofs.YtleiehiabcgalaaDoor
set_option linter.unusedSimpArgs false
set_option linter.unusedVariables false
open Go.RowKit Plain

theorem info_bool : (Tryd.prog.info? 4).map (fun i => (i.zero, i.size, i.bytes)) = some (some (Value.bool false), 1, 1) := by kernel_rfl

/-- The reader's state behind some truths. -/
def DS.steps (bytes : List Nat) (s : DS) (es : List (Bool × Nat)) : DS := es.foldl (fun s e => ((s.load bytes).cut e.2).2.norm) s
theorem DS.steps_snoc (bytes : List Nat) (s : DS) (es : List (Bool × Nat)) (e : Bool × Nat) : DS.steps bytes s (es ++ [e]) = (((DS.steps bytes s es).load bytes).cut e.2).2.norm := by simp [DS.steps]

theorem srcOf {w : World} {B g : Nat} {A : Option Addr} {bytes : List Nat} (h : Rd .u8 w B A (ofN bytes)) (hg : B ≤ g) : Src w g A bytes :=
  ⟨fun j hj => by
    obtain ⟨b, off, rfl, hb, hc⟩ := h.at_ (j := j) (by simpa [ofN_length] using hj)
    refine ⟨b, off, rfl, by omega, ?_⟩
    have := hc j (by simpa [ofN_length] using hj)
    rwa [ofN_getD] at this⟩

theorem take_snoc {α : Type} (l : List α) (m : Nat) (h : m < l.length) : l.take (m + 1) = l.take m ++ [l[m]] := List.take_succ_eq_append_getElem h

theorem Codes.at_ {bytes : List Nat} {es : List (Bool × Nat)} (h : Codes bytes Iv.start es) (hp : Probs es) (m : Nat) : Holds bytes (Iv.start.steps (es.take m)) ∧ (Iv.start.steps (es.take m)).ok := by
  have hp1 : Probs (es.take m) := fun x hx => hp x (List.mem_of_mem_take hx)
  have hp2 : Probs (es.drop m) := fun x hx => hp x (List.mem_of_mem_drop hx)
  have hok := Iv.steps_ok (es.take m) _ Iv.start_ok hp1
  refine ⟨?_, hok⟩
  have h2 : Codes bytes (Iv.start.steps (es.take m)) (es.drop m) := by
    unfold Codes at *
    rw [← Iv.steps_append, List.take_append_drop]
    exact h
  exact h2.here hok hp2

set_option maxHeartbeats 4000000 in
theorem bools_any (A Ap : Option Addr) (cap capp Bp : Nat) (bytes : List Nat) (es : List (Bool × Nat)) (w : World) (hb : IsBy bytes) (hlen : bytes.length ≤ 100000000) (hlen2 : es.length ≤ 100000000) (hc : Codes bytes Iv.start es) (hp : Probs es)
    (hR : Rd .u8 w w.heap.size A (ofN bytes)) (hRp : Rd .i64 w w.heap.size Ap (ofN (es.map (·.2)))) (hL : Luts w) :
    Calls Tryd.prog 14 #[.slice A bytes.length cap, .slice Ap es.length capp] w fun x w' => ∃ v, x = .returned (.tuple #[v, .bool false]) ∧
      w'.ownsRow w.heap.size 4 1 v es.length ((es.map (·.1)).map Value.bool) ∧ Below w.heap.size w w' := by
  have hLt := hL.lt
  have c := bools_new A bytes.length cap w
  replace hL := hide hL
  replace hR := hide hR
  replace hRp := hide hRp
  replace hb := hide hb
  replace hc := hide hc
  replace hp := hide hp
  go_enter Tryd.func14, Tryd.ntmps14
  go_wp2_with (first | (go_at_call 21; refine c.mono ?_; rintro e w1 ⟨rfl, hD1, hB1, hk1⟩; replace hD1 := hide hD1; replace hB1 := hide hB1; replace hk1 := hide hk1) | go_in)
  go_loopg [7, 14] es.length (fun k v7 i wr => ∃ m, k + m = es.length ∧ i = .int .i64 m ∧ wr.ownsRow w.heap.size 4 1 v7 m (((es.take m).map (·.1)).map Value.bool) ∧
    DAt wr w.heap.size 0 A bytes.length cap (DS.steps bytes DS.start (es.take m)) false ∧ (DS.steps bytes DS.start (es.take m)).tells bytes (Iv.start.steps (es.take m)) ∧ Below w.heap.size w wr ∧ ∃ cs, Blk wr w.heap.size 58 cs)
  case atStart => exact ⟨0, rfl, rfl, ⟨rfl, .inl ⟨rfl, rfl⟩⟩, hD1.out, DS.start_tells bytes, hB1.out, hk1.out⟩
  case round =>
    obtain ⟨m, hm, rfl, hown, hD, ht, hB, cs, hk⟩ := hrel
    clear hD1 hB1 hk1
    cases gk with
    | zero =>
      have hm' : m = es.length := by omega
      subst hm'
      have cE := doorEnded_any _ _ _ _ _ _ _ hD
      rw [List.take_length] at hown
      replace hown := hide hown
      replace hB := hide hB
      clear hD ht hk
      go_wp2_with (first | (go_at_call 23; refine cE.mono ?_; rintro e w1 ⟨rfl, rfl⟩) | go_in)
      go_ret2
      exact ⟨_, rfl, hown.out, hB.out⟩
    | succ k =>
      have hlt : m < es.length := by omega
      obtain ⟨bb, off, rfl, hbb, hcell⟩ := hRp.out.at_ (j := m) (by simpa [ofN_length] using hlt)
      have ck := (hB.cell (p := ⟨bb, off + m, none⟩) hbb).trans (hcell m (by simpa [ofN_length] using hlt))
      have eg : (ofN (es.map (·.2))).getD m 0 = ((es[m].2 : Nat) : Int) := by rw [ofN_getD]; simp [hlt]
      rw [eg] at ck
      have h1 := hc.out.at_ hp.out m
      have h2 := hc.out.at_ hp.out (m + 1)
      rw [take_snoc es m hlt, Iv.steps_snoc] at h2
      have hpm : es[m].2 ≤ 255 := hp.out _ (by simp)
      have cB := doorBit_any w.heap.size 0 A cap bytes _ _ es[m] wr hb.out ht h1.2 hpm h1.1 h2.1 hlen (srcOf (hR.out.below hB) (Nat.le_refl _)) (hL.out.below hB hLt) (by omega) hD
      rw [← DS.steps_snoc, ← Iv.steps_snoc, ← take_snoc es m hlt] at cB
      have hs := take_snoc es m hlt
      have hki : (m : Int) < es.length := by omega
      have hpi : ((es[m].2 : Nat) : Int) ≤ 255 := by omega
      have hne := own_ne hown hk (by decide)
      have hv7 := fun g hg => (hown.lt g hg).1
      have hwr := hB.size
      have hEx : ((es.take (m + 1)).map (·.1)).map Value.bool = ((es.take m).map (·.1)).map Value.bool ++ [.bool es[m].1] := by simp only [hs, List.map_append, List.map_cons, List.map_nil]
      replace hEx := hide hEx
      replace hown := hide hown
      replace hB := hide hB
      replace hk := hide hk
      replace hs := hide hs
      clear hD ht h1 h2 hcell eg
      generalize es[m] = e at *
      go_wp2_with (first
        | (go_at_call 22; refine cB.mono ?_; rintro x w2 ⟨rfl, ht2, hD2, hO2⟩; have hwr2 : w.heap.size ≤ w2.heap.size := (by rw [hO2.size]; exact hwr); have hown2 := hide (hO2.upd.own hown.out (fun g hg => (by simp; rintro rfl; exact hne hg))); replace ht2 := hide ht2; replace hD2 := hide hD2; replace hO2 := hide hO2)
        | (at_builtin; refine wpList_push rfl (.tmp 18) (.tmp 23) _ rfl w.heap.size 4 _ 1 Tryd.underlying32 info_bool rfl u7 m _ rfl hown2.out _ rfl rfl (by simp only [maxLen]; omega) (by omega) hwr2 ?_; intro v' w3 hown3 hg3; replace hown3 := hide hown3; replace hg3 := hide hg3)
        | go_in)
      go_roundg k
      case measure => omega
      case rel =>
        refine ⟨m + 1, by omega, by go_num, by rw [hEx.out]; exact hown3.out, ?_, ht2.out, ?_, ?_⟩
        · refine hD2.out.keep (fun i _ => World.cell?_of_block (hg3.out.block _ hD2.out.lt hne.symm)) (fun i _ => World.frozen?_of_block (hg3.out.block _ hD2.out.lt hne.symm))
        · exact (hB.out.trans (hO2.out.upd.below (by simp) hwr)).grown hg3.out hwr2 hv7
        · obtain ⟨cs2, hk2⟩ := hO2.out.typ _ _ hk.out
          exact ⟨cs2, hk2.grown hg3.out hne⟩
end Go.Proofs.YtleiehiabcgalaaDoor
