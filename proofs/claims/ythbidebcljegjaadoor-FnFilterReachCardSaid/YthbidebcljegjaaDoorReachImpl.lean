/- 'impl.FilterNormal' over 16 lines: only places next to the edge turn. The walk. -/
import Derived.Test.YthbidebcljegjaaDoorFilt246
import Derived.Test.YthbidebcljegjaaDoorFiltLaw
namespace Go.Proofs.YthbidebcljegjaaDoor
set_option linter.unusedSimpArgs false
set_option linter.unusedVariables false
open Go.RowKit

set_option maxRecDepth 100000 in
set_option maxHeartbeats 2000000 in
theorem doorNormal_any (base g n cap : Nat) (P : List Int) (lev il hl c s st : Int) (four : Bool) (S : Nat → Prop) (w : World) (hn : P.length = n) (hB : Bytes P) (hF : Fits8 n c s st 16) (hlev : 0 ≤ lev ∧ lev ≤ 255) (hil : 0 ≤ il ∧ il ≤ 255) (hhl : 0 ≤ hl ∧ hl ≤ 255)
    (hbd : -16384 ≤ c ∧ c ≤ 16384 ∧ -16384 ≤ s ∧ s ≤ 16384 ∧ -16384 ≤ st ∧ st ≤ 16384) (hnn : n ≤ 16384)
    (hS : ∀ m : Nat, m < 16 → ∀ j : Int, (if four then -2 else -3) ≤ j → j ≤ (if four then 1 else 2) → S (c + m * st + j * s).toNat)
    (hown : w.ownsRow base 5 1 (.slice (some ⟨g, 0, none⟩) n cap) n (P.map (Value.int .u8))) :
    Calls Tryd.prog 50 #[.slice (some ⟨g, 0, none⟩) n cap, .int .i64 16, .int .i64 lev, .int .i64 il, .int .i64 hl, .int .i64 c, .int .i64 st, .int .i64 s, .bool four] w fun e w' => e = .returned (.tuple #[]) ∧
      (∃ Q, Tch S P Q ∧ w'.ownsRow base 5 1 (.slice (some ⟨g, 0, none⟩) n cap) n (Q.map (Value.int .u8))) ∧ Upd [g] w w' := by
  have cF := hide (filter246_any base g n cap P lev il hl c s st four S w hn hB hF hlev hil hhl hbd hnn hS hown)
  clear hn hB hF hlev hil hhl hbd hnn hS hown
  go_enter Tryd.func50, Tryd.ntmps50
  go_wp2_with fail
  (with_reducible refine (cF.out).mono ?_)
  rintro e w2 ⟨rfl, hQ, hU⟩
  replace hQ := hide hQ
  replace hU := hide hU
  go_wp2
  go_end0
  exact ⟨rfl, hQ.out, hU.out⟩

set_option maxRecDepth 100000 in
set_option maxHeartbeats 2000000 in
theorem implNormal_any (A : Option Addr) (cap : Nat) (P : List Int) (lev il hl c s st : Int) (four : Bool) (S : Nat → Prop) (w : World) (hB : Bytes P) (hF : Fits8 P.length c s st 16) (hlev : 0 ≤ lev ∧ lev ≤ 255) (hil : 0 ≤ il ∧ il ≤ 255) (hhl : 0 ≤ hl ∧ hl ≤ 255)
    (hbd : -16384 ≤ c ∧ c ≤ 16384 ∧ -16384 ≤ s ∧ s ≤ 16384 ∧ -16384 ≤ st ∧ st ≤ 16384) (hnn : P.length ≤ 16384)
    (hS : ∀ m : Nat, m < 16 → ∀ j : Int, (if four then -2 else -3) ≤ j → j ≤ (if four then 1 else 2) → S (c + m * st + j * s).toNat) (hr : Rd .u8 w w.heap.size A P) :
    Calls Tryd.prog 31 #[.slice A P.length cap, .int .i64 16, .int .i64 lev, .int .i64 il, .int .i64 hl, .int .i64 c, .int .i64 st, .int .i64 s, .bool four] w fun e w' =>
      ∃ g cap' Q, e = .returned (.slice (some ⟨g, 0, none⟩) P.length cap') ∧ Tch S P Q ∧
      w'.ownsRow w.heap.size 5 1 (.slice (some ⟨g, 0, none⟩) P.length cap') P.length (Q.map (Value.int .u8)) ∧ Below w.heap.size w w' := by
  obtain ⟨i0, hi, hz, hz1, hz2⟩ := info_parts info_u8f
  have hpos : 0 < P.length := by have := hF 0 (by decide) 0 (by decide) (by decide); omega
  obtain ⟨b, off, rfl, hb, hc⟩ := hr.at_ hpos
  have hnews := hide (news_of hc)
  have hlen : P.length ≤ 65535 := by omega
  have cF := fun g cap' W => doorNormal_any w.heap.size g P.length cap' P lev il hl c s st four S W rfl hB hF hlev hil hhl hbd hnn hS
  replace cF := hide cF
  clear hr hc hS hF hB hlev hil hhl hbd
  go_enter Tryd.func31, Tryd.ntmps31
  go_wp2_with (at_builtin; refine wpList_append_own _ rfl (.const (.slice none 0 0)) (.tmp 20) 33 rfl w.heap.size 5 i0 _ 1 1 Tryd.underlying33 hi hz hz1 hz2 rfl (by decide) (.slice none 0 0) 0 [] rfl ⟨rfl, .inl ⟨rfl, rfl⟩⟩ ⟨b, off, none⟩ P.length cap (P.map (Value.int .u8)) rfl (by simp) hnews.out (ints_oneCell .u8 P) (by simp only [maxLen]; omega) (by omega) (by simp) ?_; intro v1 w1 hown1 hg1 _; simp only [Nat.zero_add, List.nil_append] at hown1; obtain ⟨g, cap', rfl, hg, _⟩ := hown1.form hpos; have hbl1 := hide ((Below.refl w.heap.size w).grown hg1 (Nat.le_refl _) (fun k hk => by simp [Value.ownBlock] at hk)); replace hown1 := hide hown1; clear hg1 hnews)
  (with_reducible refine (cF.out _ _ _ hown1.out).mono ?_)
  rintro e w2 ⟨rfl, ⟨Q, hT, ho2⟩, hu2⟩
  have hbl2 := hide (hbl1.out.trans (hu2.below (B := w.heap.size) (by simp; omega) hbl1.out.size))
  replace ho2 := hide ho2
  replace hT := hide hT
  clear hu2 hown1 hbl1
  go_wp2
  go_ret
  exact ⟨g, cap', Q, rfl, hT.out, ho2.out, hbl2.out⟩
end Go.Proofs.YthbidebcljegjaaDoor
