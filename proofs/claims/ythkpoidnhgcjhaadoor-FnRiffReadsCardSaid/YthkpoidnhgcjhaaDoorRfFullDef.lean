/- 'io.ReadFull': words. No walk. -/
import Derived.Test.YthkpoidnhgcjhaaDoorRfRead
namespace Go.Proofs.YthkpoidnhgcjhaaDoor
set_option linter.unusedSimpArgs false
set_option linter.unusedVariables false
open Go.RowKit Plain

theorem Chain.more : ∀ {ls : List Lv} {w : World} {B p : Nat} {cl : List Int} {bs : List Nat} {T T' : Nat}, Chain w B p cl ls bs T → T ≤ T' → Chain w B p cl ls bs T'
  | [], _, _, _, _, _, _, _, h, hT => by
    obtain ⟨A, cap, C, capc, turn, h1, h2, h3, h4, h5⟩ := Base.h h
    exact ⟨⟨A, cap, C, capc, turn, h1, h2, h3, h4, by omega⟩, Base.ge h⟩
  | _ :: ls, _, _, _, _, _, _, _, h, hT => ⟨h.1, h.2.1, Chain.more h.2.2.1 hT, h.2.2.2⟩
/-- The error of a reading that was to be full: of m bytes, where there are a. -/
def fullV (ae au : Addr) (m a : Nat) : Value := if m ≤ a then .nilIface else if a = 0 then .iface 122 (.pointer (some ae)) else .iface 122 (.pointer (some au))
/-- What 'ReadFull' answers. -/
def FullPost (av : List Nat) (m d off : Nat) (td : TypeId) (cs : Array Value) (S : List Nat) (St : Nat → World → Prop) (ae au : Addr) (w : World) (e : Ending) (w' : World) : Prop :=
  e = .returned (.tuple #[.int .i64 (min m av.length : Nat), fullV ae au m av.length]) ∧ (∃ cs', Blk w' d td cs' ∧ Fill cs cs' off (av.take m)) ∧ Upd S w w' ∧ St (min m av.length) w'
theorem take_more (l : List Nat) (n k : Nat) : l.take n ++ (l.drop n).take k = l.take (n + k) := by
  rw [List.take_add]
/-- How many rounds are left. -/
def leftR (m n : Nat) (eof : Bool) : Nat := (m - n) + if eof then 0 else 1
end Go.Proofs.YthkpoidnhgcjhaaDoor
