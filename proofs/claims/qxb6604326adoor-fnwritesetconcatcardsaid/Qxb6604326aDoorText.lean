/-
  PLAIN: the text that writeSet writes; and what the walks share on builders.
-/
import Derived.Test.Qxb6604326aDoorHex
import Derived.Lib.OthersKept
import Derived.Lib.AppendIntMem
namespace Go.Proofs.Qxb6604326aDoor
open Go.RowKit

/-- one escape -/
def escB (v : Int) : List UInt8 := 92 :: 120 :: 123 :: (fmt16 v ++ [125])
/-- one range -/
def item (l h : Int) : List UInt8 := escB l ++ (if l < h then 45 :: escB h else [])
/-- the first k ranges -/
def items (L H : Nat → Int) : Nat → List UInt8
  | 0 => []
  | k + 1 => items L H k ++ item (L k) (H k)
def emptyText : List UInt8 := [91, 94, 92, 120, 48, 48, 45, 92, 120, 123, 49, 48, 70, 70, 70, 70, 125, 93]
def setText (L H : Nat → Int) (n : Nat) : List UInt8 := if n = 0 then emptyText else 91 :: (items L H n ++ [93])

theorem escB_length (v : Int) : (escB v).length ≤ 13 := by
  have := fmt16_length v
  simp [escB]; omega
theorem item_length (l h : Int) : (item l h).length ≤ 27 := by
  have := escB_length l
  have := escB_length h
  unfold item
  split <;> simp <;> omega
theorem items_length (L H : Nat → Int) (k : Nat) : (items L H k).length ≤ 27 * k := by
  induction k with
  | zero => simp [items]
  | succ k ih =>
    have := item_length (L k) (H k)
    simp only [items, List.length_append]; omega
theorem setText_length (L H : Nat → Int) (n : Nat) : (setText L H n).length ≤ 27 * n + 18 := by
  have := items_length L H n
  unfold setText
  split
  · simp [emptyText]
  · simp; omega

theorem builder_below {T e : TypeId} {B b : Nat} {bs : List Value} {w w' : World} (h : Lib.IsBuilderF T e B b bs w) (hb : Below w.heap.size w w') : Lib.IsBuilderF T e B b bs w' := by
  have at_ : ∀ p, Lib.BuilderAtF T e B b p bs w → Lib.BuilderAtF T e B b p bs w' := by
    rintro p ⟨hB, v, hbk, ⟨hlen, hown⟩, hne⟩
    have hlt : b < w.heap.size := (Array.getElem?_eq_some_iff.1 hbk).1
    refine ⟨hB, v, (hb.block b hlt).trans hbk, ⟨hlen, ?_⟩, hne⟩
    rcases hown with h0 | ⟨g, cap, cur, fz, hv, hg, hh, r⟩
    · exact Or.inl h0
    · have hlt' : g < w.heap.size := (Array.getElem?_eq_some_iff.1 hh).1
      exact Or.inr ⟨g, cap, cur, fz, hv, hg, (hb.block g hlt').trans hh, r⟩
  exact h.elim (fun x => .inl (at_ _ x)) (fun x => .inr (at_ _ x))

theorem builder_lt {T e : TypeId} {B b : Nat} {bs : List Value} {w : World} (h : Lib.IsBuilderF T e B b bs w) : b < w.heap.size :=
  h.elim (fun x => x.lt) (fun x => x.lt)

theorem byteCells_append (a b : List UInt8) : Lib.byteCells (a ++ b) = Lib.byteCells a ++ Lib.byteCells b := by simp [Lib.byteCells]

end Go.Proofs.Qxb6604326aDoor
