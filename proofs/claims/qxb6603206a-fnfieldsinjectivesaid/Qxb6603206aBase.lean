/-
  What the walks of this seat share: a slice of strings as a function of its index; the sum of the strings' lengths. Plain, but for 'Strs' and its carrying over a grown world.
-/
import Derived.WalkKit
namespace Go.Proofs.Qxb6603206a
open Go.RowKit

theorem hide {p : Prop} (h : p) : Hid p := h
theorem unhide {p : Prop} (h : Hid p) : p := h

theorem i64wrap (x : Int) (h0 : -9223372036854775808 ≤ x) (h1 : x ≤ 9223372036854775807) : IntKind.i64.wrap x = x := by
  rw [IntKind.wrap_i64]
  omega

/-- The slice value '.slice a n cap' leads to the n strings S 0 .. S (n-1). -/
def Strs (w : World) (a : Option Addr) (n : Nat) (S : Nat → ByteArray) : Prop :=
  0 < n → ∃ b off, a = some ⟨b, off, none⟩ ∧ ∀ i, i < n → w.cell? ⟨b, off + i, none⟩ = some (.string (S i))

theorem lt_of_cell {w : World} {b o : Nat} {v : Value} (h : w.cell? ⟨b, o, none⟩ = some v) : b < w.heap.size := by
  have := block_lt_of_cell h
  simpa using this

theorem Strs.below {w w' : World} {a : Option Addr} {n : Nat} {S : Nat → ByteArray} (h : Strs w a n S) (hb : Below w.heap.size w w') : Strs w' a n S := by
  intro hn
  obtain ⟨b, off, rfl, hc⟩ := h hn
  refine ⟨b, off, rfl, fun i hi => ?_⟩
  rw [hb.cell (p := ⟨b, off + i, none⟩) (lt_of_cell (hc i hi))]
  exact hc i hi

/-- The lengths of the first k strings, added up. -/
def sumS (S : Nat → ByteArray) : Nat → Nat
  | 0 => 0
  | k + 1 => sumS S k + (S k).size

theorem sumS_mono (S : Nat → ByteArray) (i j : Nat) (h : i ≤ j) : sumS S i ≤ sumS S j := by
  induction j with
  | zero => have : i = 0 := by omega
            subst this; exact Nat.le_refl _
  | succ j ih =>
    by_cases e : i = j + 1
    · subst e; exact Nat.le_refl _
    · have := ih (by omega)
      simp only [sumS]; omega

theorem size_le_sumS (S : Nat → ByteArray) (i n : Nat) (h : i < n) : (S i).size ≤ sumS S n := by
  have := sumS_mono S (i + 1) n h
  simp only [sumS] at this; omega

theorem bcell {W w1 : World} (hb : Below W.heap.size W w1) : (∀ b o, b < W.heap.size → w1.cell? ⟨b, o, none⟩ = W.cell? ⟨b, o, none⟩) ∧ (∀ b o, b < W.heap.size → w1.frozen? ⟨b, o, none⟩ = W.frozen? ⟨b, o, none⟩) :=
  ⟨fun b o h => hb.cell (p := ⟨b, o, none⟩) h, fun b o h => hb.frozen (p := ⟨b, o, none⟩) h⟩

end Go.Proofs.Qxb6603206a
