/-
  THE PLAIN LAW: bit q of a word; of 'and' it is both words' bit. Three words: a set of 192 places. No walk.
-/
import Derived.WalkKit
import Derived.Laws.BitsAllLaws
namespace Go.Proofs.Qxb6603326a
open Go.RowKit

/-- Bit q of the word x, as the Go text asks it. -/
def bitOf (x : Int) (q : Nat) : Bool := bits BinOp.and IntKind.u64 (x / 2 ^ q) 1 == 1

theorem bitOf_nat (a q : Nat) (ha : a < 18446744073709551616) : bitOf (a : Int) q = a.testBit q := by
  unfold bitOf
  have e : (a : Int) / 2 ^ q = ((a / 2 ^ q : Nat) : Int) := by
    rw [Int.natCast_ediv]; congr 1
  have hd : a / 2 ^ q < 18446744073709551616 := Nat.lt_of_le_of_lt (Nat.div_le_self _ _) ha
  rw [e, show (1 : Int) = ((1 : Nat) : Int) from rfl, u64_and_nat _ 1 hd (by decide)]
  rw [Nat.testBit, Nat.shiftRight_eq_div_pow, Nat.and_comm]
  have h2 : 1 &&& (a / 2 ^ q) = (a / 2 ^ q) % 2 := by rw [Nat.and_comm, Nat.and_one_is_mod]
  rw [h2]
  rcases Nat.mod_two_eq_zero_or_one (a / 2 ^ q) with h | h <;> rw [h] <;> rfl

/-- A word of 64 bits. -/
def W64 (x : Int) : Prop := 0 ≤ x ∧ x < 18446744073709551616

def andW (x y : Int) : Int := bits BinOp.and IntKind.u64 x y

theorem W64.nat {x : Int} (h : W64 x) : ∃ a : Nat, a < 18446744073709551616 ∧ x = (a : Int) := ⟨x.toNat, by have := h.2; have := h.1; omega, by have := h.1; omega⟩

theorem andW_wf {x y : Int} (hx : W64 x) (hy : W64 y) : W64 (andW x y) := by
  obtain ⟨a, ha, rfl⟩ := hx.nat
  obtain ⟨b, hb, rfl⟩ := hy.nat
  unfold andW
  rw [u64_and_nat a b ha hb]
  have := @Nat.and_le_left a b
  exact ⟨by omega, by omega⟩

theorem bitOf_and {x y : Int} (hx : W64 x) (hy : W64 y) (q : Nat) : bitOf (andW x y) q = (bitOf x q && bitOf y q) := by
  obtain ⟨a, ha, rfl⟩ := hx.nat
  obtain ⟨b, hb, rfl⟩ := hy.nat
  have hl := @Nat.and_le_left a b
  unfold andW
  rw [u64_and_nat a b ha hb, bitOf_nat _ _ (by omega), bitOf_nat _ _ ha, bitOf_nat _ _ hb, Nat.testBit_and]

/-- One of three words. -/
def sel (x0 x1 x2 : Int) (k : Nat) : Int := if k = 0 then x0 else if k = 1 then x1 else x2
/-- Place p of the set of three words. -/
def has (x0 x1 x2 : Int) (p : Nat) : Bool := bitOf (sel x0 x1 x2 (p / 64)) (p % 64)

theorem sel_at (x0 x1 x2 : Int) (p : Nat) (hp : p < 192) : [Value.int IntKind.u64 x0, Value.int IntKind.u64 x1, Value.int IntKind.u64 x2][p / 64]? = some (.int .u64 (sel x0 x1 x2 (p / 64))) := by
  have h : p / 64 < 3 := by omega
  match hk : p / 64, h with
  | 0, _ => rfl
  | 1, _ => rfl
  | 2, _ => rfl

theorem sel_wf {x0 x1 x2 : Int} (h0 : W64 x0) (h1 : W64 x1) (h2 : W64 x2) (k : Nat) : W64 (sel x0 x1 x2 k) := by
  unfold sel; split
  · exact h0
  · split
    · exact h1
    · exact h2

theorem has_and {s0 s1 s2 t0 t1 t2 : Int} (hs0 : W64 s0) (hs1 : W64 s1) (hs2 : W64 s2) (ht0 : W64 t0) (ht1 : W64 t1) (ht2 : W64 t2) (p : Nat) :
    has (andW s0 t0) (andW s1 t1) (andW s2 t2) p = (has s0 s1 s2 p && has t0 t1 t2 p) := by
  unfold has sel
  split
  · exact bitOf_and hs0 ht0 _
  · split
    · exact bitOf_and hs1 ht1 _
    · exact bitOf_and hs2 ht2 _

/-- Every place of a is one of b. -/
def Sub (a0 a1 a2 b0 b1 b2 : Int) : Prop := ∀ p, p < 192 → has a0 a1 a2 p = true → has b0 b1 b2 p = true
def SubTo (a0 a1 a2 b0 b1 b2 : Int) (k : Nat) : Prop := ∀ p, p < k → has a0 a1 a2 p = true → has b0 b1 b2 p = true

theorem SubTo.step {a0 a1 a2 b0 b1 b2 : Int} {k : Nat} (h : SubTo a0 a1 a2 b0 b1 b2 k) (hk : has a0 a1 a2 k = true → has b0 b1 b2 k = true) : SubTo a0 a1 a2 b0 b1 b2 (k + 1) := fun p hp => by
  by_cases e : p = k
  · subst e; exact hk
  · exact h p (by omega)

end Go.Proofs.Qxb6603326a
