/-
  Slices among the arguments, opened: of strings, of bools, of slices of strings.
-/
import Derived.Test.Qxb6603233aSizes
import Derived.ProofKit
import Derived.ChangeArms
import Derived.Deep.Slices
namespace Go.Proofs.Qxb6603233a
open Go.ChangeShapes Go.WideShapes Go.ChangeAt Go.RowKit Go.Deep

section
variable {H : Type} {enc : TypeId × Value → H} {P : Program} {w : World} {base : Nat} {spare : Nat → Bool} {held : Bool}

theorem Row.congr {base : Nat} {a : Option Addr} {n : Nat} {f g : Nat → Value} (h : Row w base a n f) (e : ∀ i, i < n → f i = g i) : Row w base a n g := by
  intro hn
  obtain ⟨b, off, h1, h2, h3⟩ := h hn
  exact ⟨b, off, h1, h2, fun i hi => by rw [h3 i hi, e i hi]⟩

theorem row_open {t e : TypeId} {a : Option Addr} {n cap : Nat} {fuel : Nat} {x : DataW H × List MemPlace} (ht : P.underlying t = some (.slice e)) (hc : P.cellsOf e = 1) (h : DataW.trod enc P w base spare held fuel t [.slice a n cap] = some x) :
    n ≤ maxLen ∧ ∃ V : Nat → Value, Row w 0 a n V ∧ ∃ m, ∀ i, i < n → ∃ d, DataW.trod enc P w base spare held m e [V i] = some d := by
  rcases open_slice1 ht hc h with ⟨hcs, _⟩ | ⟨ad, l, c, m, k, V, D, Pl, hcs, _, hl, hm, hmm, _, hx⟩
  · simp only [List.cons.injEq, Value.slice.injEq, and_true] at hcs
    obtain ⟨rfl, rfl, rfl⟩ := hcs
    exact ⟨Nat.zero_le _, fun _ => .bool false, fun h => absurd h (by omega), 0, fun i hi => absurd hi (by omega)⟩
  · simp only [List.cons.injEq, Value.slice.injEq, and_true] at hcs
    obtain ⟨rfl, rfl, rfl⟩ := hcs
    have hlm : n ≤ m := by rw [hmm]; split <;> omega
    refine ⟨by omega, V, fun hn => ?_, k, fun i hi => ⟨_, (hx i (by omega)).2⟩⟩
    obtain ⟨b, off, spot⟩ := ad
    have hc0 := (hx 0 (by omega)).1
    have hspot : spot = none := by simpa [Addr.add] using World.cell?_spot hc0
    subst hspot
    refine ⟨b, off, rfl, Nat.zero_le _, fun i hi => ?_⟩
    have := (hx i (by omega)).1
    have e : (⟨b, off, none⟩ : Addr).add i = ⟨b, off + i, none⟩ := by
      by_cases h0 : i = 0
      · subst h0; simp [Addr.add]
      · simp [Addr.add, h0]
    rw [e] at this
    exact this

theorem strs_open {t e : TypeId} {a : Option Addr} {n cap : Nat} {fuel : Nat} {x : DataW H × List MemPlace} (ht : P.underlying t = some (.slice e)) (he : P.underlying e = some .string) (hc : P.cellsOf e = 1) (h : DataW.trod enc P w base spare held fuel t [.slice a n cap] = some x) :
    ∃ S : Nat → ByteArray, n ≤ maxLen ∧ Lens n S ∧ Row w 0 a n (strs S) := by
  obtain ⟨hn, V, hr, m, hx⟩ := row_open ht hc h
  obtain ⟨S, hS⟩ := choose_lt (α := ByteArray) (p := fun i s => V i = .string s ∧ s.size ≤ maxLen) (fun i hi => by
    obtain ⟨d, hd⟩ := hx i hi
    obtain ⟨s, h1, _, h3⟩ := DataW.trod_string he hd
    exact ⟨s, by simpa using h1, h3⟩)
  exact ⟨S, hn, fun i hi => (hS i hi).2, hr.congr fun i hi => (hS i hi).1⟩

theorem bools_open {t e : TypeId} {a : Option Addr} {n cap : Nat} {fuel : Nat} {x : DataW H × List MemPlace} (ht : P.underlying t = some (.slice e)) (he : P.underlying e = some .bool) (hc : P.cellsOf e = 1) (h : DataW.trod enc P w base spare held fuel t [.slice a n cap] = some x) :
    ∃ Z : Nat → Bool, n ≤ maxLen ∧ Row w 0 a n (bools Z) := by
  obtain ⟨hn, V, hr, m, hx⟩ := row_open ht hc h
  obtain ⟨Z, hZ⟩ := choose_lt (α := Bool) (p := fun i s => V i = .bool s) (fun i hi => by
    obtain ⟨d, hd⟩ := hx i hi
    obtain ⟨s, h1, _⟩ := DataW.trod_bool he hd
    exact ⟨s, by simpa using h1⟩)
  exact ⟨Z, hn, hr.congr fun i hi => hZ i hi⟩

theorem slice_cell {t e : TypeId} {v : Value} {fuel : Nat} {x : DataW H × List MemPlace} (ht : P.underlying t = some (.slice e)) (hc : P.cellsOf e = 1) (h : DataW.trod enc P w base spare held fuel t [v] = some x) : ∃ a n c, v = .slice a n c := by
  rcases open_slice1 ht hc h with ⟨hcs, _⟩ | ⟨ad, l, c, m, k, V, D, Pl, hcs, _⟩
  · exact ⟨none, 0, 0, by simpa using hcs⟩
  · exact ⟨some ad, l, c, by simpa using hcs⟩

theorem nest_open {t e q : TypeId} {a : Option Addr} {n cap : Nat} {fuel : Nat} {x : DataW H × List MemPlace} (ht : P.underlying t = some (.slice e)) (he : P.underlying e = some (.slice q)) (hq : P.underlying q = some .string) (hc : P.cellsOf e = 1) (hcq : P.cellsOf q = 1) (h : DataW.trod enc P w base spare held fuel t [.slice a n cap] = some x) :
    ∃ (A : Nat → Option Addr) (M C : Nat → Nat) (U : Nat → Nat → ByteArray), n ≤ maxLen ∧ (∀ i, i < n → M i ≤ maxLen) ∧ (∀ i, i < n → Lens (M i) (U i)) ∧ Nest w 0 a n A M C U := by
  obtain ⟨hn, V, hr, m, hx⟩ := row_open ht hc h
  obtain ⟨y, hy⟩ := choose_lt (α := Option Addr × Nat × Nat × (Nat → ByteArray)) (p := fun i y => V i = .slice y.1 y.2.1 y.2.2.1 ∧ y.2.1 ≤ maxLen ∧ Lens y.2.1 y.2.2.2 ∧ Row w 0 y.1 y.2.1 (strs y.2.2.2)) (fun i hi => by
    obtain ⟨d, hd⟩ := hx i hi
    obtain ⟨a', n', c', hv⟩ := slice_cell he hcq hd
    rw [hv] at hd
    obtain ⟨S, h1, h2, h3⟩ := strs_open he hq hcq hd
    exact ⟨(a', n', c', S), hv, h1, h2, h3⟩)
  exact ⟨fun i => (y i).1, fun i => (y i).2.1, fun i => (y i).2.2.1, fun i => (y i).2.2.2, hn, fun i hi => (hy i hi).2.1, fun i hi => (hy i hi).2.2.1,
    ⟨hr.congr fun i hi => (hy i hi).1, fun i hi => (hy i hi).2.2.2⟩⟩
end
end Go.Proofs.Qxb6603233a
