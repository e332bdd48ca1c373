/-
  A slice of strings among the arguments, opened as 'Strs'.
-/
import Derived.Test.Qxb6603206aBase
import Derived.ProofKit
import Derived.SliceStrings
namespace Go.Proofs.Qxb6603206a
open Go.ChangeShapes Go.WideShapes Go.ChangeAt Go.RowKit

theorem strs_open {H : Type} {enc : TypeId × Value → H} {P : Program} {w : World} {base : Nat} {spare : Nat → Bool} {held : Bool} {t e : TypeId} {a : Option Addr} {n cap : Nat} {fuel : Nat} {x : DataW H × List MemPlace}
    (ht : P.underlying t = some (.slice e)) (he : P.underlying e = some .string) (hc : P.cellsOf e = 1) (h : DataW.trod enc P w base spare held fuel t [.slice a n cap] = some x) :
    ∃ S : Nat → ByteArray, n ≤ maxLen ∧ (∀ i, i < n → (S i).size ≤ maxLen) ∧ Strs w a n S := by
  rcases open_strings ht he hc h with ⟨hcs, _⟩ | ⟨ad, l, c, ss, hcs, _, hl, hm, hz, _, hcell, hwz⟩
  · simp only [List.cons.injEq, Value.slice.injEq, and_true] at hcs
    obtain ⟨rfl, rfl, rfl⟩ := hcs
    exact ⟨fun _ => ByteArray.empty, Nat.zero_le _, fun i hi => absurd hi (by omega), fun h => absurd h (by omega)⟩
  · simp only [List.cons.injEq, Value.slice.injEq, and_true] at hcs
    obtain ⟨rfl, rfl, rfl⟩ := hcs
    have hlen : n ≤ ss.length := by rw [hz]; split <;> omega
    refine ⟨fun i => ss.getD i ByteArray.empty, by omega, fun i hi => ?_, fun hn => ?_⟩
    · apply hwz
      show ss.getD i ByteArray.empty ∈ ss
      rw [List.getD_eq_getElem?_getD, List.getElem?_eq_getElem (by omega)]
      exact List.getElem_mem _
    · obtain ⟨b, off, spot⟩ := ad
      have hc0 := hcell 0 (by omega)
      have hspot : spot = none := by simpa [Addr.add] using World.cell?_spot hc0
      subst hspot
      refine ⟨b, off, rfl, fun i hi => ?_⟩
      have := hcell i (by omega)
      have e : (⟨b, off, none⟩ : Addr).add i = ⟨b, off + i, none⟩ := by
        by_cases h0 : i = 0
        · subst h0; simp [Addr.add]
        · simp [Addr.add, h0]
      rw [e] at this
      exact this

end Go.Proofs.Qxb6603206a
