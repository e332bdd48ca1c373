/-
  An array of three words among the arguments, opened.
-/
import Derived.Test.Qxb6603326aRows
import Derived.Test.Qxb6603326aPlain
import Derived.ProofKit
import Derived.OpenShut
namespace Go.Proofs.Qxb6603326a
open Go.ChangeShapes Go.WideShapes Go.ChangeAt Go.RowKit

theorem cells31 : Try.prog.cellsOf 31 = 3 := by kernel_rfl
theorem cells30 : Try.prog.cellsOf 30 = 1 := by kernel_rfl

theorem W64_of_wf {x : Int} (h : (Lit.int .u64 x).wf = true) : W64 x := by
  have := bounds_u64 h
  exact ⟨by omega, by omega⟩

theorem open_words {H : Type} {enc : TypeId × Value → H} {W : World} {r : Reach} {b0 base : Nat} {spare : Nat → Bool} {held : Bool} {v : Value} {d : DataW H} {p : List MemPlace}
    (hv : Value.okWide Try.prog W r b0 31 v) (h : DataW.Trod enc Try.prog W base spare held 31 v d p) :
    ∃ x0 x1 x2 : Int, v = .agg #[.int .u64 x0, .int .u64 x1, .int .u64 x2] ∧ W64 x0 ∧ W64 x1 ∧ W64 x2 := by
  obtain ⟨cs, rfl, hsz⟩ : ∃ cs : Array Value, v = .agg cs ∧ cs.size = 3 := by
    have := hv
    simp only [Value.okWide, Try.underlying31, cells31] at this
    obtain ⟨cs, h1, h2, _⟩ := this
    exact ⟨cs, h1, h2⟩
  obtain ⟨l⟩ := cs
  match l, hsz with
  | [c0, c1, c2], _ =>
    obtain ⟨fuel, hf⟩ := h
    obtain ⟨xs, m, _, _, _, hxl, hx⟩ := DataW.trod_array Try.underlying31 hf
    have h0 := hx 0 (by omega)
    have h1 := hx 1 (by omega)
    have h2 := hx 2 (by omega)
    rw [cells30] at h0 h1 h2
    match xs, hxl with
    | [y0, y1, y2], _ =>
      obtain ⟨x0, e0, _, w0⟩ := DataW.trod_int Try.underlying30 h0
      obtain ⟨x1, e1, _, w1⟩ := DataW.trod_int Try.underlying30 h1
      obtain ⟨x2, e2, _, w2⟩ := DataW.trod_int Try.underlying30 h2
      simp [Value.cells] at e0 e1 e2
      subst e0 e1 e2
      exact ⟨x0, x1, x2, rfl, W64_of_wf w0, W64_of_wf w1, W64_of_wf w2⟩

end Go.Proofs.Qxb6603326a
