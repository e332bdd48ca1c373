/-
  What the row's condition gives the walks; a slice of pairs among the arguments, opened.
-/
import Derived.Test.Qxb6604326aDoorRows
import Derived.Test.Qxb6604326aDoorFmt
import Derived.Test.Qxb6604326aDoorPairs
import Derived.ProofKit
import Derived.LaidMore
import Derived.OpenShut
import Derived.Stop.Joined
import Derived.Lib.LaidTab
import Derived.Deep.Slices
namespace Go.Proofs.Qxb6604326aDoor
open Go.ChangeShapes Go.WideShapes Go.ChangeAt Go.RowKit

theorem own : ownKnob Tryd.prog.godebug = none := by kernel_rfl
theorem laidOut : laidOutB Tryd.prog = true := by kernel_rfl
theorem g1 : Tryd.prog.globalNamed Rows.fnWriteSetConcatRow.laid[0].1 = some 1 := by kernel_rfl
theorem g2 : Tryd.prog.globalNamed Rows.fnWriteSetConcatRow.laid[1].1 = some 2 := by kernel_rfl
theorem ty2 : (Tryd.prog.globals[2]?).map (·.type) = some 70 := by kernel_rfl

/-- The door's own heap meets the condition. -/
theorem door_met (os : Os) (args : Array Value) : laidMetH Tryd.prog Rows.fnWriteSetConcatRow.laid ((World.doorLaid Tryd.prog 400 os).forCall (fun _ _ => 0) ⟨#[], args, []⟩).memory :=
  laidMetH_of_parts3 (fuel := 8) (laidMet_of_run' 8 (by kernel_rfl) (by kernel_rfl)) (by kernel_rfl) (by kernel_rfl)

theorem tab_of_laid {W : World} (h : laidMetH Tryd.prog Rows.fnWriteSetConcatRow.laid W) : Tab W := by
  rw [MakeChecks.laidMetH_plain _ _ _ (by kernel_rfl)] at h
  obtain ⟨ps, ⟨g0, t0, cs0, f0, p0, q0, hg0, ht0, hv0, hd0, ⟨g1', t1, cs1, f1, p1, q1, hg1, ht1, hv1, hd1, _, _⟩, _⟩, _, _⟩ := h
  obtain rfl := Option.some.inj (g2.symm.trans hg1)
  obtain rfl := Option.some.inj (ty2.symm.trans ht1)
  obtain ⟨xs, m1, rfl, hx1, _, hn, hel⟩ := DataW.trod_array Tryd.underlying70 hd1
  have c5 : Tryd.prog.cellsOf 5 = 1 := by kernel_rfl
  have h15 := hel 15 (by decide)
  rw [c5] at h15
  have hfst := congrArg Prod.fst hx1
  have hl : xs.map (·.1) = (match (Rows.laid_math_bits_deBruijn64tab : DataW Unit) with | .agg l => l | _ => []) := by
    have e : (Rows.laid_math_bits_deBruijn64tab : DataW Unit) = .agg (xs.map (·.1)) := hfst
    rw [e]
  have hx15 : (xs.map (·.1))[15]? = some (.lit (.int .u8 4)) := by rw [hl]; rfl
  rw [List.getElem?_map, Option.map_eq_some_iff] at hx15
  obtain ⟨x15, he, hv⟩ := hx15
  rw [he] at h15
  obtain ⟨k, e1, e2, _⟩ := DataW.trod_int Tryd.underlying5 h15
  have hk : k = 4 := by
    rw [e2] at hv
    simpa using hv
  subst hk
  have hc := World.var?_cell hg1 hv1 15
  unfold Tab
  rw [hc]
  have h0 : ((cs1.toList.drop (15 * 1)).take 1)[0]? = some (.int .u8 4) := by rw [e1]; rfl
  simpa [List.getElem?_take, List.getElem?_drop] using h0

theorem cells28 : Tryd.prog.cellsOf 28 = 2 := by kernel_rfl
theorem cells21 : Tryd.prog.cellsOf 21 = 1 := by kernel_rfl

theorem I32_of_wf {x : Int} (h : (Lit.int .i32 x).wf = true) : I32 x := by
  have := bounds_i32 h
  exact ⟨by omega, by omega⟩

open Go.Deep in
theorem pairs_open {H : Type} {enc : TypeId × Value → H} {W : World} {base : Nat} {spare : Nat → Bool} {held : Bool} {a : Option Addr} {n cap : Nat} {fuel : Nat} {x : DataW H × List MemPlace}
    (h : DataW.trod enc Tryd.prog W base spare held fuel 22 [.slice a n cap] = some x) :
    ∃ L R : Nat → Int, n ≤ maxLen ∧ Pairs W a n L R ∧ (∀ i, i < n → I32 (L i)) ∧ (∀ i, i < n → I32 (R i)) := by
  rcases open_slice Tryd.underlying22 h with ⟨hcs, _⟩ | ⟨ad, l, c, m, k, D, Pl, hcs, _, hl, hm, hmm, _, hx⟩
  · simp only [List.cons.injEq, Value.slice.injEq, and_true] at hcs
    obtain ⟨rfl, rfl, rfl⟩ := hcs
    exact ⟨fun _ => 0, fun _ => 0, Nat.zero_le _, fun h => absurd h (by omega), fun i hi => absurd hi (by omega), fun i hi => absurd hi (by omega)⟩
  · simp only [List.cons.injEq, Value.slice.injEq, and_true] at hcs
    obtain ⟨rfl, rfl, rfl⟩ := hcs
    have hlm : n ≤ m := by rw [hmm]; split <;> omega
    have each : ∀ i, i < n → ∃ q : Int × Int, W.cell? (ad.add (i * 2)) = some (.int .i32 q.1) ∧ W.cell? (ad.add (i * 2 + 1)) = some (.int .i32 q.2) ∧ I32 q.1 ∧ I32 q.2 := by
      intro i hi
      obtain ⟨cs', h1, h2⟩ := hx i (by omega)
      rw [cells28] at h1
      obtain ⟨_, hlen, hcell⟩ := World.cells?_some h1
      obtain ⟨xs, k', _, _, _, hxl, hf⟩ := DataW.trod_array Tryd.underlying28 h2
      have g0 := hf 0 (by omega)
      have g1 := hf 1 (by omega)
      rw [cells21] at g0 g1
      match xs, hxl, cs', hlen with
      | [y0, y1], _, [v0, v1], _ =>
        obtain ⟨z0, e0, _, w0⟩ := DataW.trod_int Tryd.underlying21 g0
        obtain ⟨z1, e1, _, w1⟩ := DataW.trod_int Tryd.underlying21 g1
        simp at e0 e1
        subst e0 e1
        have c0 := hcell 0 (by omega)
        have c1 := hcell 1 (by omega)
        rw [add_add] at c0 c1
        exact ⟨(z0, z1), by simpa using c0, by simpa using c1, I32_of_wf w0, I32_of_wf w1⟩
    obtain ⟨q, hq⟩ := choose_lt each
    refine ⟨fun i => (q i).1, fun i => (q i).2, by omega, ?_, fun i hi => (hq i hi).2.2.1, fun i hi => (hq i hi).2.2.2⟩
    intro hn
    obtain ⟨b, off, spot⟩ := ad
    have hc0 := (hq 0 hn).1
    have hspot : spot = none := by simpa [Addr.add] using World.cell?_spot hc0
    subst hspot
    refine ⟨b, off, rfl, fun i hi => ?_⟩
    obtain ⟨c0, c1, _⟩ := hq i hi
    rw [add_plain] at c0 c1
    exact ⟨c0, by rw [Nat.add_assoc]; exact c1⟩

end Go.Proofs.Qxb6604326aDoor
