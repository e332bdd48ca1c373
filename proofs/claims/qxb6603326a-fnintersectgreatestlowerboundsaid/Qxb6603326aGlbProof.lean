/-
  'Rows.FnIntersectGreatestLowerBoundSaid', out of the walk of Qxb6603326aGlb.lean.
-/
import Derived.Test.Qxb6603326aRows
import Derived.Test.Qxb6603326aGlb
import Derived.Test.Qxb6603326aOpen
import Derived.WalkKit
import Derived.ProofKit
import Derived.OpenShut
import Derived.ChangeOld
import Derived.Below
namespace Go.Proofs.Qxb6603326a
open Go.ChangeShapes Go.WideShapes Go.ChangeAt Go.RowKit

namespace FnIntersectGreatestLowerBound
theorem own : ownKnob Try.prog.godebug = none := by kernel_rfl
theorem laidOut : laidOutB Try.prog = true := by kernel_rfl

set_option maxRecDepth 100000 in
theorem lifted (os : Os) (started : os.Started) (H : Type) (enc : TypeId × Value → H) :
    ReturnsInHanded {} Try.checked os 6 .any (Rows.fnIntersectGreatestLowerBoundSpec.pre6 enc Try.prog Try.f6 Rows.fnIntersectGreatestLowerBoundRow.domain false) (Rows.fnIntersectGreatestLowerBoundSpec.post enc Try.prog Try.f6 false true false false) := by
  refine returnsInHanded_of_change (C := Try.checked) own started (by kernel_rfl) Try.func6
    (ChangeSpec.witness6 (enc := enc) (C := Try.checked) false ⟨#[], #[.agg #[.int .u64 0, .int .u64 0, .int .u64 0], .agg #[.int .u64 0, .int .u64 0, .int .u64 0], .agg #[.int .u64 0, .int .u64 0, .int .u64 0]], []⟩ 8 (by kernel_rfl) (by kernel_rfl) (by kernel_rfl) (by kernel_rfl)) ?_
  intro W base args ds gs before hval0 hW hcnd _
  have hval : ∀ (j : Nat) t v, Try.f6.params[j]? = some t → args[j]? = some v → Value.okWide Try.prog W .any base t v := hval0
  have hW' := hW
  obtain ⟨p, q, hA0, hV, rfl, hfz, hnd⟩ := hW
  have hA : DataW.TrodAll enc Try.prog W 0 (fun _ => true) true Try.f6.params.toList args.toList ds p := hA0
  rw [Try.params6] at hA hval
  obtain ⟨v0, v1, v2, d0, d1, d2, p0, p1, p2, rfl, rfl, rfl, h0, h1, h2⟩ := trodAll_three hA
  obtain ⟨rfl, rfl⟩ := trodVars_none hV
  have lt0 : ∀ x ∈ p0, x.block < W.heap.size := by obtain ⟨m, hm⟩ := h0; exact DataW.trod_lt m _ _ _ hm
  have lt1 : ∀ x ∈ p1, x.block < W.heap.size := by obtain ⟨m, hm⟩ := h1; exact DataW.trod_lt m _ _ _ hm
  have lt2 : ∀ x ∈ p2, x.block < W.heap.size := by obtain ⟨m, hm⟩ := h2; exact DataW.trod_lt m _ _ _ hm
  obtain ⟨s0, s1, s2, rfl, hs0, hs1, hs2⟩ := open_words (hval 0 31 v0 rfl rfl) h0
  obtain ⟨t0, t1, t2, rfl, ht0, ht1, ht2⟩ := open_words (hval 1 31 v1 rfl rfl) h1
  obtain ⟨u0, u1, u2, rfl, hu0, hu1, hu2⟩ := open_words (hval 2 31 v2 rfl rfl) h2
  clear hA0 hval0
  refine (glb6 s0 s1 s2 t0 t1 t2 u0 u1 u2 W hs0 hs1 hs2 ht0 ht1 ht2 hu0 hu1 hu2).mono fun e W' ⟨he, bel⟩ => ?_
  subst he
  exact ⟨_, rfl, _, _, _, [], _, [], hW', trodAll_mk1 (shut_bool Try.underlying4 _), trodAll_mk3 (Below.trod laidOut (by kernel_rfl) (of_decide_eq_true (by kernel_rfl)) h0 bel lt0) (Below.trod laidOut (by kernel_rfl) (of_decide_eq_true (by kernel_rfl)) h1 bel lt1) (Below.trod laidOut (by kernel_rfl) (of_decide_eq_true (by kernel_rfl)) h2 bel lt2), rfl, bel.frame _, fun h => by cases h⟩

theorem over : Rows.fnIntersectGreatestLowerBoundRow.holds Try.pinned (OpenSpec.ofChange Rows.fnIntersectGreatestLowerBoundSpec) :=
  OpenClaim.holds_of_wide 6 Try.f6 rfl rfl rfl rfl rfl rfl rfl ⟨rfl, rfl, rfl, rfl, rfl⟩ rfl rfl rfl rfl rfl (by kernel_rfl) Try.func6 (by kernel_rfl)
    (of_decide_eq_true (by kernel_rfl)) (by unfold Func.isWrapper; first | (rw [if_pos (by decide +kernel)]; kernel_rfl) | (rw [if_neg (by decide +kernel)]; exact ⟨rfl, rfl⟩))
    (fun os started H enc _ => lifted os started H enc)
end FnIntersectGreatestLowerBound

/-- THE STATEMENT. -/
theorem fnIntersectGreatestLowerBound_proved : Rows.FnIntersectGreatestLowerBoundSaid := FnIntersectGreatestLowerBound.over
end Go.Proofs.Qxb6603326a
