/-
  'Rows.FnFieldsInjectiveSaid', out of the walk of Qxb6603206aInj.lean. The frame: the kit's shell for a law, turned to a string and a slice of strings.
-/
import Derived.Test.Qxb6603206aRows
import Derived.Test.Qxb6603206aInj
import Derived.Test.Qxb6603206aOpen
import Derived.WalkKit
import Derived.ProofKit
import Derived.OpenShut
import Derived.ShutString
import Derived.ChangeOld
import Derived.Below
namespace Go.Proofs.Qxb6603206a
open Go.ChangeShapes Go.WideShapes Go.ChangeAt Go.RowKit
open Go.ChangeMaps (open_string shut_string)

namespace FnFieldsInjective
theorem own : ownKnob Try.prog.godebug = none := by kernel_rfl
theorem laidOut : laidOutB Try.prog = true := by kernel_rfl

set_option maxRecDepth 100000 in
theorem lifted (os : Os) (started : os.Started) (H : Type) (enc : TypeId × Value → H) :
    ReturnsInHanded {} Try.checked os 4 .any (Rows.fnFieldsInjectiveSpec.pre6 enc Try.prog Try.f4 Rows.fnFieldsInjectiveRow.domain false) (Rows.fnFieldsInjectiveSpec.post enc Try.prog Try.f4 false true false false) := by
  refine returnsInHanded_of_change (C := Try.checked) own started (by kernel_rfl) Try.func4
    (ChangeSpec.witness6 (enc := enc) (C := Try.checked) false ⟨#[], #[.string ByteArray.empty, .slice none 0 0, .string ByteArray.empty, .slice none 0 0], []⟩ 8 (by kernel_rfl) (by kernel_rfl) (by kernel_rfl) (by kernel_rfl)) ?_
  intro W base args ds gs before hval0 hW hcnd _
  have hval : ∀ (j : Nat) t v, Try.f4.params[j]? = some t → args[j]? = some v → Value.okWide Try.prog W .any base t v := hval0
  have hW' := hW
  obtain ⟨p, q, hA0, hV, rfl, hfz, hnd⟩ := hW
  have hA : DataW.TrodAll enc Try.prog W 0 (fun _ => true) true Try.f4.params.toList args.toList ds p := hA0
  rw [Try.params4] at hA hval
  obtain ⟨v0, v1, v2, v3, d0, d1, d2, d3, p0, p1, p2, p3, rfl, rfl, rfl, h0, h1, h2, h3⟩ := trodAll_four hA
  obtain ⟨rfl, rfl⟩ := trodVars_none hV
  obtain ⟨s0, rfl, rfl, rfl, hs0⟩ := open_string Try.underlying9 (hval 0 9 v0 rfl rfl) h0
  obtain ⟨a1, len1, cap1, rfl⟩ := okWide_slice Try.underlying22 (hval 1 22 v1 rfl rfl)
  have k1 := h1
  have lt1 : ∀ x ∈ p1, x.block < W.heap.size := by obtain ⟨m, hm⟩ := k1; exact DataW.trod_lt m _ _ _ hm
  obtain ⟨S, hn, hS, hst⟩ : ∃ S : Nat → ByteArray, len1 ≤ maxLen ∧ (∀ i, i < len1 → (S i).size ≤ maxLen) ∧ Strs W a1 len1 S := by
    obtain ⟨fuel, hf⟩ := h1
    exact strs_open Try.underlying22 Try.underlying9 (by kernel_rfl) hf
  obtain ⟨s2, rfl, rfl, rfl, hs2⟩ := open_string Try.underlying9 (hval 2 9 v2 rfl rfl) h2
  obtain ⟨a3, len3, cap3, rfl⟩ := okWide_slice Try.underlying22 (hval 3 22 v3 rfl rfl)
  have k3 := h3
  have lt3 : ∀ x ∈ p3, x.block < W.heap.size := by obtain ⟨m, hm⟩ := k3; exact DataW.trod_lt m _ _ _ hm
  obtain ⟨T, hm, hT, hst3⟩ : ∃ S : Nat → ByteArray, len3 ≤ maxLen ∧ (∀ i, i < len3 → (S i).size ≤ maxLen) ∧ Strs W a3 len3 S := by
    obtain ⟨fuel, hf⟩ := h3
    exact strs_open Try.underlying22 Try.underlying9 (by kernel_rfl) hf
  clear hA0 hval0
  refine (inj4 s0 s2 a1 a3 len1 len3 cap1 cap3 S T W hs0 hs2 hn hm hS hT hst hst3).mono fun e W' ⟨he, bel⟩ => ?_
  subst he
  exact ⟨_, rfl, _, _, _, [], _, [], hW', trodAll_mk1 (shut_bool Try.underlying4 _), trodAll_mk4 (shut_string Try.underlying9 hs0) (Below.trod laidOut (by kernel_rfl) (of_decide_eq_true (by kernel_rfl)) k1 bel lt1) (shut_string Try.underlying9 hs2) (Below.trod laidOut (by kernel_rfl) (of_decide_eq_true (by kernel_rfl)) k3 bel lt3), rfl, bel.frame _, fun h => by cases h⟩

theorem over : Rows.fnFieldsInjectiveRow.holds Try.pinned (OpenSpec.ofChange Rows.fnFieldsInjectiveSpec) :=
  OpenClaim.holds_of_wide 4 Try.f4 rfl rfl rfl rfl rfl rfl rfl ⟨rfl, rfl, rfl, rfl, rfl⟩ rfl rfl rfl rfl rfl (by kernel_rfl) Try.func4 (by kernel_rfl)
    (of_decide_eq_true (by kernel_rfl)) (by unfold Func.isWrapper; first | (rw [if_pos (by decide +kernel)]; kernel_rfl) | (rw [if_neg (by decide +kernel)]; exact ⟨rfl, rfl⟩))
    (fun os started H enc _ => lifted os started H enc)
end FnFieldsInjective

/-- THE STATEMENT. -/
theorem fnFieldsInjective_proved : Rows.FnFieldsInjectiveSaid := FnFieldsInjective.over
end Go.Proofs.Qxb6603206a
