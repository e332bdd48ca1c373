/-
  No cell of these rows narrows 'for every input' (looked for: loops, veiled, ifaces, maps, wideKeys, modest, calm, conditions, laid).
  DERIVED. THE GIVEN ROWS OF THIS SEAT. 2 by the template 'for every input the law returns true; each argument reads behind the call as it read before'; 0 by the template 'total and deterministic' (their statements: Qxb6603206aTotals.lean).
  GIVEN WITH THE SEED: the statements are not yours to turn. If you find one false, say at which input.
  Laid BY PROGRAM, IN A SANDBOX (cutbox-rows.mjs): the forced cells as the released guide's own fill.sh prints them over the translation b7a8bc11fbae7251… (all of the seat's roots in one cut). By AI agents, Wed Nov 11 2026. No macro, syntax, notation, axiom, sorry.
-/
import Derived.Test.Qxb6603206aChecked
import GoSem.Claim
import GoSem.ClaimJoined
import GoSem.ClaimMapViews
import Derived.JoinedTies
import Derived.KernelRfl
namespace Go.Proofs.Qxb6603206a
/- THE CELL 'sum', in the pinned program and in every row, IS THE sha256 OF THE DUMP (.gsa) THAT Qxb6603206aProg.lean LOADS. Nothing in Lean hashes anything: it is a label: what it is worth is what the hold of that sum in a sandbox is worth. -/
noncomputable def Try.pinned : Pinned := { name := "qxb6603206a", sum := "b7a8bc11fbae725195be4593fbf6bd9ebc60b8c39ff91f791c4ffc6b3c7fbb47", checked := Try.checked }
namespace Rows
def none {H : Type} : Left H := { results := [], args := [] }

/-- 'zzlaws_pkg_instruction_b1.FnFieldsExact': WHATEVER THE INPUT: true; the input reads as it did. -/
def fnFieldsExactSpec : ChangeSpec := { name := "fnFieldsExact", fn := fun _ => fun
  | [d1, d2] => { results := [.lit (.bool true)], args := [d1, d2] }
  | _ => none }
def fnFieldsExactRow : OpenClaim := { program := "qxb6603206a", sum := "b7a8bc11fbae725195be4593fbf6bd9ebc60b8c39ff91f791c4ffc6b3c7fbb47", func := "example.com/tuoguan/tuoguan/zzlaws_pkg_instruction_b1.FnFieldsExact", spec := "fnFieldsExact", inPlace := ["internal/abi.NoEscape", "internal/bytealg.MakeNoZero"], apart := false }
def FnFieldsExactSaid : Prop := fnFieldsExactRow.holds Try.pinned (OpenSpec.ofChange fnFieldsExactSpec)

/-- ITS FALSE NEIGHBOUR: 'it returns false'. Refute it at one input. -/
def fnFieldsExactWrong : ChangeSpec := { name := "fnFieldsExact", fn := fun _ => fun
  | [d1, d2] => { results := [.lit (.bool false)], args := [d1, d2] }
  | _ => none }
def FnFieldsExactWrongFalsely : Prop := fnFieldsExactRow.holds Try.pinned (OpenSpec.ofChange fnFieldsExactWrong)

/-- 'zzlaws_pkg_instruction_b1.FnFieldsInjective': WHATEVER THE INPUT: true; the input reads as it did. -/
def fnFieldsInjectiveSpec : ChangeSpec := { name := "fnFieldsInjective", fn := fun _ => fun
  | [d1, d2, d3, d4] => { results := [.lit (.bool true)], args := [d1, d2, d3, d4] }
  | _ => none }
def fnFieldsInjectiveRow : OpenClaim := { program := "qxb6603206a", sum := "b7a8bc11fbae725195be4593fbf6bd9ebc60b8c39ff91f791c4ffc6b3c7fbb47", func := "example.com/tuoguan/tuoguan/zzlaws_pkg_instruction_b1.FnFieldsInjective", spec := "fnFieldsInjective", inPlace := ["internal/abi.NoEscape", "internal/bytealg.MakeNoZero"], apart := false }
def FnFieldsInjectiveSaid : Prop := fnFieldsInjectiveRow.holds Try.pinned (OpenSpec.ofChange fnFieldsInjectiveSpec)

/-- ITS FALSE NEIGHBOUR: 'it returns false'. Refute it at one input. -/
def fnFieldsInjectiveWrong : ChangeSpec := { name := "fnFieldsInjective", fn := fun _ => fun
  | [d1, d2, d3, d4] => { results := [.lit (.bool false)], args := [d1, d2, d3, d4] }
  | _ => none }
def FnFieldsInjectiveWrongFalsely : Prop := fnFieldsInjectiveRow.holds Try.pinned (OpenSpec.ofChange fnFieldsInjectiveWrong)

end Rows
end Go.Proofs.Qxb6603206a
