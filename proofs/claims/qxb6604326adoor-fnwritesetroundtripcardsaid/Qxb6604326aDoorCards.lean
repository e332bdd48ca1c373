/-
  DERIVED. GIVEN WITH THE SEED: THE CARDS: each row of Qxb6604326aDoorRows.lean that lists a variable, with what it lists TIED to the program's text (the seventh form; the later family's looks); each row that meets fmt, with fmt's text TOLD by the authors' own Lean function (tested against real Go, not proved from fmt's source: count such statements apart). THE CARD IS WHAT COUNTS. Prove the row's statement (the work); the ties are given (Qxb6604326aDoorTie.lean); close each card by the builder's one call (the guide's Derived/Test/ToyasCard.lean, 'card_holds'). Laid BY PROGRAM, IN A SANDBOX (cutbox-door.mjs). By AI agents, Wed Nov 11 2026. No macro, syntax, notation, axiom, sorry.
-/
import Derived.Test.Qxb6604326aDoorRows
import GoSem.ClaimSeven
namespace Go.Proofs.Qxb6604326aDoor
namespace Rows

/-- THE TIED CARD OF 'zzlaws_root_b1.FnWriteSetRoundTrip'. -/
def fnWriteSetRoundTripCard : Claim7 := { stood := { row := fnWriteSetRoundTripRow, standIns := [], harness := (true, "cd6ae74e77135d7570daaf949067e3f97bb94b695e7a45ab16a52331b0502b86"), looks := false }, kinds := [], alts := [], laidByText := true, laidKinds := [.data, .data, .data], laidTests := true, laidLooks := .later }
def FnWriteSetRoundTripCardSaid : Prop := Claim7.holds Tryd.pinned (.plain (OpenSpec.ofChange fnWriteSetRoundTripSpec)) fnWriteSetRoundTripCard

/-- THE TIED CARD OF 'zzlaws_root_b1.FnWriteSetConcat'. -/
def fnWriteSetConcatCard : Claim7 := { stood := { row := fnWriteSetConcatRow, standIns := [], harness := (true, "cd6ae74e77135d7570daaf949067e3f97bb94b695e7a45ab16a52331b0502b86"), looks := false }, kinds := [], alts := [], laidByText := true, laidKinds := [.data, .data, .data], laidTests := true, laidLooks := .later }
def FnWriteSetConcatCardSaid : Prop := Claim7.holds Tryd.pinned (.plain (OpenSpec.ofChange fnWriteSetConcatSpec)) fnWriteSetConcatCard
end Rows
end Go.Proofs.Qxb6604326aDoor
