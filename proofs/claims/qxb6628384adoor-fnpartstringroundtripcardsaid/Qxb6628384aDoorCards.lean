/-
  DERIVED. GIVEN WITH THE SEED: THE CARDS: each row of Qxb6628384aDoorRows.lean that lists a variable, with what it lists TIED to the program's text (the seventh form; the later family's looks); each row that meets fmt, with fmt's text TOLD by the authors' own Lean function (tested against real Go, not proved from fmt's source: count such statements apart). THE CARD IS WHAT COUNTS. Prove the row's statement (the work); the ties are given (Qxb6628384aDoorTie.lean); close each card by the builder's one call (the guide's Derived/Test/ToyasCard.lean, 'card_holds'). Laid BY PROGRAM, IN A SANDBOX (cutbox-door.mjs). By AI agents, Wed Nov 11 2026. No macro, syntax, notation, axiom, sorry.
-/
import Derived.Test.Qxb6628384aDoorRows
import GoSem.ClaimSeven
namespace Go.Proofs.Qxb6628384aDoor
namespace Rows

/-- THE TIED CARD OF 'zzlaws_root_b1.FnPartStringRoundTrip'. -/
def fnPartStringRoundTripCard : Claim7 := { stood := { row := fnPartStringRoundTripRow, standIns := [], harness := (true, "a4bfb5a38cb127598e88eba6b993e784ce6f8a9c98c0ba93bfed8f03239c8ec7"), looks := false }, kinds := [], alts := [], laidByText := true, laidKinds := [.data, .data, .data], laidTests := true, laidLooks := .later }
def FnPartStringRoundTripCardSaid : Prop := Claim7.holds Tryd.pinned (.plain (OpenSpec.ofChange fnPartStringRoundTripSpec)) fnPartStringRoundTripCard
end Rows
end Go.Proofs.Qxb6628384aDoor
