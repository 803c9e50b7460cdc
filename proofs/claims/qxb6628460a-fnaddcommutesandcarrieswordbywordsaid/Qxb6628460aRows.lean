/-
  No cell of these rows narrows 'for every input' (looked for: loops, veiled, ifaces, maps, wideKeys, modest, calm, conditions, laid).
  DERIVED. THE GIVEN ROWS OF THIS SEAT. 2 by the template 'for every input the law returns true; each argument reads behind the call as it read before'; 0 by the template 'total and deterministic' (their statements: Qxb6628460aTotals.lean).
  GIVEN WITH THE SEED: the statements are not yours to turn. If you find one false, say at which input.
  Laid BY PROGRAM, IN A SANDBOX (cutbox-rows.mjs): the forced cells as the released guide's own fill.sh prints them over the translation 0f6261d1ca39fc50… (all of the seat's roots in one cut). By AI agents, Wed Nov 11 2026. No macro, syntax, notation, axiom, sorry.
-/
import Derived.Test.Qxb6628460aChecked
import GoSem.Claim
import GoSem.ClaimJoined
import GoSem.ClaimMapViews
import Derived.JoinedTies
import Derived.KernelRfl
namespace Go.Proofs.Qxb6628460a
/- THE CELL 'sum', in the pinned program and in every row, IS THE sha256 OF THE DUMP (.gsa) THAT Qxb6628460aProg.lean LOADS. Nothing in Lean hashes anything: it is a label: what it is worth is what the hold of that sum in a sandbox is worth. -/
noncomputable def Try.pinned : Pinned := { name := "qxb6628460a", sum := "0f6261d1ca39fc50ea50eaa501aa518f6564e006d227e7d4fee29bcd98368989", checked := Try.checked }
namespace Rows
def none {H : Type} : Left H := { results := [], args := [] }

/-- 'zzlaws_internal_decimal_b1.FnAddAssociativeMatchesWideSum': WHATEVER THE INPUT: true; the input reads as it did. -/
def fnAddAssociativeMatchesWideSumSpec : ChangeSpec := { name := "fnAddAssociativeMatchesWideSum", fn := fun _ => fun
  | [d1, d2, d3, d4, d5, d6] => { results := [.lit (.bool true)], args := [d1, d2, d3, d4, d5, d6] }
  | _ => none }
def fnAddAssociativeMatchesWideSumRow : OpenClaim := { program := "qxb6628460a", sum := "0f6261d1ca39fc50ea50eaa501aa518f6564e006d227e7d4fee29bcd98368989", func := "example.com/crossfill/crossfill/zzlaws_internal_decimal_b1.FnAddAssociativeMatchesWideSum", spec := "fnAddAssociativeMatchesWideSum", inPlace := ["math/bits.Add64"], apart := false }
def FnAddAssociativeMatchesWideSumSaid : Prop := fnAddAssociativeMatchesWideSumRow.holds Try.pinned (OpenSpec.ofChange fnAddAssociativeMatchesWideSumSpec)

/-- ITS FALSE NEIGHBOUR: 'it returns false'. Refute it at one input. -/
def fnAddAssociativeMatchesWideSumWrong : ChangeSpec := { name := "fnAddAssociativeMatchesWideSum", fn := fun _ => fun
  | [d1, d2, d3, d4, d5, d6] => { results := [.lit (.bool false)], args := [d1, d2, d3, d4, d5, d6] }
  | _ => none }
def FnAddAssociativeMatchesWideSumWrongFalsely : Prop := fnAddAssociativeMatchesWideSumRow.holds Try.pinned (OpenSpec.ofChange fnAddAssociativeMatchesWideSumWrong)

/-- 'zzlaws_internal_decimal_b1.FnAddCommutesAndCarriesWordByWord': WHATEVER THE INPUT: true; the input reads as it did. -/
def fnAddCommutesAndCarriesWordByWordSpec : ChangeSpec := { name := "fnAddCommutesAndCarriesWordByWord", fn := fun _ => fun
  | [d1, d2, d3, d4] => { results := [.lit (.bool true)], args := [d1, d2, d3, d4] }
  | _ => none }
def fnAddCommutesAndCarriesWordByWordRow : OpenClaim := { program := "qxb6628460a", sum := "0f6261d1ca39fc50ea50eaa501aa518f6564e006d227e7d4fee29bcd98368989", func := "example.com/crossfill/crossfill/zzlaws_internal_decimal_b1.FnAddCommutesAndCarriesWordByWord", spec := "fnAddCommutesAndCarriesWordByWord", inPlace := ["math/bits.Add64"], apart := false }
def FnAddCommutesAndCarriesWordByWordSaid : Prop := fnAddCommutesAndCarriesWordByWordRow.holds Try.pinned (OpenSpec.ofChange fnAddCommutesAndCarriesWordByWordSpec)

/-- ITS FALSE NEIGHBOUR: 'it returns false'. Refute it at one input. -/
def fnAddCommutesAndCarriesWordByWordWrong : ChangeSpec := { name := "fnAddCommutesAndCarriesWordByWord", fn := fun _ => fun
  | [d1, d2, d3, d4] => { results := [.lit (.bool false)], args := [d1, d2, d3, d4] }
  | _ => none }
def FnAddCommutesAndCarriesWordByWordWrongFalsely : Prop := fnAddCommutesAndCarriesWordByWordRow.holds Try.pinned (OpenSpec.ofChange fnAddCommutesAndCarriesWordByWordWrong)

end Rows
end Go.Proofs.Qxb6628460a
