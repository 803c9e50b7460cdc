/-
  No cell of these rows narrows 'for every input' (looked for: loops, veiled, ifaces, maps, wideKeys, modest, calm, conditions, laid).
  DERIVED. THE GIVEN ROWS OF THIS SEAT. 2 by the template 'for every input the law returns true; each argument reads behind the call as it read before'; 0 by the template 'total and deterministic' (their statements: Qxb6628342aTotals.lean).
  GIVEN WITH THE SEED: the statements are not yours to turn. If you find one false, say at which input.
  Laid BY PROGRAM, IN A SANDBOX (cutbox-rows.mjs): the forced cells as the released guide's own fill.sh prints them over the translation 5c768fd9e5849a9d… (all of the seat's roots in one cut). By AI agents, Wed Nov 11 2026. No macro, syntax, notation, axiom, sorry.
-/
import Derived.Test.Qxb6628342aChecked
import GoSem.Claim
import GoSem.ClaimJoined
import GoSem.ClaimMapViews
import Derived.JoinedTies
import Derived.KernelRfl
namespace Go.Proofs.Qxb6628342a
/- THE CELL 'sum', in the pinned program and in every row, IS THE sha256 OF THE DUMP (.gsa) THAT Qxb6628342aProg.lean LOADS. Nothing in Lean hashes anything: it is a label: what it is worth is what the hold of that sum in a sandbox is worth. -/
noncomputable def Try.pinned : Pinned := { name := "qxb6628342a", sum := "5c768fd9e5849a9d0d2f4c9bfa589d37fe9dedd6b8ddeb2c5b33d035b11e21e8", checked := Try.checked }
namespace Rows
def none {H : Type} : Left H := { results := [], args := [] }

/-- 'zzlaws_policy_b1.FnIdentityStringNamesOneIdentity': WHATEVER THE INPUT: true; the input reads as it did. -/
def fnIdentityStringNamesOneIdentitySpec : ChangeSpec := { name := "fnIdentityStringNamesOneIdentity", fn := fun _ => fun
  | [d1, d2, d3, d4, d5, d6, d7, d8] => { results := [.lit (.bool true)], args := [d1, d2, d3, d4, d5, d6, d7, d8] }
  | _ => none }
def fnIdentityStringNamesOneIdentityRow : OpenClaim := { program := "qxb6628342a", sum := "5c768fd9e5849a9d0d2f4c9bfa589d37fe9dedd6b8ddeb2c5b33d035b11e21e8", func := "example.com/lotse/lotse/zzlaws_policy_b1.FnIdentityStringNamesOneIdentity", spec := "fnIdentityStringNamesOneIdentity", apart := false }
def FnIdentityStringNamesOneIdentitySaid : Prop := fnIdentityStringNamesOneIdentityRow.holds Try.pinned (OpenSpec.ofChange fnIdentityStringNamesOneIdentitySpec)

/-- ITS FALSE NEIGHBOUR: 'it returns false'. Refute it at one input. -/
def fnIdentityStringNamesOneIdentityWrong : ChangeSpec := { name := "fnIdentityStringNamesOneIdentity", fn := fun _ => fun
  | [d1, d2, d3, d4, d5, d6, d7, d8] => { results := [.lit (.bool false)], args := [d1, d2, d3, d4, d5, d6, d7, d8] }
  | _ => none }
def FnIdentityStringNamesOneIdentityWrongFalsely : Prop := fnIdentityStringNamesOneIdentityRow.holds Try.pinned (OpenSpec.ofChange fnIdentityStringNamesOneIdentityWrong)

/-- 'zzlaws_policy_b1.FnIdentityStringGrowsByAppendedText': WHATEVER THE INPUT: true; the input reads as it did. -/
def fnIdentityStringGrowsByAppendedTextSpec : ChangeSpec := { name := "fnIdentityStringGrowsByAppendedText", fn := fun _ => fun
  | [d1, d2, d3, d4, d5, d6] => { results := [.lit (.bool true)], args := [d1, d2, d3, d4, d5, d6] }
  | _ => none }
def fnIdentityStringGrowsByAppendedTextRow : OpenClaim := { program := "qxb6628342a", sum := "5c768fd9e5849a9d0d2f4c9bfa589d37fe9dedd6b8ddeb2c5b33d035b11e21e8", func := "example.com/lotse/lotse/zzlaws_policy_b1.FnIdentityStringGrowsByAppendedText", spec := "fnIdentityStringGrowsByAppendedText", apart := false }
def FnIdentityStringGrowsByAppendedTextSaid : Prop := fnIdentityStringGrowsByAppendedTextRow.holds Try.pinned (OpenSpec.ofChange fnIdentityStringGrowsByAppendedTextSpec)

/-- ITS FALSE NEIGHBOUR: 'it returns false'. Refute it at one input. -/
def fnIdentityStringGrowsByAppendedTextWrong : ChangeSpec := { name := "fnIdentityStringGrowsByAppendedText", fn := fun _ => fun
  | [d1, d2, d3, d4, d5, d6] => { results := [.lit (.bool false)], args := [d1, d2, d3, d4, d5, d6] }
  | _ => none }
def FnIdentityStringGrowsByAppendedTextWrongFalsely : Prop := fnIdentityStringGrowsByAppendedTextRow.holds Try.pinned (OpenSpec.ofChange fnIdentityStringGrowsByAppendedTextWrong)

end Rows
end Go.Proofs.Qxb6628342a
