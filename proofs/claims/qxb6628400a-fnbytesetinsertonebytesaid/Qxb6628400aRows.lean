/-
  No cell of these rows narrows 'for every input' (looked for: loops, veiled, ifaces, maps, wideKeys, modest, calm, conditions, laid).
  DERIVED. THE GIVEN ROWS OF THIS SEAT. 2 by the template 'for every input the law returns true; each argument reads behind the call as it read before'; 0 by the template 'total and deterministic' (their statements: Qxb6628400aTotals.lean).
  GIVEN WITH THE SEED: the statements are not yours to turn. If you find one false, say at which input.
  Laid BY PROGRAM, IN A SANDBOX (cutbox-rows.mjs): the forced cells as the released guide's own fill.sh prints them over the translation 8d8aada78989296f… (all of the seat's roots in one cut). By AI agents, Wed Nov 11 2026. No macro, syntax, notation, axiom, sorry.
-/
import Derived.Test.Qxb6628400aChecked
import GoSem.Claim
import GoSem.ClaimJoined
import GoSem.ClaimMapViews
import Derived.JoinedTies
import Derived.KernelRfl
namespace Go.Proofs.Qxb6628400a
/- THE CELL 'sum', in the pinned program and in every row, IS THE sha256 OF THE DUMP (.gsa) THAT Qxb6628400aProg.lean LOADS. Nothing in Lean hashes anything: it is a label: what it is worth is what the hold of that sum in a sandbox is worth. -/
noncomputable def Try.pinned : Pinned := { name := "qxb6628400a", sum := "8d8aada78989296f4b90efbaf5834ec7d43f46dd260640cd40465eea8acfcd7f", checked := Try.checked }
namespace Rows
def none {H : Type} : Left H := { results := [], args := [] }

/-- 'zzlaws_root_b1.FnByteSetCutIsUnion': WHATEVER THE INPUT: true; the input reads as it did. -/
def fnByteSetCutIsUnionSpec : ChangeSpec := { name := "fnByteSetCutIsUnion", fn := fun _ => fun
  | [d1, d2] => { results := [.lit (.bool true)], args := [d1, d2] }
  | _ => none }
def fnByteSetCutIsUnionRow : OpenClaim := { program := "qxb6628400a", sum := "8d8aada78989296f4b90efbaf5834ec7d43f46dd260640cd40465eea8acfcd7f", func := "example.com/lockstep/lockstep/zzlaws_root_b1.FnByteSetCutIsUnion", spec := "fnByteSetCutIsUnion", apart := false }
def FnByteSetCutIsUnionSaid : Prop := fnByteSetCutIsUnionRow.holds Try.pinned (OpenSpec.ofChange fnByteSetCutIsUnionSpec)

/-- ITS FALSE NEIGHBOUR: 'it returns false'. Refute it at one input. -/
def fnByteSetCutIsUnionWrong : ChangeSpec := { name := "fnByteSetCutIsUnion", fn := fun _ => fun
  | [d1, d2] => { results := [.lit (.bool false)], args := [d1, d2] }
  | _ => none }
def FnByteSetCutIsUnionWrongFalsely : Prop := fnByteSetCutIsUnionRow.holds Try.pinned (OpenSpec.ofChange fnByteSetCutIsUnionWrong)

/-- 'zzlaws_root_b1.FnByteSetInsertOneByte': WHATEVER THE INPUT: true; the input reads as it did. -/
def fnByteSetInsertOneByteSpec : ChangeSpec := { name := "fnByteSetInsertOneByte", fn := fun _ => fun
  | [d1, d2, d3] => { results := [.lit (.bool true)], args := [d1, d2, d3] }
  | _ => none }
def fnByteSetInsertOneByteRow : OpenClaim := { program := "qxb6628400a", sum := "8d8aada78989296f4b90efbaf5834ec7d43f46dd260640cd40465eea8acfcd7f", func := "example.com/lockstep/lockstep/zzlaws_root_b1.FnByteSetInsertOneByte", spec := "fnByteSetInsertOneByte", apart := false }
def FnByteSetInsertOneByteSaid : Prop := fnByteSetInsertOneByteRow.holds Try.pinned (OpenSpec.ofChange fnByteSetInsertOneByteSpec)

/-- ITS FALSE NEIGHBOUR: 'it returns false'. Refute it at one input. -/
def fnByteSetInsertOneByteWrong : ChangeSpec := { name := "fnByteSetInsertOneByte", fn := fun _ => fun
  | [d1, d2, d3] => { results := [.lit (.bool false)], args := [d1, d2, d3] }
  | _ => none }
def FnByteSetInsertOneByteWrongFalsely : Prop := fnByteSetInsertOneByteRow.holds Try.pinned (OpenSpec.ofChange fnByteSetInsertOneByteWrong)

end Rows
end Go.Proofs.Qxb6628400a
