/-
  No cell of these rows narrows 'for every input' (looked for: loops, veiled, ifaces, maps, wideKeys, modest, calm, conditions, laid).
  DERIVED. THE GIVEN ROWS OF THIS SEAT. 1 by the template 'for every input the law returns true; each argument reads behind the call as it read before'; 0 by the template 'total and deterministic' (their statements: Qxb6621692aTotals.lean).
  GIVEN WITH THE SEED: the statements are not yours to turn. If you find one false, say at which input.
  Laid BY PROGRAM, IN A SANDBOX (cutbox-rows.mjs): the forced cells as the released guide's own fill.sh prints them over the translation a77a44324a7f7ecc… (all of the seat's roots in one cut). By AI agents, Wed Nov 11 2026. No macro, syntax, notation, axiom, sorry.
-/
import Derived.Test.Qxb6621692aChecked
import GoSem.Claim
import GoSem.ClaimJoined
import GoSem.ClaimMapViews
import Derived.JoinedTies
import Derived.KernelRfl
namespace Go.Proofs.Qxb6621692a
/- THE CELL 'sum', in the pinned program and in every row, IS THE sha256 OF THE DUMP (.gsa) THAT Qxb6621692aProg.lean LOADS. Nothing in Lean hashes anything: it is a label: what it is worth is what the hold of that sum in a sandbox is worth. -/
noncomputable def Try.pinned : Pinned := { name := "qxb6621692a", sum := "a77a44324a7f7ecc59558e7d82fc1741609e67e61c7e2c4abb173ebeda601093", checked := Try.checked }
namespace Rows
def none {H : Type} : Left H := { results := [], args := [] }

/-- 'zzlaws_internal_jsonschema_b1.FnTypesStringJoinsAtAnyCut': WHATEVER THE INPUT: true; the input reads as it did. -/
def fnTypesStringJoinsAtAnyCutSpec : ChangeSpec := { name := "fnTypesStringJoinsAtAnyCut", fn := fun _ => fun
  | [d1, d2] => { results := [.lit (.bool true)], args := [d1, d2] }
  | _ => none }
def fnTypesStringJoinsAtAnyCutRow : OpenClaim := { program := "qxb6621692a", sum := "a77a44324a7f7ecc59558e7d82fc1741609e67e61c7e2c4abb173ebeda601093", func := "example.com/latchpoint/latchpoint/zzlaws_internal_jsonschema_b1.FnTypesStringJoinsAtAnyCut", spec := "fnTypesStringJoinsAtAnyCut", inPlace := ["internal/abi.NoEscape", "internal/bytealg.MakeNoZero"], apart := false }
def FnTypesStringJoinsAtAnyCutSaid : Prop := fnTypesStringJoinsAtAnyCutRow.holds Try.pinned (OpenSpec.ofChange fnTypesStringJoinsAtAnyCutSpec)

/-- ITS FALSE NEIGHBOUR: 'it returns false'. Refute it at one input. -/
def fnTypesStringJoinsAtAnyCutWrong : ChangeSpec := { name := "fnTypesStringJoinsAtAnyCut", fn := fun _ => fun
  | [d1, d2] => { results := [.lit (.bool false)], args := [d1, d2] }
  | _ => none }
def FnTypesStringJoinsAtAnyCutWrongFalsely : Prop := fnTypesStringJoinsAtAnyCutRow.holds Try.pinned (OpenSpec.ofChange fnTypesStringJoinsAtAnyCutWrong)

end Rows
end Go.Proofs.Qxb6621692a
