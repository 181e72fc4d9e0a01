/-
  No cell of these rows narrows 'for every input' (looked for: loops, veiled, ifaces, maps, wideKeys, modest, calm, conditions, laid).
  DERIVED. THE GIVEN ROWS OF THIS SEAT. 2 by the template 'for every input the law returns true; each argument reads behind the call as it read before'; 0 by the template 'total and deterministic' (their statements: Qxb6628847aTotals.lean).
  GIVEN WITH THE SEED: the statements are not yours to turn. If you find one false, say at which input.
  Laid BY PROGRAM, IN A SANDBOX (cutbox-rows.mjs): the forced cells as the released guide's own fill.sh prints them over the translation 1019e4fdd6b28c6c… (all of the seat's roots in one cut). By AI agents, Wed Nov 11 2026. No macro, syntax, notation, axiom, sorry.
-/
import Derived.Test.Qxb6628847aChecked
import GoSem.Claim
import GoSem.ClaimJoined
import GoSem.ClaimMapViews
import Derived.JoinedTies
import Derived.KernelRfl
namespace Go.Proofs.Qxb6628847a
/- THE CELL 'sum', in the pinned program and in every row, IS THE sha256 OF THE DUMP (.gsa) THAT Qxb6628847aProg.lean LOADS. Nothing in Lean hashes anything: it is a label: what it is worth is what the hold of that sum in a sandbox is worth. -/
noncomputable def Try.pinned : Pinned := { name := "qxb6628847a", sum := "1019e4fdd6b28c6c1a61cb34c57423557b6aa03d2fa0e46a53a8132dc4c89201", checked := Try.checked }
namespace Rows
def none {H : Type} : Left H := { results := [], args := [] }

/-- 'zzlaws_internal_jsontext_b1.FnAppendStringIsCanonicalJSONOfS': WHATEVER THE INPUT: true; the input reads as it did. -/
def fnAppendStringIsCanonicalJSONOfSSpec : ChangeSpec := { name := "fnAppendStringIsCanonicalJSONOfS", fn := fun _ => fun
  | [d1, d2] => { results := [.lit (.bool true)], args := [d1, d2] }
  | _ => none }
def fnAppendStringIsCanonicalJSONOfSRow : OpenClaim := { program := "qxb6628847a", sum := "1019e4fdd6b28c6c1a61cb34c57423557b6aa03d2fa0e46a53a8132dc4c89201", func := "example.com/trommel/trommel/zzlaws_internal_jsontext_b1.FnAppendStringIsCanonicalJSONOfS", spec := "fnAppendStringIsCanonicalJSONOfS", apart := false }
def FnAppendStringIsCanonicalJSONOfSSaid : Prop := fnAppendStringIsCanonicalJSONOfSRow.holds Try.pinned (OpenSpec.ofChange fnAppendStringIsCanonicalJSONOfSSpec)

/-- ITS FALSE NEIGHBOUR: 'it returns false'. Refute it at one input. -/
def fnAppendStringIsCanonicalJSONOfSWrong : ChangeSpec := { name := "fnAppendStringIsCanonicalJSONOfS", fn := fun _ => fun
  | [d1, d2] => { results := [.lit (.bool false)], args := [d1, d2] }
  | _ => none }
def FnAppendStringIsCanonicalJSONOfSWrongFalsely : Prop := fnAppendStringIsCanonicalJSONOfSRow.holds Try.pinned (OpenSpec.ofChange fnAppendStringIsCanonicalJSONOfSWrong)

/-- 'zzlaws_internal_jsontext_b1.FnAppendStringSplitsAtAnyCut': WHATEVER THE INPUT: true; the input reads as it did. -/
def fnAppendStringSplitsAtAnyCutSpec : ChangeSpec := { name := "fnAppendStringSplitsAtAnyCut", fn := fun _ => fun
  | [d1, d2, d3] => { results := [.lit (.bool true)], args := [d1, d2, d3] }
  | _ => none }
def fnAppendStringSplitsAtAnyCutRow : OpenClaim := { program := "qxb6628847a", sum := "1019e4fdd6b28c6c1a61cb34c57423557b6aa03d2fa0e46a53a8132dc4c89201", func := "example.com/trommel/trommel/zzlaws_internal_jsontext_b1.FnAppendStringSplitsAtAnyCut", spec := "fnAppendStringSplitsAtAnyCut", apart := false }
def FnAppendStringSplitsAtAnyCutSaid : Prop := fnAppendStringSplitsAtAnyCutRow.holds Try.pinned (OpenSpec.ofChange fnAppendStringSplitsAtAnyCutSpec)

/-- ITS FALSE NEIGHBOUR: 'it returns false'. Refute it at one input. -/
def fnAppendStringSplitsAtAnyCutWrong : ChangeSpec := { name := "fnAppendStringSplitsAtAnyCut", fn := fun _ => fun
  | [d1, d2, d3] => { results := [.lit (.bool false)], args := [d1, d2, d3] }
  | _ => none }
def FnAppendStringSplitsAtAnyCutWrongFalsely : Prop := fnAppendStringSplitsAtAnyCutRow.holds Try.pinned (OpenSpec.ofChange fnAppendStringSplitsAtAnyCutWrong)

end Rows
end Go.Proofs.Qxb6628847a
