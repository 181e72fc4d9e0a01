/-
  No cell of these rows narrows 'for every input' (looked for: loops, veiled, ifaces, maps, wideKeys, modest, calm, conditions, laid).
  DERIVED. THE GIVEN ROWS OF THIS SEAT. 2 by the template 'for every input the law returns true; each argument reads behind the call as it read before'; 0 by the template 'total and deterministic' (their statements: Qxb6628789aTotals.lean).
  GIVEN WITH THE SEED: the statements are not yours to turn. If you find one false, say at which input.
  Laid BY PROGRAM, IN A SANDBOX (cutbox-rows.mjs): the forced cells as the released guide's own fill.sh prints them over the translation 120118c7c5f581a2… (all of the seat's roots in one cut). By AI agents, Wed Nov 11 2026. No macro, syntax, notation, axiom, sorry.
-/
import Derived.Test.Qxb6628789aChecked
import GoSem.Claim
import GoSem.ClaimJoined
import GoSem.ClaimMapViews
import Derived.JoinedTies
import Derived.KernelRfl
namespace Go.Proofs.Qxb6628789a
/- THE CELL 'sum', in the pinned program and in every row, IS THE sha256 OF THE DUMP (.gsa) THAT Qxb6628789aProg.lean LOADS. Nothing in Lean hashes anything: it is a label: what it is worth is what the hold of that sum in a sandbox is worth. -/
noncomputable def Try.pinned : Pinned := { name := "qxb6628789a", sum := "120118c7c5f581a24809d324e50594de894d5d4ce913fb65667b76a5e844b00e", checked := Try.checked }
namespace Rows
def none {H : Type} : Left H := { results := [], args := [] }

/-- 'zzlaws_internal_jsontext_b1.FnStringEndIsFirstQuoteAfterEvenBackslashes': WHATEVER THE INPUT: true; the input reads as it did. -/
def fnStringEndIsFirstQuoteAfterEvenBackslashesSpec : ChangeSpec := { name := "fnStringEndIsFirstQuoteAfterEvenBackslashes", fn := fun _ => fun
  | [d1, d2] => { results := [.lit (.bool true)], args := [d1, d2] }
  | _ => none }
def fnStringEndIsFirstQuoteAfterEvenBackslashesRow : OpenClaim := { program := "qxb6628789a", sum := "120118c7c5f581a24809d324e50594de894d5d4ce913fb65667b76a5e844b00e", func := "example.com/sluicelog/sluicelog/zzlaws_internal_jsontext_b1.FnStringEndIsFirstQuoteAfterEvenBackslashes", spec := "fnStringEndIsFirstQuoteAfterEvenBackslashes", apart := false }
def FnStringEndIsFirstQuoteAfterEvenBackslashesSaid : Prop := fnStringEndIsFirstQuoteAfterEvenBackslashesRow.holds Try.pinned (OpenSpec.ofChange fnStringEndIsFirstQuoteAfterEvenBackslashesSpec)

/-- ITS FALSE NEIGHBOUR: 'it returns false'. Refute it at one input. -/
def fnStringEndIsFirstQuoteAfterEvenBackslashesWrong : ChangeSpec := { name := "fnStringEndIsFirstQuoteAfterEvenBackslashes", fn := fun _ => fun
  | [d1, d2] => { results := [.lit (.bool false)], args := [d1, d2] }
  | _ => none }
def FnStringEndIsFirstQuoteAfterEvenBackslashesWrongFalsely : Prop := fnStringEndIsFirstQuoteAfterEvenBackslashesRow.holds Try.pinned (OpenSpec.ofChange fnStringEndIsFirstQuoteAfterEvenBackslashesWrong)

/-- 'zzlaws_internal_jsontext_b1.FnStringEndPrefixesAndClosing': WHATEVER THE INPUT: true; the input reads as it did. -/
def fnStringEndPrefixesAndClosingSpec : ChangeSpec := { name := "fnStringEndPrefixesAndClosing", fn := fun _ => fun
  | [d1, d2, d3] => { results := [.lit (.bool true)], args := [d1, d2, d3] }
  | _ => none }
def fnStringEndPrefixesAndClosingRow : OpenClaim := { program := "qxb6628789a", sum := "120118c7c5f581a24809d324e50594de894d5d4ce913fb65667b76a5e844b00e", func := "example.com/sluicelog/sluicelog/zzlaws_internal_jsontext_b1.FnStringEndPrefixesAndClosing", spec := "fnStringEndPrefixesAndClosing", apart := false }
def FnStringEndPrefixesAndClosingSaid : Prop := fnStringEndPrefixesAndClosingRow.holds Try.pinned (OpenSpec.ofChange fnStringEndPrefixesAndClosingSpec)

/-- ITS FALSE NEIGHBOUR: 'it returns false'. Refute it at one input. -/
def fnStringEndPrefixesAndClosingWrong : ChangeSpec := { name := "fnStringEndPrefixesAndClosing", fn := fun _ => fun
  | [d1, d2, d3] => { results := [.lit (.bool false)], args := [d1, d2, d3] }
  | _ => none }
def FnStringEndPrefixesAndClosingWrongFalsely : Prop := fnStringEndPrefixesAndClosingRow.holds Try.pinned (OpenSpec.ofChange fnStringEndPrefixesAndClosingWrong)

end Rows
end Go.Proofs.Qxb6628789a
