/-
  No cell of these rows narrows 'for every input' (looked for: loops, veiled, ifaces, maps, wideKeys, modest, calm, conditions, laid).
  DERIVED. THE GIVEN ROWS OF THIS SEAT. 2 by the template 'for every input the law returns true; each argument reads behind the call as it read before'; 0 by the template 'total and deterministic' (their statements: Qxb6628886aTotals.lean).
  GIVEN WITH THE SEED: the statements are not yours to turn. If you find one false, say at which input.
  Laid BY PROGRAM, IN A SANDBOX (cutbox-rows.mjs): the forced cells as the released guide's own fill.sh prints them over the translation 49b56849a19c4bab… (all of the seat's roots in one cut). By AI agents, Wed Nov 11 2026. No macro, syntax, notation, axiom, sorry.
-/
import Derived.Test.Qxb6628886aChecked
import GoSem.Claim
import GoSem.ClaimJoined
import GoSem.ClaimMapViews
import Derived.JoinedTies
import Derived.KernelRfl
namespace Go.Proofs.Qxb6628886a
/- THE CELL 'sum', in the pinned program and in every row, IS THE sha256 OF THE DUMP (.gsa) THAT Qxb6628886aProg.lean LOADS. Nothing in Lean hashes anything: it is a label: what it is worth is what the hold of that sum in a sandbox is worth. -/
noncomputable def Try.pinned : Pinned := { name := "qxb6628886a", sum := "49b56849a19c4babe5f15311abbc475fb37c400762b8855c3b558d4f1e38431b", checked := Try.checked }
namespace Rows
def none {H : Type} : Left H := { results := [], args := [] }

/-- 'zzlaws_protocol_b1.FnCarriesSharedOnlyByMessageKinds': WHATEVER THE INPUT: true; the input reads as it did. -/
def fnCarriesSharedOnlyByMessageKindsSpec : ChangeSpec := { name := "fnCarriesSharedOnlyByMessageKinds", fn := fun _ => fun
  | [d1, d2] => { results := [.lit (.bool true)], args := [d1, d2] }
  | _ => none }
def fnCarriesSharedOnlyByMessageKindsRow : OpenClaim := { program := "qxb6628886a", sum := "49b56849a19c4babe5f15311abbc475fb37c400762b8855c3b558d4f1e38431b", func := "example.com/driftcast/driftcast/zzlaws_protocol_b1.FnCarriesSharedOnlyByMessageKinds", spec := "fnCarriesSharedOnlyByMessageKinds", apart := false }
def FnCarriesSharedOnlyByMessageKindsSaid : Prop := fnCarriesSharedOnlyByMessageKindsRow.holds Try.pinned (OpenSpec.ofChange fnCarriesSharedOnlyByMessageKindsSpec)

/-- ITS FALSE NEIGHBOUR: 'it returns false'. Refute it at one input. -/
def fnCarriesSharedOnlyByMessageKindsWrong : ChangeSpec := { name := "fnCarriesSharedOnlyByMessageKinds", fn := fun _ => fun
  | [d1, d2] => { results := [.lit (.bool false)], args := [d1, d2] }
  | _ => none }
def FnCarriesSharedOnlyByMessageKindsWrongFalsely : Prop := fnCarriesSharedOnlyByMessageKindsRow.holds Try.pinned (OpenSpec.ofChange fnCarriesSharedOnlyByMessageKindsWrong)

/-- 'zzlaws_protocol_b1.FnCarriesFieldsComeInFixedCompanies': WHATEVER THE INPUT: true; the input reads as it did. -/
def fnCarriesFieldsComeInFixedCompaniesSpec : ChangeSpec := { name := "fnCarriesFieldsComeInFixedCompanies", fn := fun _ => fun
  | [d] => { results := [.lit (.bool true)], args := [d] }
  | _ => none }
def fnCarriesFieldsComeInFixedCompaniesRow : OpenClaim := { program := "qxb6628886a", sum := "49b56849a19c4babe5f15311abbc475fb37c400762b8855c3b558d4f1e38431b", func := "example.com/driftcast/driftcast/zzlaws_protocol_b1.FnCarriesFieldsComeInFixedCompanies", spec := "fnCarriesFieldsComeInFixedCompanies", apart := false }
def FnCarriesFieldsComeInFixedCompaniesSaid : Prop := fnCarriesFieldsComeInFixedCompaniesRow.holds Try.pinned (OpenSpec.ofChange fnCarriesFieldsComeInFixedCompaniesSpec)

/-- ITS FALSE NEIGHBOUR: 'it returns false'. Refute it at one input. -/
def fnCarriesFieldsComeInFixedCompaniesWrong : ChangeSpec := { name := "fnCarriesFieldsComeInFixedCompanies", fn := fun _ => fun
  | [d] => { results := [.lit (.bool false)], args := [d] }
  | _ => none }
def FnCarriesFieldsComeInFixedCompaniesWrongFalsely : Prop := fnCarriesFieldsComeInFixedCompaniesRow.holds Try.pinned (OpenSpec.ofChange fnCarriesFieldsComeInFixedCompaniesWrong)

end Rows
end Go.Proofs.Qxb6628886a
