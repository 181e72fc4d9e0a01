/-
  No cell of these rows narrows 'for every input' (looked for: loops, veiled, ifaces, maps, wideKeys, modest, calm, conditions, laid).
  DERIVED. THE GIVEN ROWS OF THIS SEAT. 2 by the template 'for every input the law returns true; each argument reads behind the call as it read before'; 0 by the template 'total and deterministic' (their statements: Qxb6628924aTotals.lean).
  GIVEN WITH THE SEED: the statements are not yours to turn. If you find one false, say at which input.
  Laid BY PROGRAM, IN A SANDBOX (cutbox-rows.mjs): the forced cells as the released guide's own fill.sh prints them over the translation cf92f06de1ab941b… (all of the seat's roots in one cut). By AI agents, Wed Nov 11 2026. No macro, syntax, notation, axiom, sorry.
-/
import Derived.Test.Qxb6628924aChecked
import GoSem.Claim
import GoSem.ClaimJoined
import GoSem.ClaimMapViews
import Derived.JoinedTies
import Derived.KernelRfl
namespace Go.Proofs.Qxb6628924a
/- THE CELL 'sum', in the pinned program and in every row, IS THE sha256 OF THE DUMP (.gsa) THAT Qxb6628924aProg.lean LOADS. Nothing in Lean hashes anything: it is a label: what it is worth is what the hold of that sum in a sandbox is worth. -/
noncomputable def Try.pinned : Pinned := { name := "qxb6628924a", sum := "cf92f06de1ab941b32c558a3d0c685fe5d264cb3fc36cf94eec73d00f1440653", checked := Try.checked }
namespace Rows
def none {H : Type} : Left H := { results := [], args := [] }

/-- 'zzlaws_internal_content_b1.FnLookupSplitAnyCut': WHATEVER THE INPUT: true; the input reads as it did. -/
def fnLookupSplitAnyCutSpec : ChangeSpec := { name := "fnLookupSplitAnyCut", fn := fun _ => fun
  | [d1, d2, d3] => { results := [.lit (.bool true)], args := [d1, d2, d3] }
  | _ => none }
def fnLookupSplitAnyCutRow : OpenClaim := { program := "qxb6628924a", sum := "cf92f06de1ab941b32c558a3d0c685fe5d264cb3fc36cf94eec73d00f1440653", func := "example.com/ply3/ply3/zzlaws_internal_content_b1.FnLookupSplitAnyCut", spec := "fnLookupSplitAnyCut", apart := false }
def FnLookupSplitAnyCutSaid : Prop := fnLookupSplitAnyCutRow.holds Try.pinned (OpenSpec.ofChange fnLookupSplitAnyCutSpec)

/-- ITS FALSE NEIGHBOUR: 'it returns false'. Refute it at one input. -/
def fnLookupSplitAnyCutWrong : ChangeSpec := { name := "fnLookupSplitAnyCut", fn := fun _ => fun
  | [d1, d2, d3] => { results := [.lit (.bool false)], args := [d1, d2, d3] }
  | _ => none }
def FnLookupSplitAnyCutWrongFalsely : Prop := fnLookupSplitAnyCutRow.holds Try.pinned (OpenSpec.ofChange fnLookupSplitAnyCutWrong)

/-- 'zzlaws_internal_content_b1.FnLookupInsertAnyPlace': WHATEVER THE INPUT: true; the input reads as it did. -/
def fnLookupInsertAnyPlaceSpec : ChangeSpec := { name := "fnLookupInsertAnyPlace", fn := fun _ => fun
  | [d1, d2, d3, d4] => { results := [.lit (.bool true)], args := [d1, d2, d3, d4] }
  | _ => none }
def fnLookupInsertAnyPlaceRow : OpenClaim := { program := "qxb6628924a", sum := "cf92f06de1ab941b32c558a3d0c685fe5d264cb3fc36cf94eec73d00f1440653", func := "example.com/ply3/ply3/zzlaws_internal_content_b1.FnLookupInsertAnyPlace", spec := "fnLookupInsertAnyPlace", apart := false }
def FnLookupInsertAnyPlaceSaid : Prop := fnLookupInsertAnyPlaceRow.holds Try.pinned (OpenSpec.ofChange fnLookupInsertAnyPlaceSpec)

/-- ITS FALSE NEIGHBOUR: 'it returns false'. Refute it at one input. -/
def fnLookupInsertAnyPlaceWrong : ChangeSpec := { name := "fnLookupInsertAnyPlace", fn := fun _ => fun
  | [d1, d2, d3, d4] => { results := [.lit (.bool false)], args := [d1, d2, d3, d4] }
  | _ => none }
def FnLookupInsertAnyPlaceWrongFalsely : Prop := fnLookupInsertAnyPlaceRow.holds Try.pinned (OpenSpec.ofChange fnLookupInsertAnyPlaceWrong)

end Rows
end Go.Proofs.Qxb6628924a
