/-
  No cell of these rows narrows 'for every input' (looked for: loops, veiled, ifaces, maps, wideKeys, modest, calm, conditions, laid).
  DERIVED. THE GIVEN ROWS OF THIS SEAT. 2 by the template 'for every input the law returns true; each argument reads behind the call as it read before'; 0 by the template 'total and deterministic' (their statements: Qxb6003789aTotals.lean).
  GIVEN WITH THE SEED: the statements are not yours to turn. If you find one false, say at which input.
  Laid BY PROGRAM, IN A SANDBOX (cutbox-rows.mjs): the forced cells as the released guide's own fill.sh prints them over the translation f62c143b6fd5ad98… (all of the seat's roots in one cut). By AI agents, Wed Nov 11 2026. No macro, syntax, notation, axiom, sorry.
-/
import Derived.Test.Qxb6003789aChecked
import GoSem.Claim
import GoSem.ClaimJoined
import GoSem.ClaimMapViews
import Derived.JoinedTies
import Derived.KernelRfl
namespace Go.Proofs.Qxb6003789a
/- THE CELL 'sum', in the pinned program and in every row, IS THE sha256 OF THE DUMP (.gsa) THAT Qxb6003789aProg.lean LOADS. Nothing in Lean hashes anything: it is a label: what it is worth is what the hold of that sum in a sandbox is worth. -/
noncomputable def Try.pinned : Pinned := { name := "qxb6003789a", sum := "f62c143b6fd5ad98305d12726b3ebc6be308a0a408dcf68f8d780852c327f6d1", checked := Try.checked }
namespace Rows
def none {H : Type} : Left H := { results := [], args := [] }

/-- 'zzlaws_root_g2.FnLibraryHeaderNamePairs': WHATEVER THE INPUT: true; the input reads as it did. -/
def fnLibraryHeaderNamePairsSpec : ChangeSpec := { name := "fnLibraryHeaderNamePairs", fn := fun _ => fun
  | [d] => { results := [.lit (.bool true)], args := [d] }
  | _ => none }
def fnLibraryHeaderNamePairsRow : OpenClaim := { program := "qxb6003789a", sum := "f62c143b6fd5ad98305d12726b3ebc6be308a0a408dcf68f8d780852c327f6d1", func := "example.com/tallyclock/tallyclock/zzlaws_root_g2.FnLibraryHeaderNamePairs", spec := "fnLibraryHeaderNamePairs", apart := false }
def FnLibraryHeaderNamePairsSaid : Prop := fnLibraryHeaderNamePairsRow.holds Try.pinned (OpenSpec.ofChange fnLibraryHeaderNamePairsSpec)

/-- ITS FALSE NEIGHBOUR: 'it returns false'. Refute it at one input. -/
def fnLibraryHeaderNamePairsWrong : ChangeSpec := { name := "fnLibraryHeaderNamePairs", fn := fun _ => fun
  | [d] => { results := [.lit (.bool false)], args := [d] }
  | _ => none }
def FnLibraryHeaderNamePairsWrongFalsely : Prop := fnLibraryHeaderNamePairsRow.holds Try.pinned (OpenSpec.ofChange fnLibraryHeaderNamePairsWrong)

/-- 'zzlaws_root_g2.FnClipCutsOnCharacterBoundary': WHATEVER THE INPUT: true; the input reads as it did. -/
def fnClipCutsOnCharacterBoundarySpec : ChangeSpec := { name := "fnClipCutsOnCharacterBoundary", fn := fun _ => fun
  | [d] => { results := [.lit (.bool true)], args := [d] }
  | _ => none }
def fnClipCutsOnCharacterBoundaryRow : OpenClaim := { program := "qxb6003789a", sum := "f62c143b6fd5ad98305d12726b3ebc6be308a0a408dcf68f8d780852c327f6d1", func := "example.com/tallyclock/tallyclock/zzlaws_root_g2.FnClipCutsOnCharacterBoundary", spec := "fnClipCutsOnCharacterBoundary", apart := false }
def FnClipCutsOnCharacterBoundarySaid : Prop := fnClipCutsOnCharacterBoundaryRow.holds Try.pinned (OpenSpec.ofChange fnClipCutsOnCharacterBoundarySpec)

/-- ITS FALSE NEIGHBOUR: 'it returns false'. Refute it at one input. -/
def fnClipCutsOnCharacterBoundaryWrong : ChangeSpec := { name := "fnClipCutsOnCharacterBoundary", fn := fun _ => fun
  | [d] => { results := [.lit (.bool false)], args := [d] }
  | _ => none }
def FnClipCutsOnCharacterBoundaryWrongFalsely : Prop := fnClipCutsOnCharacterBoundaryRow.holds Try.pinned (OpenSpec.ofChange fnClipCutsOnCharacterBoundaryWrong)

end Rows
end Go.Proofs.Qxb6003789a
