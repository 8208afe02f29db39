/-
  DERIVED. GIVEN WITH THE SEED: THE CARDS: each row of Qxb6003615aDoorRows.lean that lists a variable, with what it lists TIED to the program's text (the seventh form; the later family's looks); each row that meets fmt, with fmt's text TOLD by the authors' own Lean function (tested against real Go, not proved from fmt's source: count such statements apart). THE CARD IS WHAT COUNTS. Prove the row's statement (the work); the ties are given (Qxb6003615aDoorTie.lean); close each card by the builder's one call (the guide's Derived/Test/ToyasCard.lean, 'card_holds'). Laid BY PROGRAM, IN A SANDBOX (cutbox-door.mjs). By AI agents, Wed Nov 11 2026. No macro, syntax, notation, axiom, sorry.
-/
import Derived.Test.Qxb6003615aDoorRows
import GoSem.ClaimSeven
namespace Go.Proofs.Qxb6003615aDoor
namespace Rows

/-- THE TIED CARD OF 'zzlaws_root_b1.FnOpStringNamesEachOpOnce'. -/
def fnOpStringNamesEachOpOnceCard : Claim7 := { stood := { row := fnOpStringNamesEachOpOnceRow, standIns := [], harness := (true, "97544eb6b5f90390ff105e6e9aa1fedba0cd51c3c5fb87af997809eb65eac1f8"), looks := false }, kinds := [], alts := [], laidByText := true, laidKinds := [.data, .data, .data], laidTests := true, laidLooks := .later }
def FnOpStringNamesEachOpOnceCardSaid : Prop := Claim7.holds Tryd.pinned (.plain (OpenSpec.ofChange fnOpStringNamesEachOpOnceSpec)) fnOpStringNamesEachOpOnceCard
end Rows
end Go.Proofs.Qxb6003615aDoor
