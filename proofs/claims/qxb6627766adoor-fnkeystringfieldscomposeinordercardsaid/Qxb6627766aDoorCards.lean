/-
  DERIVED. GIVEN WITH THE SEED: THE CARDS: each row of Qxb6627766aDoorRows.lean that lists a variable, with what it lists TIED to the program's text (the seventh form; the later family's looks); each row that meets fmt, with fmt's text TOLD by the authors' own Lean function (tested against real Go, not proved from fmt's source: count such statements apart). THE CARD IS WHAT COUNTS. Prove the row's statement (the work); the ties are given (Qxb6627766aDoorTie.lean); close each card by the builder's one call (the guide's Derived/Test/ToyasCard.lean, 'card_holds'). Laid BY PROGRAM, IN A SANDBOX (cutbox-door.mjs). By AI agents, Wed Nov 11 2026. No macro, syntax, notation, axiom, sorry.
-/
import Derived.Test.Qxb6627766aDoorRows
import GoSem.ClaimSeven
namespace Go.Proofs.Qxb6627766aDoor
namespace Rows

/-- THE TIED CARD OF 'zzlaws_key_b1.FnKeyStringFramesBackendAndName'. -/
def fnKeyStringFramesBackendAndNameCard : Claim7 := { stood := { row := fnKeyStringFramesBackendAndNameRow, standIns := [], harness := (true, "ec765be7b59e07a99efa88612bb678fcb33bb2fbf5af8fc4dd4b172b2b550cb3"), looks := false }, kinds := [], alts := [], laidByText := true, laidKinds := [.data, .data, .data], laidTests := true, laidLooks := .later }
def FnKeyStringFramesBackendAndNameCardSaid : Prop := Claim7.holds Tryd.pinned (.plain (OpenSpec.ofChange fnKeyStringFramesBackendAndNameSpec)) fnKeyStringFramesBackendAndNameCard

/-- THE TIED CARD OF 'zzlaws_key_b1.FnKeyStringFieldsComposeInOrder'. -/
def fnKeyStringFieldsComposeInOrderCard : Claim7 := { stood := { row := fnKeyStringFieldsComposeInOrderRow, standIns := [], harness := (true, "ec765be7b59e07a99efa88612bb678fcb33bb2fbf5af8fc4dd4b172b2b550cb3"), looks := false }, kinds := [], alts := [], laidByText := true, laidKinds := [.data, .data, .data], laidTests := true, laidLooks := .later }
def FnKeyStringFieldsComposeInOrderCardSaid : Prop := Claim7.holds Tryd.pinned (.plain (OpenSpec.ofChange fnKeyStringFieldsComposeInOrderSpec)) fnKeyStringFieldsComposeInOrderCard
end Rows
end Go.Proofs.Qxb6627766aDoor
