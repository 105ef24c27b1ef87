/-
  DERIVED. GIVEN WITH THE SEED: THE CARDS: each row of Qxb6627839aDoorRows.lean that lists a variable, with what it lists TIED to the program's text (the seventh form; the later family's looks); each row that meets fmt, with fmt's text TOLD by the authors' own Lean function (tested against real Go, not proved from fmt's source: count such statements apart). THE CARD IS WHAT COUNTS. Prove the row's statement (the work); the ties are given (Qxb6627839aDoorTie.lean); close each card by the builder's one call (the guide's Derived/Test/ToyasCard.lean, 'card_holds'). Laid BY PROGRAM, IN A SANDBOX (cutbox-door.mjs). By AI agents, Wed Nov 11 2026. No macro, syntax, notation, axiom, sorry.
-/
import Derived.Test.Qxb6627839aDoorRows
import GoSem.ClaimSeven
namespace Go.Proofs.Qxb6627839aDoor
namespace Rows

/-- THE TIED CARD OF 'zzlaws_client_b1.FnStringSplitsAtEveryCut'. -/
def fnStringSplitsAtEveryCutCard : Claim7 := { stood := { row := fnStringSplitsAtEveryCutRow, standIns := [], harness := (true, "d7f8f7d225a4688663f77cbb01079d25c18ac17e8671cbf2307578624224f793"), looks := false }, kinds := [], alts := [], laidByText := true, laidKinds := [.data, .data, .data], laidTests := true, laidLooks := .later }
def FnStringSplitsAtEveryCutCardSaid : Prop := Claim7.holds Tryd.pinned (.plain (OpenSpec.ofChange fnStringSplitsAtEveryCutSpec)) fnStringSplitsAtEveryCutCard

/-- THE TIED CARD OF 'zzlaws_client_b1.FnStringIsCanonicalAndInjective'. -/
def fnStringIsCanonicalAndInjectiveCard : Claim7 := { stood := { row := fnStringIsCanonicalAndInjectiveRow, standIns := [], harness := (true, "d7f8f7d225a4688663f77cbb01079d25c18ac17e8671cbf2307578624224f793"), looks := false }, kinds := [], alts := [], laidByText := true, laidKinds := [.data, .data, .data], laidTests := true, laidLooks := .later }
def FnStringIsCanonicalAndInjectiveCardSaid : Prop := Claim7.holds Tryd.pinned (.plain (OpenSpec.ofChange fnStringIsCanonicalAndInjectiveSpec)) fnStringIsCanonicalAndInjectiveCard
end Rows
end Go.Proofs.Qxb6627839aDoor
