/-
  DERIVED. GIVEN WITH THE SEED: THE CARDS: each row of Qxb6601988aDoorRows.lean that lists a variable, with what it lists TIED to the program's text (the seventh form; the later family's looks); each row that meets fmt, with fmt's text TOLD by the authors' own Lean function (tested against real Go, not proved from fmt's source: count such statements apart). THE CARD IS WHAT COUNTS. Prove the row's statement (the work); the ties are given (Qxb6601988aDoorTie.lean); close each card by the builder's one call (the guide's Derived/Test/ToyasCard.lean, 'card_holds'). Laid BY PROGRAM, IN A SANDBOX (cutbox-door.mjs). By AI agents, Wed Nov 11 2026. No macro, syntax, notation, axiom, sorry.
-/
import Derived.Test.Qxb6601988aDoorRows
import GoSem.ClaimSeven
namespace Go.Proofs.Qxb6601988aDoor
namespace Rows

/-- THE TIED CARD OF 'zzlaws_internal_herbrand_b1.FnFormulaWriteIgnoresPrefixAndSharing'. -/
def fnFormulaWriteIgnoresPrefixAndSharingCard : Claim7 := { stood := { row := fnFormulaWriteIgnoresPrefixAndSharingRow, standIns := [], harness := (true, "fb6f2b674aea569e02090026e2f5ee1ae98273d2f0fc79db7b03e3622b397642"), looks := false }, kinds := [], alts := [], laidByText := true, laidKinds := [.data, .data, .data], laidTests := true, laidLooks := .later }
def FnFormulaWriteIgnoresPrefixAndSharingCardSaid : Prop := Claim7.holds Tryd.pinned (.plain (OpenSpec.ofChange fnFormulaWriteIgnoresPrefixAndSharingSpec)) fnFormulaWriteIgnoresPrefixAndSharingCard

/-- THE TIED CARD OF 'zzlaws_internal_herbrand_b1.FnFormulaWriteDecodesBack'. -/
def fnFormulaWriteDecodesBackCard : Claim7 := { stood := { row := fnFormulaWriteDecodesBackRow, standIns := [], harness := (true, "fb6f2b674aea569e02090026e2f5ee1ae98273d2f0fc79db7b03e3622b397642"), looks := false }, kinds := [], alts := [], laidByText := true, laidKinds := [.data, .data, .data], laidTests := true, laidLooks := .later }
def FnFormulaWriteDecodesBackCardSaid : Prop := Claim7.holds Tryd.pinned (.plain (OpenSpec.ofChange fnFormulaWriteDecodesBackSpec)) fnFormulaWriteDecodesBackCard
end Rows
end Go.Proofs.Qxb6601988aDoor
