/-
  DERIVED. GIVEN WITH THE SEED: THE CARDS: each row of YtkbjnkhkjgomcaaDoorRows.lean that lists a variable, with what it lists TIED to the program's text (the seventh form; the later family's looks); each row that meets fmt, with fmt's text TOLD by the authors' own Lean function (tested against real Go, not proved from fmt's source: count such statements apart). THE CARD IS WHAT COUNTS. Prove the row's statement (the work); the ties are given (YtkbjnkhkjgomcaaDoorTie.lean); close each card by the builder's one call (the guide's Derived/Test/ToyasCard.lean, 'card_holds'). Laid BY PROGRAM, IN A SANDBOX (cutbox-door.mjs). By AI agents, Wed Nov 11 2026. No macro, syntax, notation, axiom, sorry.
-/
import Derived.Test.YtkbjnkhkjgomcaaDoorRows
import GoSem.ClaimSeven
namespace Go.Proofs.YtkbjnkhkjgomcaaDoor
namespace Rows

/-- THE TIED CARD OF 'laws.FnPutComplex128'. -/
def fnPutComplex128Card : Claim7 := { stood := { row := fnPutComplex128Row, standIns := [], harness := (true, "911f2314250b86fb2e1c6f9bf98c866ef5f9e7da9ddd3c158f97701269ce95fc"), looks := false }, kinds := [], alts := [], laidByText := true, laidKinds := [.wider], laidTests := true, laidLooks := .later }
def FnPutComplex128CardSaid : Prop := Claim7.holds Tryd.pinned (.plain (OpenSpec.ofChange fnPutComplex128Spec)) fnPutComplex128Card

/-- THE SECOND FORM's CARD OF 'laws.FnPutComplex128'. -/
def fnPutComplex128UptoCard : Claim7 := { stood := { row := fnPutComplex128UptoRow, standIns := [], harness := (true, "911f2314250b86fb2e1c6f9bf98c866ef5f9e7da9ddd3c158f97701269ce95fc"), looks := false }, kinds := [], alts := [], laidByText := true, laidKinds := [.wider], laidTests := true, laidLooks := .later }
def FnPutComplex128UptoCardSaid : Prop := Claim7.holds Tryd.pinned (.plain (OpenSpec.upto fnPutComplex128Spec)) fnPutComplex128UptoCard
end Rows
end Go.Proofs.YtkbjnkhkjgomcaaDoor
