/-
  DERIVED. GIVEN WITH THE SEED: THE CARDS: each row of YtfhbpbmhafijgaaDoorRows.lean that lists a variable, with what it lists TIED to the program's text (the seventh form; the later family's looks); each row that meets fmt, with fmt's text TOLD by the authors' own Lean function (tested against real Go, not proved from fmt's source: count such statements apart). THE CARD IS WHAT COUNTS. Prove the row's statement (the work); the ties are given (YtfhbpbmhafijgaaDoorTie.lean); close each card by the builder's one call (the guide's Derived/Test/ToyasCard.lean, 'card_holds'). Laid BY PROGRAM, IN A SANDBOX (cutbox-door.mjs). By AI agents, Wed Nov 11 2026. No macro, syntax, notation, axiom, sorry.
-/
import Derived.Test.YtfhbpbmhafijgaaDoorRows
import GoSem.ClaimSeven
namespace Go.Proofs.YtfhbpbmhafijgaaDoor
namespace Rows

/-- THE TIED CARD OF 'laws.FnNumberInt'. -/
def fnNumberIntCard : Claim7 := { stood := { row := fnNumberIntRow, standIns := [], harness := (true, "0c2765a772a283fc4b6fff4c611e598b035e0471e4bf6f512e4bf9cdae0a7ffc"), looks := false }, kinds := [], alts := [], laidByText := true, laidKinds := [.data], laidTests := true, laidLooks := .later }
def FnNumberIntCardSaid : Prop := Claim7.holds Tryd.pinned (.plain (OpenSpec.ofChange fnNumberIntSpec)) fnNumberIntCard

/-- THE SECOND FORM's CARD OF 'laws.FnNumberInt'. -/
def fnNumberIntUptoCard : Claim7 := { stood := { row := fnNumberIntUptoRow, standIns := [], harness := (true, "0c2765a772a283fc4b6fff4c611e598b035e0471e4bf6f512e4bf9cdae0a7ffc"), looks := false }, kinds := [], alts := [], laidByText := true, laidKinds := [.data], laidTests := true, laidLooks := .later }
def FnNumberIntUptoCardSaid : Prop := Claim7.holds Tryd.pinned (.plain (OpenSpec.upto fnNumberIntSpec)) fnNumberIntUptoCard
end Rows
end Go.Proofs.YtfhbpbmhafijgaaDoor
