/-
  DERIVED. GIVEN WITH THE SEED: THE CARDS: each row of YtooifcdkpddlmaaDoorRows.lean that lists a variable, with what it lists TIED to the program's text (the seventh form; the later family's looks); each row that meets fmt, with fmt's text TOLD by the authors' own Lean function (tested against real Go, not proved from fmt's source: count such statements apart). THE CARD IS WHAT COUNTS. Prove the row's statement (the work); the ties are given (YtooifcdkpddlmaaDoorTie.lean); close each card by the builder's one call (the guide's Derived/Test/ToyasCard.lean, 'card_holds'). Laid BY PROGRAM, IN A SANDBOX (cutbox-door.mjs). By AI agents, Wed Nov 11 2026. No macro, syntax, notation, axiom, sorry.
-/
import Derived.Test.YtooifcdkpddlmaaDoorRows
import GoSem.ClaimSeven
namespace Go.Proofs.YtooifcdkpddlmaaDoor
namespace Rows

/-- THE TIED CARD OF 'laws.FnGetMapHead'. -/
def fnGetMapHeadCard : Claim7 := { stood := { row := fnGetMapHeadRow, standIns := [], harness := (true, "fa7c486a9ac8932924cf2c2a33863ae8b55cf383bac603fe3d0771aa2750a4e3"), looks := false }, kinds := [], alts := [], laidByText := true, laidKinds := [.wider], laidTests := true, laidLooks := .later }
def FnGetMapHeadCardSaid : Prop := Claim7.holds Tryd.pinned (.plain (OpenSpec.ofChange fnGetMapHeadSpec)) fnGetMapHeadCard

/-- THE TIED CARD OF 'laws.FnLocate'. -/
def fnLocateCard : Claim7 := { stood := { row := fnLocateRow, standIns := [], harness := (true, "fa7c486a9ac8932924cf2c2a33863ae8b55cf383bac603fe3d0771aa2750a4e3"), looks := false }, kinds := [], alts := [], laidByText := true, laidKinds := [.wider, .wider, .wider], laidTests := true, laidLooks := .later }
def FnLocateCardSaid : Prop := Claim7.holds Tryd.pinned (.plain (OpenSpec.ofChange fnLocateSpec)) fnLocateCard

/-- THE TIED CARD OF 'laws.FnGetExt'. -/
def fnGetExtCard : Claim7 := { stood := { row := fnGetExtRow, standIns := [], harness := (true, "fa7c486a9ac8932924cf2c2a33863ae8b55cf383bac603fe3d0771aa2750a4e3"), looks := false }, kinds := [], alts := [], laidByText := true, laidKinds := [.wider], laidTests := true, laidLooks := .later }
def FnGetExtCardSaid : Prop := Claim7.holds Tryd.pinned (.plain (OpenSpec.ofChange fnGetExtSpec)) fnGetExtCard

/-- THE SECOND FORM's CARD OF 'laws.FnGetMapHead'. -/
def fnGetMapHeadUptoCard : Claim7 := { stood := { row := fnGetMapHeadUptoRow, standIns := [], harness := (true, "fa7c486a9ac8932924cf2c2a33863ae8b55cf383bac603fe3d0771aa2750a4e3"), looks := false }, kinds := [], alts := [], laidByText := true, laidKinds := [.wider], laidTests := true, laidLooks := .later }
def FnGetMapHeadUptoCardSaid : Prop := Claim7.holds Tryd.pinned (.plain (OpenSpec.upto fnGetMapHeadSpec)) fnGetMapHeadUptoCard

/-- THE SECOND FORM's CARD OF 'laws.FnLocate'. -/
def fnLocateUptoCard : Claim7 := { stood := { row := fnLocateUptoRow, standIns := [], harness := (true, "fa7c486a9ac8932924cf2c2a33863ae8b55cf383bac603fe3d0771aa2750a4e3"), looks := false }, kinds := [], alts := [], laidByText := true, laidKinds := [.wider, .wider, .wider], laidTests := true, laidLooks := .later }
def FnLocateUptoCardSaid : Prop := Claim7.holds Tryd.pinned (.plain (OpenSpec.upto fnLocateSpec)) fnLocateUptoCard

/-- THE SECOND FORM's CARD OF 'laws.FnGetExt'. -/
def fnGetExtUptoCard : Claim7 := { stood := { row := fnGetExtUptoRow, standIns := [], harness := (true, "fa7c486a9ac8932924cf2c2a33863ae8b55cf383bac603fe3d0771aa2750a4e3"), looks := false }, kinds := [], alts := [], laidByText := true, laidKinds := [.wider], laidTests := true, laidLooks := .later }
def FnGetExtUptoCardSaid : Prop := Claim7.holds Tryd.pinned (.plain (OpenSpec.upto fnGetExtSpec)) fnGetExtUptoCard
end Rows
end Go.Proofs.YtooifcdkpddlmaaDoor
