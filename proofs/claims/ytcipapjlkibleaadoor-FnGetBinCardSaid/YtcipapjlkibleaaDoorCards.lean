/-
  DERIVED. GIVEN WITH THE SEED: THE CARDS: each row of YtcipapjlkibleaaDoorRows.lean that lists a variable, with what it lists TIED to the program's text (the seventh form; the later family's looks); each row that meets fmt, with fmt's text TOLD by the authors' own Lean function (tested against real Go, not proved from fmt's source: count such statements apart). THE CARD IS WHAT COUNTS. Prove the row's statement (the work); the ties are given (YtcipapjlkibleaaDoorTie.lean); close each card by the builder's one call (the guide's Derived/Test/ToyasCard.lean, 'card_holds'). Laid BY PROGRAM, IN A SANDBOX (cutbox-door.mjs). By AI agents, Wed Nov 11 2026. No macro, syntax, notation, axiom, sorry.
-/
import Derived.Test.YtcipapjlkibleaaDoorRows
import GoSem.ClaimSeven
namespace Go.Proofs.YtcipapjlkibleaaDoor
namespace Rows

/-- THE TIED CARD OF 'laws.FnGetMapHead'. -/
def fnGetMapHeadCard : Claim7 := { stood := { row := fnGetMapHeadRow, standIns := [], harness := (true, "58618f6362d0107f456650f2b4a474b0d03a8bb7bb10079eb95db63297bff440"), looks := false }, kinds := [], alts := [], laidByText := true, laidKinds := [.wider], laidTests := true, laidLooks := .later }
def FnGetMapHeadCardSaid : Prop := Claim7.holds Tryd.pinned (.plain (OpenSpec.ofChange fnGetMapHeadSpec)) fnGetMapHeadCard

/-- THE TIED CARD OF 'laws.FnGetBin'. -/
def fnGetBinCard : Claim7 := { stood := { row := fnGetBinRow, standIns := [], harness := (true, "58618f6362d0107f456650f2b4a474b0d03a8bb7bb10079eb95db63297bff440"), looks := false }, kinds := [], alts := [], laidByText := true, laidKinds := [.wider], laidTests := true, laidLooks := .later }
def FnGetBinCardSaid : Prop := Claim7.holds Tryd.pinned (.plain (OpenSpec.ofChange fnGetBinSpec)) fnGetBinCard

/-- THE TIED CARD OF 'laws.FnGetInt'. -/
def fnGetIntCard : Claim7 := { stood := { row := fnGetIntRow, standIns := [], harness := (true, "58618f6362d0107f456650f2b4a474b0d03a8bb7bb10079eb95db63297bff440"), looks := false }, kinds := [], alts := [], laidByText := true, laidKinds := [.wider], laidTests := true, laidLooks := .later }
def FnGetIntCardSaid : Prop := Claim7.holds Tryd.pinned (.plain (OpenSpec.ofChange fnGetIntSpec)) fnGetIntCard

/-- THE TIED CARD OF 'laws.FnGetUint'. -/
def fnGetUintCard : Claim7 := { stood := { row := fnGetUintRow, standIns := [], harness := (true, "58618f6362d0107f456650f2b4a474b0d03a8bb7bb10079eb95db63297bff440"), looks := false }, kinds := [], alts := [], laidByText := true, laidKinds := [.wider], laidTests := true, laidLooks := .later }
def FnGetUintCardSaid : Prop := Claim7.holds Tryd.pinned (.plain (OpenSpec.ofChange fnGetUintSpec)) fnGetUintCard

/-- THE TIED CARD OF 'laws.FnGetByte'. -/
def fnGetByteCard : Claim7 := { stood := { row := fnGetByteRow, standIns := [], harness := (true, "58618f6362d0107f456650f2b4a474b0d03a8bb7bb10079eb95db63297bff440"), looks := false }, kinds := [], alts := [], laidByText := true, laidKinds := [.wider], laidTests := true, laidLooks := .later }
def FnGetByteCardSaid : Prop := Claim7.holds Tryd.pinned (.plain (OpenSpec.ofChange fnGetByteSpec)) fnGetByteCard

/-- THE SECOND FORM's CARD OF 'laws.FnGetMapHead'. -/
def fnGetMapHeadUptoCard : Claim7 := { stood := { row := fnGetMapHeadUptoRow, standIns := [], harness := (true, "58618f6362d0107f456650f2b4a474b0d03a8bb7bb10079eb95db63297bff440"), looks := false }, kinds := [], alts := [], laidByText := true, laidKinds := [.wider], laidTests := true, laidLooks := .later }
def FnGetMapHeadUptoCardSaid : Prop := Claim7.holds Tryd.pinned (.plain (OpenSpec.upto fnGetMapHeadSpec)) fnGetMapHeadUptoCard

/-- THE SECOND FORM's CARD OF 'laws.FnGetBin'. -/
def fnGetBinUptoCard : Claim7 := { stood := { row := fnGetBinUptoRow, standIns := [], harness := (true, "58618f6362d0107f456650f2b4a474b0d03a8bb7bb10079eb95db63297bff440"), looks := false }, kinds := [], alts := [], laidByText := true, laidKinds := [.wider], laidTests := true, laidLooks := .later }
def FnGetBinUptoCardSaid : Prop := Claim7.holds Tryd.pinned (.plain (OpenSpec.upto fnGetBinSpec)) fnGetBinUptoCard

/-- THE SECOND FORM's CARD OF 'laws.FnGetInt'. -/
def fnGetIntUptoCard : Claim7 := { stood := { row := fnGetIntUptoRow, standIns := [], harness := (true, "58618f6362d0107f456650f2b4a474b0d03a8bb7bb10079eb95db63297bff440"), looks := false }, kinds := [], alts := [], laidByText := true, laidKinds := [.wider], laidTests := true, laidLooks := .later }
def FnGetIntUptoCardSaid : Prop := Claim7.holds Tryd.pinned (.plain (OpenSpec.upto fnGetIntSpec)) fnGetIntUptoCard

/-- THE SECOND FORM's CARD OF 'laws.FnGetUint'. -/
def fnGetUintUptoCard : Claim7 := { stood := { row := fnGetUintUptoRow, standIns := [], harness := (true, "58618f6362d0107f456650f2b4a474b0d03a8bb7bb10079eb95db63297bff440"), looks := false }, kinds := [], alts := [], laidByText := true, laidKinds := [.wider], laidTests := true, laidLooks := .later }
def FnGetUintUptoCardSaid : Prop := Claim7.holds Tryd.pinned (.plain (OpenSpec.upto fnGetUintSpec)) fnGetUintUptoCard

/-- THE SECOND FORM's CARD OF 'laws.FnGetByte'. -/
def fnGetByteUptoCard : Claim7 := { stood := { row := fnGetByteUptoRow, standIns := [], harness := (true, "58618f6362d0107f456650f2b4a474b0d03a8bb7bb10079eb95db63297bff440"), looks := false }, kinds := [], alts := [], laidByText := true, laidKinds := [.wider], laidTests := true, laidLooks := .later }
def FnGetByteUptoCardSaid : Prop := Claim7.holds Tryd.pinned (.plain (OpenSpec.upto fnGetByteSpec)) fnGetByteUptoCard
end Rows
end Go.Proofs.YtcipapjlkibleaaDoor
