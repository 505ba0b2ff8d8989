/-
  DERIVED. GIVEN WITH THE SEED: THE CARDS: each row of YtckjclkpgdhcoaaDoorRows.lean that lists a variable, with what it lists TIED to the program's text (the seventh form; the later family's looks); each row that meets fmt, with fmt's text TOLD by the authors' own Lean function (tested against real Go, not proved from fmt's source: count such statements apart). THE CARD IS WHAT COUNTS. Prove the row's statement (the work); the ties are given (YtckjclkpgdhcoaaDoorTie.lean); close each card by the builder's one call (the guide's Derived/Test/ToyasCard.lean, 'card_holds'). Laid BY PROGRAM, IN A SANDBOX (cutbox-door.mjs). By AI agents, Wed Nov 11 2026. No macro, syntax, notation, axiom, sorry.
-/
import Derived.Test.YtckjclkpgdhcoaaDoorRows
import GoSem.ClaimSeven
namespace Go.Proofs.YtckjclkpgdhcoaaDoor
namespace Rows

/-- THE TIED CARD OF 'laws.FnWriteFloat'. -/
def fnWriteFloatCard : Claim7 := { stood := { row := fnWriteFloatRow, standIns := [], harness := (true, "67f368913e6e273a54da24f1eed9f7b1104d516ec49f8efeb51092c4df697302"), looks := false }, kinds := [], alts := [], laidByText := true, laidKinds := [.data, .pinned], laidTests := true, laidLooks := .later }
def FnWriteFloatCardSaid : Prop := Claim7.holds Tryd.pinned (.plain (OpenSpec.ofChange fnWriteFloatSpec)) fnWriteFloatCard

/-- THE TIED CARD OF 'laws.FnWriteUlong'. -/
def fnWriteUlongCard : Claim7 := { stood := { row := fnWriteUlongRow, standIns := [], harness := (true, "67f368913e6e273a54da24f1eed9f7b1104d516ec49f8efeb51092c4df697302"), looks := false }, kinds := [], alts := [], laidByText := true, laidKinds := [.data, .pinned], laidTests := true, laidLooks := .later }
def FnWriteUlongCardSaid : Prop := Claim7.holds Tryd.pinned (.plain (OpenSpec.ofChange fnWriteUlongSpec)) fnWriteUlongCard

/-- THE TIED CARD OF 'laws.FnWriteArrayUbyte'. -/
def fnWriteArrayUbyteCard : Claim7 := { stood := { row := fnWriteArrayUbyteRow, standIns := [], harness := (true, "67f368913e6e273a54da24f1eed9f7b1104d516ec49f8efeb51092c4df697302"), looks := false }, kinds := [], alts := [], laidByText := true, laidKinds := [.data, .pinned], laidTests := true, laidLooks := .later }
def FnWriteArrayUbyteCardSaid : Prop := Claim7.holds Tryd.pinned (.plain (OpenSpec.ofChange fnWriteArrayUbyteSpec)) fnWriteArrayUbyteCard

/-- THE TIED CARD OF 'laws.FnWriteArrayShort'. -/
def fnWriteArrayShortCard : Claim7 := { stood := { row := fnWriteArrayShortRow, standIns := [], harness := (true, "67f368913e6e273a54da24f1eed9f7b1104d516ec49f8efeb51092c4df697302"), looks := false }, kinds := [], alts := [], laidByText := true, laidKinds := [.data, .pinned], laidTests := true, laidLooks := .later }
def FnWriteArrayShortCardSaid : Prop := Claim7.holds Tryd.pinned (.plain (OpenSpec.ofChange fnWriteArrayShortSpec)) fnWriteArrayShortCard

/-- THE TIED CARD OF 'laws.FnWriteArrayUuid'. -/
def fnWriteArrayUuidCard : Claim7 := { stood := { row := fnWriteArrayUuidRow, standIns := [], harness := (true, "67f368913e6e273a54da24f1eed9f7b1104d516ec49f8efeb51092c4df697302"), looks := false }, kinds := [], alts := [], laidByText := true, laidKinds := [.data, .pinned], laidTests := true, laidLooks := .later }
def FnWriteArrayUuidCardSaid : Prop := Claim7.holds Tryd.pinned (.plain (OpenSpec.ofChange fnWriteArrayUuidSpec)) fnWriteArrayUuidCard

/-- THE TIED CARD OF 'laws.FnWriteArrayTimestamp'. -/
def fnWriteArrayTimestampCard : Claim7 := { stood := { row := fnWriteArrayTimestampRow, standIns := [], harness := (true, "67f368913e6e273a54da24f1eed9f7b1104d516ec49f8efeb51092c4df697302"), looks := false }, kinds := [], alts := [], laidByText := true, laidKinds := [.data, .pinned], laidTests := true, laidLooks := .later }
def FnWriteArrayTimestampCardSaid : Prop := Claim7.holds Tryd.pinned (.plain (OpenSpec.ofChange fnWriteArrayTimestampSpec)) fnWriteArrayTimestampCard

/-- THE SECOND FORM's CARD OF 'laws.FnWriteFloat'. -/
def fnWriteFloatUptoCard : Claim7 := { stood := { row := fnWriteFloatUptoRow, standIns := [], harness := (true, "67f368913e6e273a54da24f1eed9f7b1104d516ec49f8efeb51092c4df697302"), looks := false }, kinds := [], alts := [], laidByText := true, laidKinds := [.data, .pinned], laidTests := true, laidLooks := .later }
def FnWriteFloatUptoCardSaid : Prop := Claim7.holds Tryd.pinned (.plain (OpenSpec.upto fnWriteFloatSpec)) fnWriteFloatUptoCard

/-- THE SECOND FORM's CARD OF 'laws.FnWriteUlong'. -/
def fnWriteUlongUptoCard : Claim7 := { stood := { row := fnWriteUlongUptoRow, standIns := [], harness := (true, "67f368913e6e273a54da24f1eed9f7b1104d516ec49f8efeb51092c4df697302"), looks := false }, kinds := [], alts := [], laidByText := true, laidKinds := [.data, .pinned], laidTests := true, laidLooks := .later }
def FnWriteUlongUptoCardSaid : Prop := Claim7.holds Tryd.pinned (.plain (OpenSpec.upto fnWriteUlongSpec)) fnWriteUlongUptoCard

/-- THE SECOND FORM's CARD OF 'laws.FnWriteArrayUbyte'. -/
def fnWriteArrayUbyteUptoCard : Claim7 := { stood := { row := fnWriteArrayUbyteUptoRow, standIns := [], harness := (true, "67f368913e6e273a54da24f1eed9f7b1104d516ec49f8efeb51092c4df697302"), looks := false }, kinds := [], alts := [], laidByText := true, laidKinds := [.data, .pinned], laidTests := true, laidLooks := .later }
def FnWriteArrayUbyteUptoCardSaid : Prop := Claim7.holds Tryd.pinned (.plain (OpenSpec.upto fnWriteArrayUbyteSpec)) fnWriteArrayUbyteUptoCard

/-- THE SECOND FORM's CARD OF 'laws.FnWriteArrayShort'. -/
def fnWriteArrayShortUptoCard : Claim7 := { stood := { row := fnWriteArrayShortUptoRow, standIns := [], harness := (true, "67f368913e6e273a54da24f1eed9f7b1104d516ec49f8efeb51092c4df697302"), looks := false }, kinds := [], alts := [], laidByText := true, laidKinds := [.data, .pinned], laidTests := true, laidLooks := .later }
def FnWriteArrayShortUptoCardSaid : Prop := Claim7.holds Tryd.pinned (.plain (OpenSpec.upto fnWriteArrayShortSpec)) fnWriteArrayShortUptoCard

/-- THE SECOND FORM's CARD OF 'laws.FnWriteArrayUuid'. -/
def fnWriteArrayUuidUptoCard : Claim7 := { stood := { row := fnWriteArrayUuidUptoRow, standIns := [], harness := (true, "67f368913e6e273a54da24f1eed9f7b1104d516ec49f8efeb51092c4df697302"), looks := false }, kinds := [], alts := [], laidByText := true, laidKinds := [.data, .pinned], laidTests := true, laidLooks := .later }
def FnWriteArrayUuidUptoCardSaid : Prop := Claim7.holds Tryd.pinned (.plain (OpenSpec.upto fnWriteArrayUuidSpec)) fnWriteArrayUuidUptoCard

/-- THE SECOND FORM's CARD OF 'laws.FnWriteArrayTimestamp'. -/
def fnWriteArrayTimestampUptoCard : Claim7 := { stood := { row := fnWriteArrayTimestampUptoRow, standIns := [], harness := (true, "67f368913e6e273a54da24f1eed9f7b1104d516ec49f8efeb51092c4df697302"), looks := false }, kinds := [], alts := [], laidByText := true, laidKinds := [.data, .pinned], laidTests := true, laidLooks := .later }
def FnWriteArrayTimestampUptoCardSaid : Prop := Claim7.holds Tryd.pinned (.plain (OpenSpec.upto fnWriteArrayTimestampSpec)) fnWriteArrayTimestampUptoCard
end Rows
end Go.Proofs.YtckjclkpgdhcoaaDoor
