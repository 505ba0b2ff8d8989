/-
  DERIVED. GIVEN WITH THE SEED: THE CARDS: each row of YtbdgkikipekmlaaDoorRows.lean that lists a variable, with what it lists TIED to the program's text (the seventh form; the later family's looks); each row that meets fmt, with fmt's text TOLD by the authors' own Lean function (tested against real Go, not proved from fmt's source: count such statements apart). THE CARD IS WHAT COUNTS. Prove the row's statement (the work); the ties are given (YtbdgkikipekmlaaDoorTie.lean); close each card by the builder's one call (the guide's Derived/Test/ToyasCard.lean, 'card_holds'). Laid BY PROGRAM, IN A SANDBOX (cutbox-door.mjs). By AI agents, Wed Nov 11 2026. No macro, syntax, notation, axiom, sorry.
-/
import Derived.Test.YtbdgkikipekmlaaDoorRows
import GoSem.ClaimSeven
namespace Go.Proofs.YtbdgkikipekmlaaDoor
namespace Rows

/-- THE TIED CARD OF 'laws.FnReadDouble'. -/
def fnReadDoubleCard : Claim7 := { stood := { row := fnReadDoubleRow, standIns := [], harness := (true, "fa24019b26a8773c3332f5677e105917caf62535c669056ae3c939a965acd14c"), looks := false }, kinds := [], alts := [], laidByText := true, laidKinds := [.data, .sentinel, .pinned], laidTests := true, laidLooks := .later }
def FnReadDoubleCardSaid : Prop := Claim7.holds Tryd.pinned (.plain (OpenSpec.ofChange fnReadDoubleSpec)) fnReadDoubleCard

/-- THE TIED CARD OF 'laws.FnReadMilliseconds'. -/
def fnReadMillisecondsCard : Claim7 := { stood := { row := fnReadMillisecondsRow, standIns := [], harness := (true, "fa24019b26a8773c3332f5677e105917caf62535c669056ae3c939a965acd14c"), looks := false }, kinds := [], alts := [], laidByText := true, laidKinds := [.data, .sentinel, .pinned], laidTests := true, laidLooks := .later }
def FnReadMillisecondsCardSaid : Prop := Claim7.holds Tryd.pinned (.plain (OpenSpec.ofChange fnReadMillisecondsSpec)) fnReadMillisecondsCard

/-- THE TIED CARD OF 'laws.FnReadListHead'. -/
def fnReadListHeadCard : Claim7 := { stood := { row := fnReadListHeadRow, standIns := [], harness := (true, "fa24019b26a8773c3332f5677e105917caf62535c669056ae3c939a965acd14c"), looks := false }, kinds := [], alts := [], laidByText := true, laidKinds := [.data, .sentinel, .pinned], laidTests := true, laidLooks := .later }
def FnReadListHeadCardSaid : Prop := Claim7.holds Tryd.pinned (.plain (OpenSpec.ofChange fnReadListHeadSpec)) fnReadListHeadCard

/-- THE TIED CARD OF 'laws.FnReadBinary'. -/
def fnReadBinaryCard : Claim7 := { stood := { row := fnReadBinaryRow, standIns := [], harness := (true, "fa24019b26a8773c3332f5677e105917caf62535c669056ae3c939a965acd14c"), looks := false }, kinds := [], alts := [], laidByText := true, laidKinds := [.data, .sentinel, .pinned], laidTests := true, laidLooks := .later }
def FnReadBinaryCardSaid : Prop := Claim7.holds Tryd.pinned (.plain (OpenSpec.ofChange fnReadBinarySpec)) fnReadBinaryCard

/-- THE TIED CARD OF 'laws.FnReadArrayUshort'. -/
def fnReadArrayUshortCard : Claim7 := { stood := { row := fnReadArrayUshortRow, standIns := [], harness := (true, "fa24019b26a8773c3332f5677e105917caf62535c669056ae3c939a965acd14c"), looks := false }, kinds := [], alts := [], laidByText := true, laidKinds := [.data, .sentinel, .pinned], laidTests := true, laidLooks := .later }
def FnReadArrayUshortCardSaid : Prop := Claim7.holds Tryd.pinned (.plain (OpenSpec.ofChange fnReadArrayUshortSpec)) fnReadArrayUshortCard

/-- THE TIED CARD OF 'laws.FnReadArrayInt'. -/
def fnReadArrayIntCard : Claim7 := { stood := { row := fnReadArrayIntRow, standIns := [], harness := (true, "fa24019b26a8773c3332f5677e105917caf62535c669056ae3c939a965acd14c"), looks := false }, kinds := [], alts := [], laidByText := true, laidKinds := [.data, .sentinel, .pinned], laidTests := true, laidLooks := .later }
def FnReadArrayIntCardSaid : Prop := Claim7.holds Tryd.pinned (.plain (OpenSpec.ofChange fnReadArrayIntSpec)) fnReadArrayIntCard

/-- THE TIED CARD OF 'laws.FnReadArrayString'. -/
def fnReadArrayStringCard : Claim7 := { stood := { row := fnReadArrayStringRow, standIns := [], harness := (true, "fa24019b26a8773c3332f5677e105917caf62535c669056ae3c939a965acd14c"), looks := false }, kinds := [], alts := [], laidByText := true, laidKinds := [.data, .sentinel, .pinned], laidTests := true, laidLooks := .later }
def FnReadArrayStringCardSaid : Prop := Claim7.holds Tryd.pinned (.plain (OpenSpec.ofChange fnReadArrayStringSpec)) fnReadArrayStringCard

/-- THE SECOND FORM's CARD OF 'laws.FnReadDouble'. -/
def fnReadDoubleUptoCard : Claim7 := { stood := { row := fnReadDoubleUptoRow, standIns := [], harness := (true, "fa24019b26a8773c3332f5677e105917caf62535c669056ae3c939a965acd14c"), looks := false }, kinds := [], alts := [], laidByText := true, laidKinds := [.data, .sentinel, .pinned], laidTests := true, laidLooks := .later }
def FnReadDoubleUptoCardSaid : Prop := Claim7.holds Tryd.pinned (.plain (OpenSpec.upto fnReadDoubleSpec)) fnReadDoubleUptoCard

/-- THE SECOND FORM's CARD OF 'laws.FnReadMilliseconds'. -/
def fnReadMillisecondsUptoCard : Claim7 := { stood := { row := fnReadMillisecondsUptoRow, standIns := [], harness := (true, "fa24019b26a8773c3332f5677e105917caf62535c669056ae3c939a965acd14c"), looks := false }, kinds := [], alts := [], laidByText := true, laidKinds := [.data, .sentinel, .pinned], laidTests := true, laidLooks := .later }
def FnReadMillisecondsUptoCardSaid : Prop := Claim7.holds Tryd.pinned (.plain (OpenSpec.upto fnReadMillisecondsSpec)) fnReadMillisecondsUptoCard

/-- THE SECOND FORM's CARD OF 'laws.FnReadListHead'. -/
def fnReadListHeadUptoCard : Claim7 := { stood := { row := fnReadListHeadUptoRow, standIns := [], harness := (true, "fa24019b26a8773c3332f5677e105917caf62535c669056ae3c939a965acd14c"), looks := false }, kinds := [], alts := [], laidByText := true, laidKinds := [.data, .sentinel, .pinned], laidTests := true, laidLooks := .later }
def FnReadListHeadUptoCardSaid : Prop := Claim7.holds Tryd.pinned (.plain (OpenSpec.upto fnReadListHeadSpec)) fnReadListHeadUptoCard

/-- THE SECOND FORM's CARD OF 'laws.FnReadBinary'. -/
def fnReadBinaryUptoCard : Claim7 := { stood := { row := fnReadBinaryUptoRow, standIns := [], harness := (true, "fa24019b26a8773c3332f5677e105917caf62535c669056ae3c939a965acd14c"), looks := false }, kinds := [], alts := [], laidByText := true, laidKinds := [.data, .sentinel, .pinned], laidTests := true, laidLooks := .later }
def FnReadBinaryUptoCardSaid : Prop := Claim7.holds Tryd.pinned (.plain (OpenSpec.upto fnReadBinarySpec)) fnReadBinaryUptoCard

/-- THE SECOND FORM's CARD OF 'laws.FnReadArrayUshort'. -/
def fnReadArrayUshortUptoCard : Claim7 := { stood := { row := fnReadArrayUshortUptoRow, standIns := [], harness := (true, "fa24019b26a8773c3332f5677e105917caf62535c669056ae3c939a965acd14c"), looks := false }, kinds := [], alts := [], laidByText := true, laidKinds := [.data, .sentinel, .pinned], laidTests := true, laidLooks := .later }
def FnReadArrayUshortUptoCardSaid : Prop := Claim7.holds Tryd.pinned (.plain (OpenSpec.upto fnReadArrayUshortSpec)) fnReadArrayUshortUptoCard

/-- THE SECOND FORM's CARD OF 'laws.FnReadArrayInt'. -/
def fnReadArrayIntUptoCard : Claim7 := { stood := { row := fnReadArrayIntUptoRow, standIns := [], harness := (true, "fa24019b26a8773c3332f5677e105917caf62535c669056ae3c939a965acd14c"), looks := false }, kinds := [], alts := [], laidByText := true, laidKinds := [.data, .sentinel, .pinned], laidTests := true, laidLooks := .later }
def FnReadArrayIntUptoCardSaid : Prop := Claim7.holds Tryd.pinned (.plain (OpenSpec.upto fnReadArrayIntSpec)) fnReadArrayIntUptoCard

/-- THE SECOND FORM's CARD OF 'laws.FnReadArrayString'. -/
def fnReadArrayStringUptoCard : Claim7 := { stood := { row := fnReadArrayStringUptoRow, standIns := [], harness := (true, "fa24019b26a8773c3332f5677e105917caf62535c669056ae3c939a965acd14c"), looks := false }, kinds := [], alts := [], laidByText := true, laidKinds := [.data, .sentinel, .pinned], laidTests := true, laidLooks := .later }
def FnReadArrayStringUptoCardSaid : Prop := Claim7.holds Tryd.pinned (.plain (OpenSpec.upto fnReadArrayStringSpec)) fnReadArrayStringUptoCard
end Rows
end Go.Proofs.YtbdgkikipekmlaaDoor
