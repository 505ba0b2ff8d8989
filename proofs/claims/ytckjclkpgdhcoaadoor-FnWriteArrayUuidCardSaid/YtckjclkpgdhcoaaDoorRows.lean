/-
  NARROWER THAN 'FOR EVERY INPUT', by the rows' own cells (each row's printed sentence says how): FnWriteFloat: laid · FnWriteUlong: laid · FnWriteArrayUbyte: laid · FnWriteArrayShort: laid · FnWriteArrayUuid: laid · FnWriteArrayTimestamp: laid.
  DERIVED. THE GIVEN ROWS OF THIS SEAT. 6 by the template 'for every input the law returns true; each argument reads behind the call as it read before'; 0 by the template 'total and deterministic' (their statements: YtckjclkpgdhcoaaDoorTotals.lean).
  GIVEN WITH THE SEED: the statements are not yours to turn. If you find one false, say at which input.
  Laid BY PROGRAM, IN A SANDBOX (cutbox-rows.mjs): the forced cells as the released guide's own fill.sh prints them over the translation bb990d7f0960f3e7… (all of the seat's roots in one cut). By AI agents, Wed Nov 11 2026. No macro, syntax, notation, axiom, sorry.
-/
import Derived.Test.YtckjclkpgdhcoaaDoorChecked
import GoSem.PinnedTables
import GoSem.Claim
import GoSem.ClaimJoined
import GoSem.ClaimMapViews
import Derived.JoinedTies
import Derived.KernelRfl
namespace Go.Proofs.YtckjclkpgdhcoaaDoor
/- THE CELL 'sum', in the pinned program and in every row, IS THE sha256 OF THE DUMP (.gsa) THAT YtckjclkpgdhcoaaDoorProg.lean LOADS. Nothing in Lean hashes anything: it is a label: what it is worth is what the hold of that sum in a sandbox is worth. -/
noncomputable def Tryd.pinned : Pinned := { name := "ytckjclkpgdhcoaadoor", sum := "bb990d7f0960f3e755b82b63c7d2373d251816bf63684fbbb6431b84f9b05e09", checked := Tryd.checked }
namespace Rows
def none {H : Type} : Left H := { results := [], args := [] }

/- WHAT THE LISTED PACKAGE-LEVEL VARIABLES READ AS WHEN THE CALL BEGINS. Each datum BY PROGRAM (the guide's laid-datum.mjs) off the statement by which the dump's own 'gosem.cut.vars' lays the variable. In a bare row this is a premise. The card (YtckjclkpgdhcoaaDoorCards.lean) ties it to the program's text. -/
def laid_unicode_utf8_acceptRanges {H : Type} : DataW H := .agg [.agg [.lit (.int .u8 128), .lit (.int .u8 191)], .agg [.lit (.int .u8 160), .lit (.int .u8 191)], .agg [.lit (.int .u8 128), .lit (.int .u8 159)], .agg [.lit (.int .u8 144), .lit (.int .u8 191)], .agg [.lit (.int .u8 128), .lit (.int .u8 143)], .agg [.lit (.int .u8 0), .lit (.int .u8 0)], .agg [.lit (.int .u8 0), .lit (.int .u8 0)], .agg [.lit (.int .u8 0), .lit (.int .u8 0)], .agg [.lit (.int .u8 0), .lit (.int .u8 0)], .agg [.lit (.int .u8 0), .lit (.int .u8 0)], .agg [.lit (.int .u8 0), .lit (.int .u8 0)], .agg [.lit (.int .u8 0), .lit (.int .u8 0)], .agg [.lit (.int .u8 0), .lit (.int .u8 0)], .agg [.lit (.int .u8 0), .lit (.int .u8 0)], .agg [.lit (.int .u8 0), .lit (.int .u8 0)], .agg [.lit (.int .u8 0), .lit (.int .u8 0)]]
/-- One of Go's own tables, pinned by name: the form's constant. -/
def laid_unicode_utf8_first : DataW Unit := Go.Pinned.utf8First

/-- 'laws.FnWriteFloat': WHATEVER THE INPUT: true; the input reads as it did. -/
def fnWriteFloatSpec : ChangeSpec := { name := "fnWriteFloat", fn := fun _ => fun
  | [d] => { results := [.lit (.bool true)], args := [d] }
  | _ => none }
def fnWriteFloatRow : OpenClaim := { program := "ytckjclkpgdhcoaadoor", sum := "bb990d7f0960f3e755b82b63c7d2373d251816bf63684fbbb6431b84f9b05e09", func := "given.example/pub-saddlebag/laws.FnWriteFloat", spec := "fnWriteFloat", inPlace := ["math.Float32frombits", "math.Float32bits"], recurses := true, named := ["unicode/utf8.first", "unicode/utf8.acceptRanges"], apart := false, laid := [("unicode/utf8.acceptRanges", laid_unicode_utf8_acceptRanges), ("unicode/utf8.first", laid_unicode_utf8_first)] }
def FnWriteFloatSaid : Prop := fnWriteFloatRow.holds Tryd.pinned (OpenSpec.ofChange fnWriteFloatSpec)

/-- ITS FALSE NEIGHBOUR: 'it returns false'. Refute it at one input. -/
def fnWriteFloatWrong : ChangeSpec := { name := "fnWriteFloat", fn := fun _ => fun
  | [d] => { results := [.lit (.bool false)], args := [d] }
  | _ => none }
def FnWriteFloatWrongFalsely : Prop := fnWriteFloatRow.holds Tryd.pinned (OpenSpec.ofChange fnWriteFloatWrong)

/-- 'laws.FnWriteUlong': WHATEVER THE INPUT: true; the input reads as it did. -/
def fnWriteUlongSpec : ChangeSpec := { name := "fnWriteUlong", fn := fun _ => fun
  | [d] => { results := [.lit (.bool true)], args := [d] }
  | _ => none }
def fnWriteUlongRow : OpenClaim := { program := "ytckjclkpgdhcoaadoor", sum := "bb990d7f0960f3e755b82b63c7d2373d251816bf63684fbbb6431b84f9b05e09", func := "given.example/pub-saddlebag/laws.FnWriteUlong", spec := "fnWriteUlong", recurses := true, named := ["unicode/utf8.first", "unicode/utf8.acceptRanges"], apart := false, laid := [("unicode/utf8.acceptRanges", laid_unicode_utf8_acceptRanges), ("unicode/utf8.first", laid_unicode_utf8_first)] }
def FnWriteUlongSaid : Prop := fnWriteUlongRow.holds Tryd.pinned (OpenSpec.ofChange fnWriteUlongSpec)

/-- ITS FALSE NEIGHBOUR: 'it returns false'. Refute it at one input. -/
def fnWriteUlongWrong : ChangeSpec := { name := "fnWriteUlong", fn := fun _ => fun
  | [d] => { results := [.lit (.bool false)], args := [d] }
  | _ => none }
def FnWriteUlongWrongFalsely : Prop := fnWriteUlongRow.holds Tryd.pinned (OpenSpec.ofChange fnWriteUlongWrong)

/-- 'laws.FnWriteArrayUbyte': WHATEVER THE INPUT: true; the input reads as it did. -/
def fnWriteArrayUbyteSpec : ChangeSpec := { name := "fnWriteArrayUbyte", fn := fun _ => fun
  | [d] => { results := [.lit (.bool true)], args := [d] }
  | _ => none }
def fnWriteArrayUbyteRow : OpenClaim := { program := "ytckjclkpgdhcoaadoor", sum := "bb990d7f0960f3e755b82b63c7d2373d251816bf63684fbbb6431b84f9b05e09", func := "given.example/pub-saddlebag/laws.FnWriteArrayUbyte", spec := "fnWriteArrayUbyte", recurses := true, named := ["unicode/utf8.first", "unicode/utf8.acceptRanges"], apart := false, laid := [("unicode/utf8.acceptRanges", laid_unicode_utf8_acceptRanges), ("unicode/utf8.first", laid_unicode_utf8_first)] }
def FnWriteArrayUbyteSaid : Prop := fnWriteArrayUbyteRow.holds Tryd.pinned (OpenSpec.ofChange fnWriteArrayUbyteSpec)

/-- ITS FALSE NEIGHBOUR: 'it returns false'. Refute it at one input. -/
def fnWriteArrayUbyteWrong : ChangeSpec := { name := "fnWriteArrayUbyte", fn := fun _ => fun
  | [d] => { results := [.lit (.bool false)], args := [d] }
  | _ => none }
def FnWriteArrayUbyteWrongFalsely : Prop := fnWriteArrayUbyteRow.holds Tryd.pinned (OpenSpec.ofChange fnWriteArrayUbyteWrong)

/-- 'laws.FnWriteArrayShort': WHATEVER THE INPUT: true; the input reads as it did. -/
def fnWriteArrayShortSpec : ChangeSpec := { name := "fnWriteArrayShort", fn := fun _ => fun
  | [d] => { results := [.lit (.bool true)], args := [d] }
  | _ => none }
def fnWriteArrayShortRow : OpenClaim := { program := "ytckjclkpgdhcoaadoor", sum := "bb990d7f0960f3e755b82b63c7d2373d251816bf63684fbbb6431b84f9b05e09", func := "given.example/pub-saddlebag/laws.FnWriteArrayShort", spec := "fnWriteArrayShort", recurses := true, named := ["unicode/utf8.first", "unicode/utf8.acceptRanges"], apart := false, laid := [("unicode/utf8.acceptRanges", laid_unicode_utf8_acceptRanges), ("unicode/utf8.first", laid_unicode_utf8_first)] }
def FnWriteArrayShortSaid : Prop := fnWriteArrayShortRow.holds Tryd.pinned (OpenSpec.ofChange fnWriteArrayShortSpec)

/-- ITS FALSE NEIGHBOUR: 'it returns false'. Refute it at one input. -/
def fnWriteArrayShortWrong : ChangeSpec := { name := "fnWriteArrayShort", fn := fun _ => fun
  | [d] => { results := [.lit (.bool false)], args := [d] }
  | _ => none }
def FnWriteArrayShortWrongFalsely : Prop := fnWriteArrayShortRow.holds Tryd.pinned (OpenSpec.ofChange fnWriteArrayShortWrong)

/-- 'laws.FnWriteArrayUuid': WHATEVER THE INPUT: true; the input reads as it did. -/
def fnWriteArrayUuidSpec : ChangeSpec := { name := "fnWriteArrayUuid", fn := fun _ => fun
  | [d] => { results := [.lit (.bool true)], args := [d] }
  | _ => none }
def fnWriteArrayUuidRow : OpenClaim := { program := "ytckjclkpgdhcoaadoor", sum := "bb990d7f0960f3e755b82b63c7d2373d251816bf63684fbbb6431b84f9b05e09", func := "given.example/pub-saddlebag/laws.FnWriteArrayUuid", spec := "fnWriteArrayUuid", recurses := true, named := ["unicode/utf8.first", "unicode/utf8.acceptRanges"], apart := false, laid := [("unicode/utf8.acceptRanges", laid_unicode_utf8_acceptRanges), ("unicode/utf8.first", laid_unicode_utf8_first)] }
def FnWriteArrayUuidSaid : Prop := fnWriteArrayUuidRow.holds Tryd.pinned (OpenSpec.ofChange fnWriteArrayUuidSpec)

/-- ITS FALSE NEIGHBOUR: 'it returns false'. Refute it at one input. -/
def fnWriteArrayUuidWrong : ChangeSpec := { name := "fnWriteArrayUuid", fn := fun _ => fun
  | [d] => { results := [.lit (.bool false)], args := [d] }
  | _ => none }
def FnWriteArrayUuidWrongFalsely : Prop := fnWriteArrayUuidRow.holds Tryd.pinned (OpenSpec.ofChange fnWriteArrayUuidWrong)

/-- 'laws.FnWriteArrayTimestamp': WHATEVER THE INPUT: true; the input reads as it did. -/
def fnWriteArrayTimestampSpec : ChangeSpec := { name := "fnWriteArrayTimestamp", fn := fun _ => fun
  | [d] => { results := [.lit (.bool true)], args := [d] }
  | _ => none }
def fnWriteArrayTimestampRow : OpenClaim := { program := "ytckjclkpgdhcoaadoor", sum := "bb990d7f0960f3e755b82b63c7d2373d251816bf63684fbbb6431b84f9b05e09", func := "given.example/pub-saddlebag/laws.FnWriteArrayTimestamp", spec := "fnWriteArrayTimestamp", recurses := true, named := ["unicode/utf8.first", "unicode/utf8.acceptRanges"], apart := false, laid := [("unicode/utf8.acceptRanges", laid_unicode_utf8_acceptRanges), ("unicode/utf8.first", laid_unicode_utf8_first)] }
def FnWriteArrayTimestampSaid : Prop := fnWriteArrayTimestampRow.holds Tryd.pinned (OpenSpec.ofChange fnWriteArrayTimestampSpec)

/-- ITS FALSE NEIGHBOUR: 'it returns false'. Refute it at one input. -/
def fnWriteArrayTimestampWrong : ChangeSpec := { name := "fnWriteArrayTimestamp", fn := fun _ => fun
  | [d] => { results := [.lit (.bool false)], args := [d] }
  | _ => none }
def FnWriteArrayTimestampWrongFalsely : Prop := fnWriteArrayTimestampRow.holds Tryd.pinned (OpenSpec.ofChange fnWriteArrayTimestampWrong)

/- THE SECOND FORM. 'bulk': how many values and letters a reading holds, each counted each time it is reached (what is shared counts as often as it is met; a slice's spare places count too). A statement '..UptoSaid' is the law's where the arguments, and the package variables that the reading takes, are together of bulk at most 1048576: NARROWER than '..Said'. Prove '..Said' where nothing that the law and all that it calls make is longer than what came in: it says more and counts as full. Else prove '..UptoSaid'. A law counts once. -/
mutual
def uptoBulk {H : Type} : DataW H → Nat
  | .lit (.string bytes) => bytes.length + 1
  | .lit _ => 1
  | .nil => 1
  | .ptr d => uptoBulk d + 1
  | .slice elems spare => uptoBulkAll elems + uptoBulkAll spare + 1
  | .agg parts => uptoBulkAll parts + 1
  | .iface _ d => uptoBulk d + 1
  | .map entries => uptoBulkEntries entries + 1
  | .held _ => 1
def uptoBulkAll {H : Type} : List (DataW H) → Nat
  | [] => 0
  | d :: r => uptoBulk d + uptoBulkAll r
def uptoBulkEntries {H : Type} : List (Lit × DataW H) → Nat
  | [] => 0
  | x :: r => uptoBulkEntry x + uptoBulkEntries r
def uptoBulkEntry {H : Type} : Lit × DataW H → Nat
  | (.string bytes, d) => bytes.length + uptoBulk d + 1
  | (_, d) => uptoBulk d + 1
 end
def uptoSmall : (H : Type) → List (DataW H) → Bool := fun _ ds => decide (uptoBulkAll ds ≤ 1048576)
def OpenSpec.upto (s : _root_.Go.ChangeSpec) : _root_.Go.OpenSpec := { _root_.Go.OpenSpec.ofChange s with cond := some uptoSmall }

/-- 'laws.FnWriteFloat', WHERE WHAT IT READS IS OF BULK AT MOST 1048576: true; the input reads as it did. -/
def fnWriteFloatUptoRow : OpenClaim := { program := "ytckjclkpgdhcoaadoor", sum := "bb990d7f0960f3e755b82b63c7d2373d251816bf63684fbbb6431b84f9b05e09", func := "given.example/pub-saddlebag/laws.FnWriteFloat", spec := "fnWriteFloat", inPlace := ["math.Float32frombits", "math.Float32bits"], recurses := true, named := ["unicode/utf8.first", "unicode/utf8.acceptRanges"], apart := false, laid := [("unicode/utf8.acceptRanges", laid_unicode_utf8_acceptRanges), ("unicode/utf8.first", laid_unicode_utf8_first)], narrowed := true }
def FnWriteFloatUptoSaid : Prop := fnWriteFloatUptoRow.holds Tryd.pinned (OpenSpec.upto fnWriteFloatSpec)

/-- 'laws.FnWriteUlong', WHERE WHAT IT READS IS OF BULK AT MOST 1048576: true; the input reads as it did. -/
def fnWriteUlongUptoRow : OpenClaim := { program := "ytckjclkpgdhcoaadoor", sum := "bb990d7f0960f3e755b82b63c7d2373d251816bf63684fbbb6431b84f9b05e09", func := "given.example/pub-saddlebag/laws.FnWriteUlong", spec := "fnWriteUlong", recurses := true, named := ["unicode/utf8.first", "unicode/utf8.acceptRanges"], apart := false, laid := [("unicode/utf8.acceptRanges", laid_unicode_utf8_acceptRanges), ("unicode/utf8.first", laid_unicode_utf8_first)], narrowed := true }
def FnWriteUlongUptoSaid : Prop := fnWriteUlongUptoRow.holds Tryd.pinned (OpenSpec.upto fnWriteUlongSpec)

/-- 'laws.FnWriteArrayUbyte', WHERE WHAT IT READS IS OF BULK AT MOST 1048576: true; the input reads as it did. -/
def fnWriteArrayUbyteUptoRow : OpenClaim := { program := "ytckjclkpgdhcoaadoor", sum := "bb990d7f0960f3e755b82b63c7d2373d251816bf63684fbbb6431b84f9b05e09", func := "given.example/pub-saddlebag/laws.FnWriteArrayUbyte", spec := "fnWriteArrayUbyte", recurses := true, named := ["unicode/utf8.first", "unicode/utf8.acceptRanges"], apart := false, laid := [("unicode/utf8.acceptRanges", laid_unicode_utf8_acceptRanges), ("unicode/utf8.first", laid_unicode_utf8_first)], narrowed := true }
def FnWriteArrayUbyteUptoSaid : Prop := fnWriteArrayUbyteUptoRow.holds Tryd.pinned (OpenSpec.upto fnWriteArrayUbyteSpec)

/-- 'laws.FnWriteArrayShort', WHERE WHAT IT READS IS OF BULK AT MOST 1048576: true; the input reads as it did. -/
def fnWriteArrayShortUptoRow : OpenClaim := { program := "ytckjclkpgdhcoaadoor", sum := "bb990d7f0960f3e755b82b63c7d2373d251816bf63684fbbb6431b84f9b05e09", func := "given.example/pub-saddlebag/laws.FnWriteArrayShort", spec := "fnWriteArrayShort", recurses := true, named := ["unicode/utf8.first", "unicode/utf8.acceptRanges"], apart := false, laid := [("unicode/utf8.acceptRanges", laid_unicode_utf8_acceptRanges), ("unicode/utf8.first", laid_unicode_utf8_first)], narrowed := true }
def FnWriteArrayShortUptoSaid : Prop := fnWriteArrayShortUptoRow.holds Tryd.pinned (OpenSpec.upto fnWriteArrayShortSpec)

/-- 'laws.FnWriteArrayUuid', WHERE WHAT IT READS IS OF BULK AT MOST 1048576: true; the input reads as it did. -/
def fnWriteArrayUuidUptoRow : OpenClaim := { program := "ytckjclkpgdhcoaadoor", sum := "bb990d7f0960f3e755b82b63c7d2373d251816bf63684fbbb6431b84f9b05e09", func := "given.example/pub-saddlebag/laws.FnWriteArrayUuid", spec := "fnWriteArrayUuid", recurses := true, named := ["unicode/utf8.first", "unicode/utf8.acceptRanges"], apart := false, laid := [("unicode/utf8.acceptRanges", laid_unicode_utf8_acceptRanges), ("unicode/utf8.first", laid_unicode_utf8_first)], narrowed := true }
def FnWriteArrayUuidUptoSaid : Prop := fnWriteArrayUuidUptoRow.holds Tryd.pinned (OpenSpec.upto fnWriteArrayUuidSpec)

/-- 'laws.FnWriteArrayTimestamp', WHERE WHAT IT READS IS OF BULK AT MOST 1048576: true; the input reads as it did. -/
def fnWriteArrayTimestampUptoRow : OpenClaim := { program := "ytckjclkpgdhcoaadoor", sum := "bb990d7f0960f3e755b82b63c7d2373d251816bf63684fbbb6431b84f9b05e09", func := "given.example/pub-saddlebag/laws.FnWriteArrayTimestamp", spec := "fnWriteArrayTimestamp", recurses := true, named := ["unicode/utf8.first", "unicode/utf8.acceptRanges"], apart := false, laid := [("unicode/utf8.acceptRanges", laid_unicode_utf8_acceptRanges), ("unicode/utf8.first", laid_unicode_utf8_first)], narrowed := true }
def FnWriteArrayTimestampUptoSaid : Prop := fnWriteArrayTimestampUptoRow.holds Tryd.pinned (OpenSpec.upto fnWriteArrayTimestampSpec)

end Rows
end Go.Proofs.YtckjclkpgdhcoaaDoor
