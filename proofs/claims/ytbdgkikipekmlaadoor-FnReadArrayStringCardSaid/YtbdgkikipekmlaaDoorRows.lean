/-
  NARROWER THAN 'FOR EVERY INPUT', by the rows' own cells (each row's printed sentence says how): FnReadDouble: loops, laid · FnReadMilliseconds: loops, laid · FnReadListHead: loops, laid · FnReadBinary: loops, laid · FnReadArrayUshort: loops, laid · FnReadArrayInt: loops, laid · FnReadArrayString: loops, laid.
  DERIVED. THE GIVEN ROWS OF THIS SEAT. 7 by the template 'for every input the law returns true; each argument reads behind the call as it read before'; 0 by the template 'total and deterministic' (their statements: YtbdgkikipekmlaaDoorTotals.lean).
  GIVEN WITH THE SEED: the statements are not yours to turn. If you find one false, say at which input.
  Laid BY PROGRAM, IN A SANDBOX (cutbox-rows.mjs): the forced cells as the released guide's own fill.sh prints them over the translation 6e44a87049268ab5… (all of the seat's roots in one cut). By AI agents, Wed Nov 11 2026. No macro, syntax, notation, axiom, sorry.
-/
import Derived.Test.YtbdgkikipekmlaaDoorChecked
import GoSem.PinnedTables
import GoSem.Claim
import GoSem.ClaimJoined
import GoSem.ClaimMapViews
import Derived.JoinedTies
import Derived.KernelRfl
namespace Go.Proofs.YtbdgkikipekmlaaDoor
/- THE CELL 'sum', in the pinned program and in every row, IS THE sha256 OF THE DUMP (.gsa) THAT YtbdgkikipekmlaaDoorProg.lean LOADS. Nothing in Lean hashes anything: it is a label: what it is worth is what the hold of that sum in a sandbox is worth. -/
noncomputable def Tryd.pinned : Pinned := { name := "ytbdgkikipekmlaadoor", sum := "6e44a87049268ab54c1bab2ab349b633f3b00c00ce392e0cbf9a43bbf4c434ec", checked := Tryd.checked }
namespace Rows
def none {H : Type} : Left H := { results := [], args := [] }

/- WHAT THE LISTED PACKAGE-LEVEL VARIABLES READ AS WHEN THE CALL BEGINS. Each datum BY PROGRAM (the guide's laid-datum.mjs) off the statement by which the dump's own 'gosem.cut.vars' lays the variable. In a bare row this is a premise. The card (YtbdgkikipekmlaaDoorCards.lean) ties it to the program's text. -/
def laid_unicode_utf8_acceptRanges {H : Type} : DataW H := .agg [.agg [.lit (.int .u8 128), .lit (.int .u8 191)], .agg [.lit (.int .u8 160), .lit (.int .u8 191)], .agg [.lit (.int .u8 128), .lit (.int .u8 159)], .agg [.lit (.int .u8 144), .lit (.int .u8 191)], .agg [.lit (.int .u8 128), .lit (.int .u8 143)], .agg [.lit (.int .u8 0), .lit (.int .u8 0)], .agg [.lit (.int .u8 0), .lit (.int .u8 0)], .agg [.lit (.int .u8 0), .lit (.int .u8 0)], .agg [.lit (.int .u8 0), .lit (.int .u8 0)], .agg [.lit (.int .u8 0), .lit (.int .u8 0)], .agg [.lit (.int .u8 0), .lit (.int .u8 0)], .agg [.lit (.int .u8 0), .lit (.int .u8 0)], .agg [.lit (.int .u8 0), .lit (.int .u8 0)], .agg [.lit (.int .u8 0), .lit (.int .u8 0)], .agg [.lit (.int .u8 0), .lit (.int .u8 0)], .agg [.lit (.int .u8 0), .lit (.int .u8 0)]]
def laid_io_EOF {H : Type} : DataW H := .iface "*errors.errorString" (.ptr (.agg [.lit (.string [69, 79, 70])]))
/-- One of Go's own tables, pinned by name: the form's constant. -/
def laid_unicode_utf8_first : DataW Unit := Go.Pinned.utf8First

/-- 'laws.FnReadDouble': WHATEVER THE INPUT: true; the input reads as it did. -/
def fnReadDoubleSpec : ChangeSpec := { name := "fnReadDouble", fn := fun _ => fun
  | [d] => { results := [.lit (.bool true)], args := [d] }
  | _ => none }
def fnReadDoubleRow : OpenClaim := { program := "ytbdgkikipekmlaadoor", sum := "6e44a87049268ab54c1bab2ab349b633f3b00c00ce392e0cbf9a43bbf4c434ec", func := "given.example/pub-saddlebag/laws.FnReadDouble", spec := "fnReadDouble", inPlace := ["math.Float64frombits", "math.Float64bits"], recurses := true, named := ["io.EOF", "encoding/binary.BigEndian", "unicode/utf8.first", "unicode/utf8.acceptRanges"], loops := true, apart := false, laid := [("unicode/utf8.acceptRanges", laid_unicode_utf8_acceptRanges), ("io.EOF", laid_io_EOF), ("unicode/utf8.first", laid_unicode_utf8_first)] }
def FnReadDoubleSaid : Prop := fnReadDoubleRow.holds Tryd.pinned (OpenSpec.ofChange fnReadDoubleSpec)

/-- ITS FALSE NEIGHBOUR: 'it returns false'. Refute it at one input. -/
def fnReadDoubleWrong : ChangeSpec := { name := "fnReadDouble", fn := fun _ => fun
  | [d] => { results := [.lit (.bool false)], args := [d] }
  | _ => none }
def FnReadDoubleWrongFalsely : Prop := fnReadDoubleRow.holds Tryd.pinned (OpenSpec.ofChange fnReadDoubleWrong)

/-- 'laws.FnReadMilliseconds': WHATEVER THE INPUT: true; the input reads as it did. -/
def fnReadMillisecondsSpec : ChangeSpec := { name := "fnReadMilliseconds", fn := fun _ => fun
  | [d] => { results := [.lit (.bool true)], args := [d] }
  | _ => none }
def fnReadMillisecondsRow : OpenClaim := { program := "ytbdgkikipekmlaadoor", sum := "6e44a87049268ab54c1bab2ab349b633f3b00c00ce392e0cbf9a43bbf4c434ec", func := "given.example/pub-saddlebag/laws.FnReadMilliseconds", spec := "fnReadMilliseconds", recurses := true, named := ["io.EOF", "encoding/binary.BigEndian", "unicode/utf8.first", "unicode/utf8.acceptRanges"], loops := true, apart := false, laid := [("unicode/utf8.acceptRanges", laid_unicode_utf8_acceptRanges), ("io.EOF", laid_io_EOF), ("unicode/utf8.first", laid_unicode_utf8_first)] }
def FnReadMillisecondsSaid : Prop := fnReadMillisecondsRow.holds Tryd.pinned (OpenSpec.ofChange fnReadMillisecondsSpec)

/-- ITS FALSE NEIGHBOUR: 'it returns false'. Refute it at one input. -/
def fnReadMillisecondsWrong : ChangeSpec := { name := "fnReadMilliseconds", fn := fun _ => fun
  | [d] => { results := [.lit (.bool false)], args := [d] }
  | _ => none }
def FnReadMillisecondsWrongFalsely : Prop := fnReadMillisecondsRow.holds Tryd.pinned (OpenSpec.ofChange fnReadMillisecondsWrong)

/-- 'laws.FnReadListHead': WHATEVER THE INPUT: true; the input reads as it did. -/
def fnReadListHeadSpec : ChangeSpec := { name := "fnReadListHead", fn := fun _ => fun
  | [d] => { results := [.lit (.bool true)], args := [d] }
  | _ => none }
def fnReadListHeadRow : OpenClaim := { program := "ytbdgkikipekmlaadoor", sum := "6e44a87049268ab54c1bab2ab349b633f3b00c00ce392e0cbf9a43bbf4c434ec", func := "given.example/pub-saddlebag/laws.FnReadListHead", spec := "fnReadListHead", recurses := true, named := ["encoding/binary.BigEndian", "io.EOF", "unicode/utf8.first", "unicode/utf8.acceptRanges"], loops := true, apart := false, laid := [("unicode/utf8.acceptRanges", laid_unicode_utf8_acceptRanges), ("io.EOF", laid_io_EOF), ("unicode/utf8.first", laid_unicode_utf8_first)] }
def FnReadListHeadSaid : Prop := fnReadListHeadRow.holds Tryd.pinned (OpenSpec.ofChange fnReadListHeadSpec)

/-- ITS FALSE NEIGHBOUR: 'it returns false'. Refute it at one input. -/
def fnReadListHeadWrong : ChangeSpec := { name := "fnReadListHead", fn := fun _ => fun
  | [d] => { results := [.lit (.bool false)], args := [d] }
  | _ => none }
def FnReadListHeadWrongFalsely : Prop := fnReadListHeadRow.holds Tryd.pinned (OpenSpec.ofChange fnReadListHeadWrong)

/-- 'laws.FnReadBinary': WHATEVER THE INPUT: true; the input reads as it did. -/
def fnReadBinarySpec : ChangeSpec := { name := "fnReadBinary", fn := fun _ => fun
  | [d] => { results := [.lit (.bool true)], args := [d] }
  | _ => none }
def fnReadBinaryRow : OpenClaim := { program := "ytbdgkikipekmlaadoor", sum := "6e44a87049268ab54c1bab2ab349b633f3b00c00ce392e0cbf9a43bbf4c434ec", func := "given.example/pub-saddlebag/laws.FnReadBinary", spec := "fnReadBinary", recurses := true, named := ["encoding/binary.BigEndian", "io.EOF", "unicode/utf8.first", "unicode/utf8.acceptRanges"], loops := true, apart := false, laid := [("unicode/utf8.acceptRanges", laid_unicode_utf8_acceptRanges), ("io.EOF", laid_io_EOF), ("unicode/utf8.first", laid_unicode_utf8_first)] }
def FnReadBinarySaid : Prop := fnReadBinaryRow.holds Tryd.pinned (OpenSpec.ofChange fnReadBinarySpec)

/-- ITS FALSE NEIGHBOUR: 'it returns false'. Refute it at one input. -/
def fnReadBinaryWrong : ChangeSpec := { name := "fnReadBinary", fn := fun _ => fun
  | [d] => { results := [.lit (.bool false)], args := [d] }
  | _ => none }
def FnReadBinaryWrongFalsely : Prop := fnReadBinaryRow.holds Tryd.pinned (OpenSpec.ofChange fnReadBinaryWrong)

/-- 'laws.FnReadArrayUshort': WHATEVER THE INPUT: true; the input reads as it did. -/
def fnReadArrayUshortSpec : ChangeSpec := { name := "fnReadArrayUshort", fn := fun _ => fun
  | [d] => { results := [.lit (.bool true)], args := [d] }
  | _ => none }
def fnReadArrayUshortRow : OpenClaim := { program := "ytbdgkikipekmlaadoor", sum := "6e44a87049268ab54c1bab2ab349b633f3b00c00ce392e0cbf9a43bbf4c434ec", func := "given.example/pub-saddlebag/laws.FnReadArrayUshort", spec := "fnReadArrayUshort", recurses := true, named := ["encoding/binary.BigEndian", "io.EOF", "unicode/utf8.first", "unicode/utf8.acceptRanges"], loops := true, apart := false, laid := [("unicode/utf8.acceptRanges", laid_unicode_utf8_acceptRanges), ("io.EOF", laid_io_EOF), ("unicode/utf8.first", laid_unicode_utf8_first)] }
def FnReadArrayUshortSaid : Prop := fnReadArrayUshortRow.holds Tryd.pinned (OpenSpec.ofChange fnReadArrayUshortSpec)

/-- ITS FALSE NEIGHBOUR: 'it returns false'. Refute it at one input. -/
def fnReadArrayUshortWrong : ChangeSpec := { name := "fnReadArrayUshort", fn := fun _ => fun
  | [d] => { results := [.lit (.bool false)], args := [d] }
  | _ => none }
def FnReadArrayUshortWrongFalsely : Prop := fnReadArrayUshortRow.holds Tryd.pinned (OpenSpec.ofChange fnReadArrayUshortWrong)

/-- 'laws.FnReadArrayInt': WHATEVER THE INPUT: true; the input reads as it did. -/
def fnReadArrayIntSpec : ChangeSpec := { name := "fnReadArrayInt", fn := fun _ => fun
  | [d] => { results := [.lit (.bool true)], args := [d] }
  | _ => none }
def fnReadArrayIntRow : OpenClaim := { program := "ytbdgkikipekmlaadoor", sum := "6e44a87049268ab54c1bab2ab349b633f3b00c00ce392e0cbf9a43bbf4c434ec", func := "given.example/pub-saddlebag/laws.FnReadArrayInt", spec := "fnReadArrayInt", recurses := true, named := ["encoding/binary.BigEndian", "io.EOF", "unicode/utf8.first", "unicode/utf8.acceptRanges"], loops := true, apart := false, laid := [("unicode/utf8.acceptRanges", laid_unicode_utf8_acceptRanges), ("io.EOF", laid_io_EOF), ("unicode/utf8.first", laid_unicode_utf8_first)] }
def FnReadArrayIntSaid : Prop := fnReadArrayIntRow.holds Tryd.pinned (OpenSpec.ofChange fnReadArrayIntSpec)

/-- ITS FALSE NEIGHBOUR: 'it returns false'. Refute it at one input. -/
def fnReadArrayIntWrong : ChangeSpec := { name := "fnReadArrayInt", fn := fun _ => fun
  | [d] => { results := [.lit (.bool false)], args := [d] }
  | _ => none }
def FnReadArrayIntWrongFalsely : Prop := fnReadArrayIntRow.holds Tryd.pinned (OpenSpec.ofChange fnReadArrayIntWrong)

/-- 'laws.FnReadArrayString': WHATEVER THE INPUT: true; the input reads as it did. -/
def fnReadArrayStringSpec : ChangeSpec := { name := "fnReadArrayString", fn := fun _ => fun
  | [d] => { results := [.lit (.bool true)], args := [d] }
  | _ => none }
def fnReadArrayStringRow : OpenClaim := { program := "ytbdgkikipekmlaadoor", sum := "6e44a87049268ab54c1bab2ab349b633f3b00c00ce392e0cbf9a43bbf4c434ec", func := "given.example/pub-saddlebag/laws.FnReadArrayString", spec := "fnReadArrayString", recurses := true, named := ["unicode/utf8.first", "unicode/utf8.acceptRanges", "encoding/binary.BigEndian", "io.EOF"], loops := true, apart := false, laid := [("unicode/utf8.acceptRanges", laid_unicode_utf8_acceptRanges), ("io.EOF", laid_io_EOF), ("unicode/utf8.first", laid_unicode_utf8_first)] }
def FnReadArrayStringSaid : Prop := fnReadArrayStringRow.holds Tryd.pinned (OpenSpec.ofChange fnReadArrayStringSpec)

/-- ITS FALSE NEIGHBOUR: 'it returns false'. Refute it at one input. -/
def fnReadArrayStringWrong : ChangeSpec := { name := "fnReadArrayString", fn := fun _ => fun
  | [d] => { results := [.lit (.bool false)], args := [d] }
  | _ => none }
def FnReadArrayStringWrongFalsely : Prop := fnReadArrayStringRow.holds Tryd.pinned (OpenSpec.ofChange fnReadArrayStringWrong)

/- THE SECOND FORM. 'bulk': how many values and letters a reading holds, each counted each time it is reached (what is shared counts as often as it is met; a slice's spare places count too). A statement '..UptoSaid' is the law's where the arguments, and the package variables that the reading takes, are together of bulk at most 1048576: NARROWER than '..Said'. Prove '..Said' where nothing that the law and all that it calls make is longer than what came in: it says more and counts as full. Else prove '..UptoSaid'. A law counts once. -/
mutual
def uptoBulk {H : Type} : DataW H → Nat
  | .lit (.string bytes) => bytes.length + 1
  | .lit _ => 1
  | .nil => 1
  | .ptr d => uptoBulk d + 1
  | .slice elems spare => uptoBulkAll elems + uptoBulkAll spare + 1
  | .agg parts => uptoBulkAll parts + 1
  | .iface _ d => uptoBulk d + 1
  | .map entries => uptoBulkEntries entries + 1
  | .held _ => 1
def uptoBulkAll {H : Type} : List (DataW H) → Nat
  | [] => 0
  | d :: r => uptoBulk d + uptoBulkAll r
def uptoBulkEntries {H : Type} : List (Lit × DataW H) → Nat
  | [] => 0
  | x :: r => uptoBulkEntry x + uptoBulkEntries r
def uptoBulkEntry {H : Type} : Lit × DataW H → Nat
  | (.string bytes, d) => bytes.length + uptoBulk d + 1
  | (_, d) => uptoBulk d + 1
 end
def uptoSmall : (H : Type) → List (DataW H) → Bool := fun _ ds => decide (uptoBulkAll ds ≤ 1048576)
def OpenSpec.upto (s : _root_.Go.ChangeSpec) : _root_.Go.OpenSpec := { _root_.Go.OpenSpec.ofChange s with cond := some uptoSmall }

/-- 'laws.FnReadDouble', WHERE WHAT IT READS IS OF BULK AT MOST 1048576: true; the input reads as it did. -/
def fnReadDoubleUptoRow : OpenClaim := { program := "ytbdgkikipekmlaadoor", sum := "6e44a87049268ab54c1bab2ab349b633f3b00c00ce392e0cbf9a43bbf4c434ec", func := "given.example/pub-saddlebag/laws.FnReadDouble", spec := "fnReadDouble", inPlace := ["math.Float64frombits", "math.Float64bits"], recurses := true, named := ["io.EOF", "encoding/binary.BigEndian", "unicode/utf8.first", "unicode/utf8.acceptRanges"], loops := true, apart := false, laid := [("unicode/utf8.acceptRanges", laid_unicode_utf8_acceptRanges), ("io.EOF", laid_io_EOF), ("unicode/utf8.first", laid_unicode_utf8_first)], narrowed := true }
def FnReadDoubleUptoSaid : Prop := fnReadDoubleUptoRow.holds Tryd.pinned (OpenSpec.upto fnReadDoubleSpec)

/-- 'laws.FnReadMilliseconds', WHERE WHAT IT READS IS OF BULK AT MOST 1048576: true; the input reads as it did. -/
def fnReadMillisecondsUptoRow : OpenClaim := { program := "ytbdgkikipekmlaadoor", sum := "6e44a87049268ab54c1bab2ab349b633f3b00c00ce392e0cbf9a43bbf4c434ec", func := "given.example/pub-saddlebag/laws.FnReadMilliseconds", spec := "fnReadMilliseconds", recurses := true, named := ["io.EOF", "encoding/binary.BigEndian", "unicode/utf8.first", "unicode/utf8.acceptRanges"], loops := true, apart := false, laid := [("unicode/utf8.acceptRanges", laid_unicode_utf8_acceptRanges), ("io.EOF", laid_io_EOF), ("unicode/utf8.first", laid_unicode_utf8_first)], narrowed := true }
def FnReadMillisecondsUptoSaid : Prop := fnReadMillisecondsUptoRow.holds Tryd.pinned (OpenSpec.upto fnReadMillisecondsSpec)

/-- 'laws.FnReadListHead', WHERE WHAT IT READS IS OF BULK AT MOST 1048576: true; the input reads as it did. -/
def fnReadListHeadUptoRow : OpenClaim := { program := "ytbdgkikipekmlaadoor", sum := "6e44a87049268ab54c1bab2ab349b633f3b00c00ce392e0cbf9a43bbf4c434ec", func := "given.example/pub-saddlebag/laws.FnReadListHead", spec := "fnReadListHead", recurses := true, named := ["encoding/binary.BigEndian", "io.EOF", "unicode/utf8.first", "unicode/utf8.acceptRanges"], loops := true, apart := false, laid := [("unicode/utf8.acceptRanges", laid_unicode_utf8_acceptRanges), ("io.EOF", laid_io_EOF), ("unicode/utf8.first", laid_unicode_utf8_first)], narrowed := true }
def FnReadListHeadUptoSaid : Prop := fnReadListHeadUptoRow.holds Tryd.pinned (OpenSpec.upto fnReadListHeadSpec)

/-- 'laws.FnReadBinary', WHERE WHAT IT READS IS OF BULK AT MOST 1048576: true; the input reads as it did. -/
def fnReadBinaryUptoRow : OpenClaim := { program := "ytbdgkikipekmlaadoor", sum := "6e44a87049268ab54c1bab2ab349b633f3b00c00ce392e0cbf9a43bbf4c434ec", func := "given.example/pub-saddlebag/laws.FnReadBinary", spec := "fnReadBinary", recurses := true, named := ["encoding/binary.BigEndian", "io.EOF", "unicode/utf8.first", "unicode/utf8.acceptRanges"], loops := true, apart := false, laid := [("unicode/utf8.acceptRanges", laid_unicode_utf8_acceptRanges), ("io.EOF", laid_io_EOF), ("unicode/utf8.first", laid_unicode_utf8_first)], narrowed := true }
def FnReadBinaryUptoSaid : Prop := fnReadBinaryUptoRow.holds Tryd.pinned (OpenSpec.upto fnReadBinarySpec)

/-- 'laws.FnReadArrayUshort', WHERE WHAT IT READS IS OF BULK AT MOST 1048576: true; the input reads as it did. -/
def fnReadArrayUshortUptoRow : OpenClaim := { program := "ytbdgkikipekmlaadoor", sum := "6e44a87049268ab54c1bab2ab349b633f3b00c00ce392e0cbf9a43bbf4c434ec", func := "given.example/pub-saddlebag/laws.FnReadArrayUshort", spec := "fnReadArrayUshort", recurses := true, named := ["encoding/binary.BigEndian", "io.EOF", "unicode/utf8.first", "unicode/utf8.acceptRanges"], loops := true, apart := false, laid := [("unicode/utf8.acceptRanges", laid_unicode_utf8_acceptRanges), ("io.EOF", laid_io_EOF), ("unicode/utf8.first", laid_unicode_utf8_first)], narrowed := true }
def FnReadArrayUshortUptoSaid : Prop := fnReadArrayUshortUptoRow.holds Tryd.pinned (OpenSpec.upto fnReadArrayUshortSpec)

/-- 'laws.FnReadArrayInt', WHERE WHAT IT READS IS OF BULK AT MOST 1048576: true; the input reads as it did. -/
def fnReadArrayIntUptoRow : OpenClaim := { program := "ytbdgkikipekmlaadoor", sum := "6e44a87049268ab54c1bab2ab349b633f3b00c00ce392e0cbf9a43bbf4c434ec", func := "given.example/pub-saddlebag/laws.FnReadArrayInt", spec := "fnReadArrayInt", recurses := true, named := ["encoding/binary.BigEndian", "io.EOF", "unicode/utf8.first", "unicode/utf8.acceptRanges"], loops := true, apart := false, laid := [("unicode/utf8.acceptRanges", laid_unicode_utf8_acceptRanges), ("io.EOF", laid_io_EOF), ("unicode/utf8.first", laid_unicode_utf8_first)], narrowed := true }
def FnReadArrayIntUptoSaid : Prop := fnReadArrayIntUptoRow.holds Tryd.pinned (OpenSpec.upto fnReadArrayIntSpec)

/-- 'laws.FnReadArrayString', WHERE WHAT IT READS IS OF BULK AT MOST 1048576: true; the input reads as it did. -/
def fnReadArrayStringUptoRow : OpenClaim := { program := "ytbdgkikipekmlaadoor", sum := "6e44a87049268ab54c1bab2ab349b633f3b00c00ce392e0cbf9a43bbf4c434ec", func := "given.example/pub-saddlebag/laws.FnReadArrayString", spec := "fnReadArrayString", recurses := true, named := ["unicode/utf8.first", "unicode/utf8.acceptRanges", "encoding/binary.BigEndian", "io.EOF"], loops := true, apart := false, laid := [("unicode/utf8.acceptRanges", laid_unicode_utf8_acceptRanges), ("io.EOF", laid_io_EOF), ("unicode/utf8.first", laid_unicode_utf8_first)], narrowed := true }
def FnReadArrayStringUptoSaid : Prop := fnReadArrayStringUptoRow.holds Tryd.pinned (OpenSpec.upto fnReadArrayStringSpec)

end Rows
end Go.Proofs.YtbdgkikipekmlaaDoor
