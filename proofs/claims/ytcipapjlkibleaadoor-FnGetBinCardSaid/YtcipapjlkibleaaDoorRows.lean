/-
  NARROWER THAN 'FOR EVERY INPUT', by the rows' own cells (each row's printed sentence says how): FnGetMapHead: ifaces, laid · FnGetBin: loops, ifaces, laid · FnGetInt: loops, ifaces, laid · FnGetUint: loops, ifaces, laid · FnGetByte: loops, ifaces, laid.
  DERIVED. THE GIVEN ROWS OF THIS SEAT. 5 by the template 'for every input the law returns true; each argument reads behind the call as it read before'; 0 by the template 'total and deterministic' (their statements: YtcipapjlkibleaaDoorTotals.lean).
  GIVEN WITH THE SEED: the statements are not yours to turn. If you find one false, say at which input.
  Laid BY PROGRAM, IN A SANDBOX (cutbox-rows.mjs): the forced cells as the released guide's own fill.sh prints them over the translation b24f40fa5a7f7137… (all of the seat's roots in one cut). By AI agents, Wed Nov 11 2026. No macro, syntax, notation, axiom, sorry.
-/
import Derived.Test.YtcipapjlkibleaaDoorChecked
import GoSem.Claim
import GoSem.ClaimJoined
import GoSem.ClaimMapViews
import Derived.JoinedTies
import Derived.KernelRfl
namespace Go.Proofs.YtcipapjlkibleaaDoor
/- THE CELL 'sum', in the pinned program and in every row, IS THE sha256 OF THE DUMP (.gsa) THAT YtcipapjlkibleaaDoorProg.lean LOADS. Nothing in Lean hashes anything: it is a label: what it is worth is what the hold of that sum in a sandbox is worth. -/
noncomputable def Tryd.pinned : Pinned := { name := "ytcipapjlkibleaadoor", sum := "b24f40fa5a7f7137a1d8fcf5db6a9c86f44f30c1c78307923fa53452ee93ddc1", checked := Tryd.checked }
namespace Rows
def none {H : Type} : Left H := { results := [], args := [] }

/- WHAT THE LISTED PACKAGE-LEVEL VARIABLES READ AS WHEN THE CALL BEGINS. Each datum BY PROGRAM (the guide's laid-datum.mjs) off the statement by which the dump's own 'gosem.cut.vars' lays the variable. In a bare row this is a premise. The card (YtcipapjlkibleaaDoorCards.lean) ties it to the program's text. -/
def laid_given_example_pub_saddlebag_pub_msgp_msgp_ErrShortBytes {H : Type} : DataW H := .iface "given.example/pub-saddlebag/pub/msgp/msgp.errShort" (.agg [])

/-- 'laws.FnGetMapHead': WHATEVER THE INPUT: true; the input reads as it did. -/
def fnGetMapHeadSpec : ChangeSpec := { name := "fnGetMapHead", vars := ["given.example/pub-saddlebag/pub/msgp/msgp.ErrShortBytes"], fn := fun _ => fun
  | [d1, d2, d3, d4, d5, g1] => { results := [.lit (.bool true)], args := [d1, d2, d3, d4, d5], vars := [g1] }
  | _ => none }
def fnGetMapHeadRow : OpenClaim := { program := "ytcipapjlkibleaadoor", sum := "b24f40fa5a7f7137a1d8fcf5db6a9c86f44f30c1c78307923fa53452ee93ddc1", func := "given.example/pub-saddlebag/laws.FnGetMapHead", spec := "fnGetMapHead", named := ["given.example/pub-saddlebag/pub/msgp/msgp.ErrShortBytes", "encoding/binary.BigEndian"], ifaces := true, apart := false, laid := [("given.example/pub-saddlebag/pub/msgp/msgp.ErrShortBytes", laid_given_example_pub_saddlebag_pub_msgp_msgp_ErrShortBytes)] }
def FnGetMapHeadSaid : Prop := fnGetMapHeadRow.holds Tryd.pinned (OpenSpec.ofChange fnGetMapHeadSpec)

/-- ITS FALSE NEIGHBOUR: 'it returns false'. Refute it at one input. -/
def fnGetMapHeadWrong : ChangeSpec := { name := "fnGetMapHead", vars := ["given.example/pub-saddlebag/pub/msgp/msgp.ErrShortBytes"], fn := fun _ => fun
  | [d1, d2, d3, d4, d5, g1] => { results := [.lit (.bool false)], args := [d1, d2, d3, d4, d5], vars := [g1] }
  | _ => none }
def FnGetMapHeadWrongFalsely : Prop := fnGetMapHeadRow.holds Tryd.pinned (OpenSpec.ofChange fnGetMapHeadWrong)

/-- 'laws.FnGetBin': WHATEVER THE INPUT: true; the input reads as it did. -/
def fnGetBinSpec : ChangeSpec := { name := "fnGetBin", vars := ["given.example/pub-saddlebag/pub/msgp/msgp.ErrShortBytes"], fn := fun _ => fun
  | [d, g1] => { results := [.lit (.bool true)], args := [d], vars := [g1] }
  | _ => none }
def fnGetBinRow : OpenClaim := { program := "ytcipapjlkibleaadoor", sum := "b24f40fa5a7f7137a1d8fcf5db6a9c86f44f30c1c78307923fa53452ee93ddc1", func := "given.example/pub-saddlebag/laws.FnGetBin", spec := "fnGetBin", recurses := true, named := ["given.example/pub-saddlebag/pub/msgp/msgp.ErrShortBytes", "encoding/binary.BigEndian"], ifaces := true, loops := true, apart := false, laid := [("given.example/pub-saddlebag/pub/msgp/msgp.ErrShortBytes", laid_given_example_pub_saddlebag_pub_msgp_msgp_ErrShortBytes)] }
def FnGetBinSaid : Prop := fnGetBinRow.holds Tryd.pinned (OpenSpec.ofChange fnGetBinSpec)

/-- ITS FALSE NEIGHBOUR: 'it returns false'. Refute it at one input. -/
def fnGetBinWrong : ChangeSpec := { name := "fnGetBin", vars := ["given.example/pub-saddlebag/pub/msgp/msgp.ErrShortBytes"], fn := fun _ => fun
  | [d, g1] => { results := [.lit (.bool false)], args := [d], vars := [g1] }
  | _ => none }
def FnGetBinWrongFalsely : Prop := fnGetBinRow.holds Tryd.pinned (OpenSpec.ofChange fnGetBinWrong)

/-- 'laws.FnGetInt': WHATEVER THE INPUT: true; the input reads as it did. -/
def fnGetIntSpec : ChangeSpec := { name := "fnGetInt", vars := ["given.example/pub-saddlebag/pub/msgp/msgp.ErrShortBytes"], fn := fun _ => fun
  | [d, g1] => { results := [.lit (.bool true)], args := [d], vars := [g1] }
  | _ => none }
def fnGetIntRow : OpenClaim := { program := "ytcipapjlkibleaadoor", sum := "b24f40fa5a7f7137a1d8fcf5db6a9c86f44f30c1c78307923fa53452ee93ddc1", func := "given.example/pub-saddlebag/laws.FnGetInt", spec := "fnGetInt", recurses := true, named := ["given.example/pub-saddlebag/pub/msgp/msgp.ErrShortBytes", "encoding/binary.BigEndian"], ifaces := true, loops := true, apart := false, laid := [("given.example/pub-saddlebag/pub/msgp/msgp.ErrShortBytes", laid_given_example_pub_saddlebag_pub_msgp_msgp_ErrShortBytes)] }
def FnGetIntSaid : Prop := fnGetIntRow.holds Tryd.pinned (OpenSpec.ofChange fnGetIntSpec)

/-- ITS FALSE NEIGHBOUR: 'it returns false'. Refute it at one input. -/
def fnGetIntWrong : ChangeSpec := { name := "fnGetInt", vars := ["given.example/pub-saddlebag/pub/msgp/msgp.ErrShortBytes"], fn := fun _ => fun
  | [d, g1] => { results := [.lit (.bool false)], args := [d], vars := [g1] }
  | _ => none }
def FnGetIntWrongFalsely : Prop := fnGetIntRow.holds Tryd.pinned (OpenSpec.ofChange fnGetIntWrong)

/-- 'laws.FnGetUint': WHATEVER THE INPUT: true; the input reads as it did. -/
def fnGetUintSpec : ChangeSpec := { name := "fnGetUint", vars := ["given.example/pub-saddlebag/pub/msgp/msgp.ErrShortBytes"], fn := fun _ => fun
  | [d, g1] => { results := [.lit (.bool true)], args := [d], vars := [g1] }
  | _ => none }
def fnGetUintRow : OpenClaim := { program := "ytcipapjlkibleaadoor", sum := "b24f40fa5a7f7137a1d8fcf5db6a9c86f44f30c1c78307923fa53452ee93ddc1", func := "given.example/pub-saddlebag/laws.FnGetUint", spec := "fnGetUint", recurses := true, named := ["given.example/pub-saddlebag/pub/msgp/msgp.ErrShortBytes", "encoding/binary.BigEndian"], ifaces := true, loops := true, apart := false, laid := [("given.example/pub-saddlebag/pub/msgp/msgp.ErrShortBytes", laid_given_example_pub_saddlebag_pub_msgp_msgp_ErrShortBytes)] }
def FnGetUintSaid : Prop := fnGetUintRow.holds Tryd.pinned (OpenSpec.ofChange fnGetUintSpec)

/-- ITS FALSE NEIGHBOUR: 'it returns false'. Refute it at one input. -/
def fnGetUintWrong : ChangeSpec := { name := "fnGetUint", vars := ["given.example/pub-saddlebag/pub/msgp/msgp.ErrShortBytes"], fn := fun _ => fun
  | [d, g1] => { results := [.lit (.bool false)], args := [d], vars := [g1] }
  | _ => none }
def FnGetUintWrongFalsely : Prop := fnGetUintRow.holds Tryd.pinned (OpenSpec.ofChange fnGetUintWrong)

/-- 'laws.FnGetByte': WHATEVER THE INPUT: true; the input reads as it did. -/
def fnGetByteSpec : ChangeSpec := { name := "fnGetByte", vars := ["given.example/pub-saddlebag/pub/msgp/msgp.ErrShortBytes"], fn := fun _ => fun
  | [d, g1] => { results := [.lit (.bool true)], args := [d], vars := [g1] }
  | _ => none }
def fnGetByteRow : OpenClaim := { program := "ytcipapjlkibleaadoor", sum := "b24f40fa5a7f7137a1d8fcf5db6a9c86f44f30c1c78307923fa53452ee93ddc1", func := "given.example/pub-saddlebag/laws.FnGetByte", spec := "fnGetByte", recurses := true, named := ["given.example/pub-saddlebag/pub/msgp/msgp.ErrShortBytes", "encoding/binary.BigEndian"], ifaces := true, loops := true, apart := false, laid := [("given.example/pub-saddlebag/pub/msgp/msgp.ErrShortBytes", laid_given_example_pub_saddlebag_pub_msgp_msgp_ErrShortBytes)] }
def FnGetByteSaid : Prop := fnGetByteRow.holds Tryd.pinned (OpenSpec.ofChange fnGetByteSpec)

/-- ITS FALSE NEIGHBOUR: 'it returns false'. Refute it at one input. -/
def fnGetByteWrong : ChangeSpec := { name := "fnGetByte", vars := ["given.example/pub-saddlebag/pub/msgp/msgp.ErrShortBytes"], fn := fun _ => fun
  | [d, g1] => { results := [.lit (.bool false)], args := [d], vars := [g1] }
  | _ => none }
def FnGetByteWrongFalsely : Prop := fnGetByteRow.holds Tryd.pinned (OpenSpec.ofChange fnGetByteWrong)

/- THE SECOND FORM. 'bulk': how many values and letters a reading holds, each counted each time it is reached (what is shared counts as often as it is met; a slice's spare places count too). A statement '..UptoSaid' is the law's where the arguments, and the package variables that the reading takes, are together of bulk at most 1048576: NARROWER than '..Said'. Prove '..Said' where nothing that the law and all that it calls make is longer than what came in: it says more and counts as full. Else prove '..UptoSaid'. A law counts once. -/
mutual
def uptoBulk {H : Type} : DataW H → Nat
  | .lit (.string bytes) => bytes.length + 1
  | .lit _ => 1
  | .nil => 1
  | .ptr d => uptoBulk d + 1
  | .slice elems spare => uptoBulkAll elems + uptoBulkAll spare + 1
  | .agg parts => uptoBulkAll parts + 1
  | .iface _ d => uptoBulk d + 1
  | .map entries => uptoBulkEntries entries + 1
  | .held _ => 1
def uptoBulkAll {H : Type} : List (DataW H) → Nat
  | [] => 0
  | d :: r => uptoBulk d + uptoBulkAll r
def uptoBulkEntries {H : Type} : List (Lit × DataW H) → Nat
  | [] => 0
  | x :: r => uptoBulkEntry x + uptoBulkEntries r
def uptoBulkEntry {H : Type} : Lit × DataW H → Nat
  | (.string bytes, d) => bytes.length + uptoBulk d + 1
  | (_, d) => uptoBulk d + 1
 end
def uptoSmall : (H : Type) → List (DataW H) → Bool := fun _ ds => decide (uptoBulkAll ds ≤ 1048576)
def OpenSpec.upto (s : _root_.Go.ChangeSpec) : _root_.Go.OpenSpec := { _root_.Go.OpenSpec.ofChange s with cond := some uptoSmall }

/-- 'laws.FnGetMapHead', WHERE WHAT IT READS IS OF BULK AT MOST 1048576: true; the input reads as it did. -/
def fnGetMapHeadUptoRow : OpenClaim := { program := "ytcipapjlkibleaadoor", sum := "b24f40fa5a7f7137a1d8fcf5db6a9c86f44f30c1c78307923fa53452ee93ddc1", func := "given.example/pub-saddlebag/laws.FnGetMapHead", spec := "fnGetMapHead", named := ["given.example/pub-saddlebag/pub/msgp/msgp.ErrShortBytes", "encoding/binary.BigEndian"], ifaces := true, apart := false, laid := [("given.example/pub-saddlebag/pub/msgp/msgp.ErrShortBytes", laid_given_example_pub_saddlebag_pub_msgp_msgp_ErrShortBytes)], narrowed := true }
def FnGetMapHeadUptoSaid : Prop := fnGetMapHeadUptoRow.holds Tryd.pinned (OpenSpec.upto fnGetMapHeadSpec)

/-- 'laws.FnGetBin', WHERE WHAT IT READS IS OF BULK AT MOST 1048576: true; the input reads as it did. -/
def fnGetBinUptoRow : OpenClaim := { program := "ytcipapjlkibleaadoor", sum := "b24f40fa5a7f7137a1d8fcf5db6a9c86f44f30c1c78307923fa53452ee93ddc1", func := "given.example/pub-saddlebag/laws.FnGetBin", spec := "fnGetBin", recurses := true, named := ["given.example/pub-saddlebag/pub/msgp/msgp.ErrShortBytes", "encoding/binary.BigEndian"], ifaces := true, loops := true, apart := false, laid := [("given.example/pub-saddlebag/pub/msgp/msgp.ErrShortBytes", laid_given_example_pub_saddlebag_pub_msgp_msgp_ErrShortBytes)], narrowed := true }
def FnGetBinUptoSaid : Prop := fnGetBinUptoRow.holds Tryd.pinned (OpenSpec.upto fnGetBinSpec)

/-- 'laws.FnGetInt', WHERE WHAT IT READS IS OF BULK AT MOST 1048576: true; the input reads as it did. -/
def fnGetIntUptoRow : OpenClaim := { program := "ytcipapjlkibleaadoor", sum := "b24f40fa5a7f7137a1d8fcf5db6a9c86f44f30c1c78307923fa53452ee93ddc1", func := "given.example/pub-saddlebag/laws.FnGetInt", spec := "fnGetInt", recurses := true, named := ["given.example/pub-saddlebag/pub/msgp/msgp.ErrShortBytes", "encoding/binary.BigEndian"], ifaces := true, loops := true, apart := false, laid := [("given.example/pub-saddlebag/pub/msgp/msgp.ErrShortBytes", laid_given_example_pub_saddlebag_pub_msgp_msgp_ErrShortBytes)], narrowed := true }
def FnGetIntUptoSaid : Prop := fnGetIntUptoRow.holds Tryd.pinned (OpenSpec.upto fnGetIntSpec)

/-- 'laws.FnGetUint', WHERE WHAT IT READS IS OF BULK AT MOST 1048576: true; the input reads as it did. -/
def fnGetUintUptoRow : OpenClaim := { program := "ytcipapjlkibleaadoor", sum := "b24f40fa5a7f7137a1d8fcf5db6a9c86f44f30c1c78307923fa53452ee93ddc1", func := "given.example/pub-saddlebag/laws.FnGetUint", spec := "fnGetUint", recurses := true, named := ["given.example/pub-saddlebag/pub/msgp/msgp.ErrShortBytes", "encoding/binary.BigEndian"], ifaces := true, loops := true, apart := false, laid := [("given.example/pub-saddlebag/pub/msgp/msgp.ErrShortBytes", laid_given_example_pub_saddlebag_pub_msgp_msgp_ErrShortBytes)], narrowed := true }
def FnGetUintUptoSaid : Prop := fnGetUintUptoRow.holds Tryd.pinned (OpenSpec.upto fnGetUintSpec)

/-- 'laws.FnGetByte', WHERE WHAT IT READS IS OF BULK AT MOST 1048576: true; the input reads as it did. -/
def fnGetByteUptoRow : OpenClaim := { program := "ytcipapjlkibleaadoor", sum := "b24f40fa5a7f7137a1d8fcf5db6a9c86f44f30c1c78307923fa53452ee93ddc1", func := "given.example/pub-saddlebag/laws.FnGetByte", spec := "fnGetByte", recurses := true, named := ["given.example/pub-saddlebag/pub/msgp/msgp.ErrShortBytes", "encoding/binary.BigEndian"], ifaces := true, loops := true, apart := false, laid := [("given.example/pub-saddlebag/pub/msgp/msgp.ErrShortBytes", laid_given_example_pub_saddlebag_pub_msgp_msgp_ErrShortBytes)], narrowed := true }
def FnGetByteUptoSaid : Prop := fnGetByteUptoRow.holds Tryd.pinned (OpenSpec.upto fnGetByteSpec)

end Rows
end Go.Proofs.YtcipapjlkibleaaDoor
