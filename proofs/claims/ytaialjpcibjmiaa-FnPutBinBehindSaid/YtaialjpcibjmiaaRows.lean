/-
  No cell of these rows narrows 'for every input' (looked for: loops, veiled, ifaces, maps, wideKeys, modest, calm, conditions, laid).
  DERIVED. THE GIVEN ROWS OF THIS SEAT. 5 by the template 'for every input the law returns true; each argument reads behind the call as it read before'; 0 by the template 'total and deterministic' (their statements: YtaialjpcibjmiaaTotals.lean).
  GIVEN WITH THE SEED: the statements are not yours to turn. If you find one false, say at which input.
  Laid BY PROGRAM, IN A SANDBOX (cutbox-rows.mjs): the forced cells as the released guide's own fill.sh prints them over the translation 82d1ebcdef096855… (all of the seat's roots in one cut). By AI agents, Wed Nov 11 2026. No macro, syntax, notation, axiom, sorry.
-/
import Derived.Test.YtaialjpcibjmiaaChecked
import GoSem.Claim
import GoSem.ClaimJoined
import GoSem.ClaimMapViews
import Derived.JoinedTies
import Derived.KernelRfl
namespace Go.Proofs.Ytaialjpcibjmiaa
/- THE CELL 'sum', in the pinned program and in every row, IS THE sha256 OF THE DUMP (.gsa) THAT YtaialjpcibjmiaaProg.lean LOADS. Nothing in Lean hashes anything: it is a label: what it is worth is what the hold of that sum in a sandbox is worth. -/
noncomputable def Try.pinned : Pinned := { name := "ytaialjpcibjmiaa", sum := "82d1ebcdef09685503893da7fd18acf6dc74623ae90e8de3cc6d5636afdcc14a", checked := Try.checked }
namespace Rows
def none {H : Type} : Left H := { results := [], args := [] }

/-- 'laws.FnPutFloat64': WHATEVER THE INPUT: true; the input reads as it did. -/
def fnPutFloat64Spec : ChangeSpec := { name := "fnPutFloat64", fn := fun _ => fun
  | [d1, d2] => { results := [.lit (.bool true)], args := [d1, d2] }
  | _ => none }
def fnPutFloat64Row : OpenClaim := { program := "ytaialjpcibjmiaa", sum := "82d1ebcdef09685503893da7fd18acf6dc74623ae90e8de3cc6d5636afdcc14a", func := "given.example/pub-saddlebag/laws.FnPutFloat64", spec := "fnPutFloat64", inPlace := ["math.Float64frombits", "math.Float64bits"], recurses := true, apart := false }
def FnPutFloat64Said : Prop := fnPutFloat64Row.holds Try.pinned (OpenSpec.ofChange fnPutFloat64Spec)

/-- ITS FALSE NEIGHBOUR: 'it returns false'. Refute it at one input. -/
def fnPutFloat64Wrong : ChangeSpec := { name := "fnPutFloat64", fn := fun _ => fun
  | [d1, d2] => { results := [.lit (.bool false)], args := [d1, d2] }
  | _ => none }
def FnPutFloat64WrongFalsely : Prop := fnPutFloat64Row.holds Try.pinned (OpenSpec.ofChange fnPutFloat64Wrong)

/-- 'laws.FnPutBinBehind': WHATEVER THE INPUT: true; the input reads as it did. -/
def fnPutBinBehindSpec : ChangeSpec := { name := "fnPutBinBehind", fn := fun _ => fun
  | [d1, d2] => { results := [.lit (.bool true)], args := [d1, d2] }
  | _ => none }
def fnPutBinBehindRow : OpenClaim := { program := "ytaialjpcibjmiaa", sum := "82d1ebcdef09685503893da7fd18acf6dc74623ae90e8de3cc6d5636afdcc14a", func := "given.example/pub-saddlebag/laws.FnPutBinBehind", spec := "fnPutBinBehind", recurses := true, apart := false }
def FnPutBinBehindSaid : Prop := fnPutBinBehindRow.holds Try.pinned (OpenSpec.ofChange fnPutBinBehindSpec)

/-- ITS FALSE NEIGHBOUR: 'it returns false'. Refute it at one input. -/
def fnPutBinBehindWrong : ChangeSpec := { name := "fnPutBinBehind", fn := fun _ => fun
  | [d1, d2] => { results := [.lit (.bool false)], args := [d1, d2] }
  | _ => none }
def FnPutBinBehindWrongFalsely : Prop := fnPutBinBehindRow.holds Try.pinned (OpenSpec.ofChange fnPutBinBehindWrong)

/-- 'laws.FnPutArrayHead': WHATEVER THE INPUT: true; the input reads as it did. -/
def fnPutArrayHeadSpec : ChangeSpec := { name := "fnPutArrayHead", fn := fun _ => fun
  | [d1, d2] => { results := [.lit (.bool true)], args := [d1, d2] }
  | _ => none }
def fnPutArrayHeadRow : OpenClaim := { program := "ytaialjpcibjmiaa", sum := "82d1ebcdef09685503893da7fd18acf6dc74623ae90e8de3cc6d5636afdcc14a", func := "given.example/pub-saddlebag/laws.FnPutArrayHead", spec := "fnPutArrayHead", apart := false }
def FnPutArrayHeadSaid : Prop := fnPutArrayHeadRow.holds Try.pinned (OpenSpec.ofChange fnPutArrayHeadSpec)

/-- ITS FALSE NEIGHBOUR: 'it returns false'. Refute it at one input. -/
def fnPutArrayHeadWrong : ChangeSpec := { name := "fnPutArrayHead", fn := fun _ => fun
  | [d1, d2] => { results := [.lit (.bool false)], args := [d1, d2] }
  | _ => none }
def FnPutArrayHeadWrongFalsely : Prop := fnPutArrayHeadRow.holds Try.pinned (OpenSpec.ofChange fnPutArrayHeadWrong)

/-- 'laws.FnPutUint8': WHATEVER THE INPUT: true; the input reads as it did. -/
def fnPutUint8Spec : ChangeSpec := { name := "fnPutUint8", fn := fun _ => fun
  | [d1, d2] => { results := [.lit (.bool true)], args := [d1, d2] }
  | _ => none }
def fnPutUint8Row : OpenClaim := { program := "ytaialjpcibjmiaa", sum := "82d1ebcdef09685503893da7fd18acf6dc74623ae90e8de3cc6d5636afdcc14a", func := "given.example/pub-saddlebag/laws.FnPutUint8", spec := "fnPutUint8", recurses := true, apart := false }
def FnPutUint8Said : Prop := fnPutUint8Row.holds Try.pinned (OpenSpec.ofChange fnPutUint8Spec)

/-- ITS FALSE NEIGHBOUR: 'it returns false'. Refute it at one input. -/
def fnPutUint8Wrong : ChangeSpec := { name := "fnPutUint8", fn := fun _ => fun
  | [d1, d2] => { results := [.lit (.bool false)], args := [d1, d2] }
  | _ => none }
def FnPutUint8WrongFalsely : Prop := fnPutUint8Row.holds Try.pinned (OpenSpec.ofChange fnPutUint8Wrong)

/-- 'laws.FnPutInt8': WHATEVER THE INPUT: true; the input reads as it did. -/
def fnPutInt8Spec : ChangeSpec := { name := "fnPutInt8", fn := fun _ => fun
  | [d1, d2] => { results := [.lit (.bool true)], args := [d1, d2] }
  | _ => none }
def fnPutInt8Row : OpenClaim := { program := "ytaialjpcibjmiaa", sum := "82d1ebcdef09685503893da7fd18acf6dc74623ae90e8de3cc6d5636afdcc14a", func := "given.example/pub-saddlebag/laws.FnPutInt8", spec := "fnPutInt8", recurses := true, apart := false }
def FnPutInt8Said : Prop := fnPutInt8Row.holds Try.pinned (OpenSpec.ofChange fnPutInt8Spec)

/-- ITS FALSE NEIGHBOUR: 'it returns false'. Refute it at one input. -/
def fnPutInt8Wrong : ChangeSpec := { name := "fnPutInt8", fn := fun _ => fun
  | [d1, d2] => { results := [.lit (.bool false)], args := [d1, d2] }
  | _ => none }
def FnPutInt8WrongFalsely : Prop := fnPutInt8Row.holds Try.pinned (OpenSpec.ofChange fnPutInt8Wrong)

/- THE SECOND FORM. 'bulk': how many values and letters a reading holds, each counted each time it is reached (what is shared counts as often as it is met; a slice's spare places count too). A statement '..UptoSaid' is the law's where the arguments, and the package variables that the reading takes, are together of bulk at most 1048576: NARROWER than '..Said'. Prove '..Said' where nothing that the law and all that it calls make is longer than what came in: it says more and counts as full. Else prove '..UptoSaid'. A law counts once. -/
mutual
def uptoBulk {H : Type} : DataW H → Nat
  | .lit (.string bytes) => bytes.length + 1
  | .lit _ => 1
  | .nil => 1
  | .ptr d => uptoBulk d + 1
  | .slice elems spare => uptoBulkAll elems + uptoBulkAll spare + 1
  | .agg parts => uptoBulkAll parts + 1
  | .iface _ d => uptoBulk d + 1
  | .map entries => uptoBulkEntries entries + 1
  | .held _ => 1
def uptoBulkAll {H : Type} : List (DataW H) → Nat
  | [] => 0
  | d :: r => uptoBulk d + uptoBulkAll r
def uptoBulkEntries {H : Type} : List (Lit × DataW H) → Nat
  | [] => 0
  | x :: r => uptoBulkEntry x + uptoBulkEntries r
def uptoBulkEntry {H : Type} : Lit × DataW H → Nat
  | (.string bytes, d) => bytes.length + uptoBulk d + 1
  | (_, d) => uptoBulk d + 1
 end
def uptoSmall : (H : Type) → List (DataW H) → Bool := fun _ ds => decide (uptoBulkAll ds ≤ 1048576)
def OpenSpec.upto (s : _root_.Go.ChangeSpec) : _root_.Go.OpenSpec := { _root_.Go.OpenSpec.ofChange s with cond := some uptoSmall }

/-- 'laws.FnPutFloat64', WHERE WHAT IT READS IS OF BULK AT MOST 1048576: true; the input reads as it did. -/
def fnPutFloat64UptoRow : OpenClaim := { program := "ytaialjpcibjmiaa", sum := "82d1ebcdef09685503893da7fd18acf6dc74623ae90e8de3cc6d5636afdcc14a", func := "given.example/pub-saddlebag/laws.FnPutFloat64", spec := "fnPutFloat64", inPlace := ["math.Float64frombits", "math.Float64bits"], recurses := true, apart := false, narrowed := true }
def FnPutFloat64UptoSaid : Prop := fnPutFloat64UptoRow.holds Try.pinned (OpenSpec.upto fnPutFloat64Spec)

/-- 'laws.FnPutBinBehind', WHERE WHAT IT READS IS OF BULK AT MOST 1048576: true; the input reads as it did. -/
def fnPutBinBehindUptoRow : OpenClaim := { program := "ytaialjpcibjmiaa", sum := "82d1ebcdef09685503893da7fd18acf6dc74623ae90e8de3cc6d5636afdcc14a", func := "given.example/pub-saddlebag/laws.FnPutBinBehind", spec := "fnPutBinBehind", recurses := true, apart := false, narrowed := true }
def FnPutBinBehindUptoSaid : Prop := fnPutBinBehindUptoRow.holds Try.pinned (OpenSpec.upto fnPutBinBehindSpec)

/-- 'laws.FnPutArrayHead', WHERE WHAT IT READS IS OF BULK AT MOST 1048576: true; the input reads as it did. -/
def fnPutArrayHeadUptoRow : OpenClaim := { program := "ytaialjpcibjmiaa", sum := "82d1ebcdef09685503893da7fd18acf6dc74623ae90e8de3cc6d5636afdcc14a", func := "given.example/pub-saddlebag/laws.FnPutArrayHead", spec := "fnPutArrayHead", apart := false, narrowed := true }
def FnPutArrayHeadUptoSaid : Prop := fnPutArrayHeadUptoRow.holds Try.pinned (OpenSpec.upto fnPutArrayHeadSpec)

/-- 'laws.FnPutUint8', WHERE WHAT IT READS IS OF BULK AT MOST 1048576: true; the input reads as it did. -/
def fnPutUint8UptoRow : OpenClaim := { program := "ytaialjpcibjmiaa", sum := "82d1ebcdef09685503893da7fd18acf6dc74623ae90e8de3cc6d5636afdcc14a", func := "given.example/pub-saddlebag/laws.FnPutUint8", spec := "fnPutUint8", recurses := true, apart := false, narrowed := true }
def FnPutUint8UptoSaid : Prop := fnPutUint8UptoRow.holds Try.pinned (OpenSpec.upto fnPutUint8Spec)

/-- 'laws.FnPutInt8', WHERE WHAT IT READS IS OF BULK AT MOST 1048576: true; the input reads as it did. -/
def fnPutInt8UptoRow : OpenClaim := { program := "ytaialjpcibjmiaa", sum := "82d1ebcdef09685503893da7fd18acf6dc74623ae90e8de3cc6d5636afdcc14a", func := "given.example/pub-saddlebag/laws.FnPutInt8", spec := "fnPutInt8", recurses := true, apart := false, narrowed := true }
def FnPutInt8UptoSaid : Prop := fnPutInt8UptoRow.holds Try.pinned (OpenSpec.upto fnPutInt8Spec)

end Rows
end Go.Proofs.Ytaialjpcibjmiaa
