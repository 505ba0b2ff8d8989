/-
  No cell of these rows narrows 'for every input' (looked for: loops, veiled, ifaces, maps, wideKeys, modest, calm, conditions, laid).
  DERIVED. THE GIVEN ROWS OF THIS SEAT. 5 by the template 'for every input the law returns true; each argument reads behind the call as it read before'; 0 by the template 'total and deterministic' (their statements: YtdpgbekcjegooaaTotals.lean).
  GIVEN WITH THE SEED: the statements are not yours to turn. If you find one false, say at which input.
  Laid BY PROGRAM, IN A SANDBOX (cutbox-rows.mjs): the forced cells as the released guide's own fill.sh prints them over the translation 9f2f1d72ec2ad053… (all of the seat's roots in one cut). By AI agents, Wed Nov 11 2026. No macro, syntax, notation, axiom, sorry.
-/
import Derived.Test.YtdpgbekcjegooaaChecked
import GoSem.Claim
import GoSem.ClaimJoined
import GoSem.ClaimMapViews
import Derived.JoinedTies
import Derived.KernelRfl
namespace Go.Proofs.Ytdpgbekcjegooaa
/- THE CELL 'sum', in the pinned program and in every row, IS THE sha256 OF THE DUMP (.gsa) THAT YtdpgbekcjegooaaProg.lean LOADS. Nothing in Lean hashes anything: it is a label: what it is worth is what the hold of that sum in a sandbox is worth. -/
noncomputable def Try.pinned : Pinned := { name := "ytdpgbekcjegooaa", sum := "9f2f1d72ec2ad053cf626501bd9ca6ee6d24556aef9d330ec2f7e174d5804e6c", checked := Try.checked }
namespace Rows
def none {H : Type} : Left H := { results := [], args := [] }

/-- 'laws.FnStreamPutFloat64': WHATEVER THE INPUT: true; the input reads as it did. -/
def fnStreamPutFloat64Spec : ChangeSpec := { name := "fnStreamPutFloat64", fn := fun _ => fun
  | [d1, d2] => { results := [.lit (.bool true)], args := [d1, d2] }
  | _ => none }
def fnStreamPutFloat64Row : OpenClaim := { program := "ytdpgbekcjegooaa", sum := "9f2f1d72ec2ad053cf626501bd9ca6ee6d24556aef9d330ec2f7e174d5804e6c", func := "given.example/pub-saddlebag/laws.FnStreamPutFloat64", spec := "fnStreamPutFloat64", inPlace := ["math.Float64frombits", "math.Float64bits"], unfollowed := true, recurses := true, apart := false }
def FnStreamPutFloat64Said : Prop := fnStreamPutFloat64Row.holds Try.pinned (OpenSpec.ofChange fnStreamPutFloat64Spec)

/-- ITS FALSE NEIGHBOUR: 'it returns false'. Refute it at one input. -/
def fnStreamPutFloat64Wrong : ChangeSpec := { name := "fnStreamPutFloat64", fn := fun _ => fun
  | [d1, d2] => { results := [.lit (.bool false)], args := [d1, d2] }
  | _ => none }
def FnStreamPutFloat64WrongFalsely : Prop := fnStreamPutFloat64Row.holds Try.pinned (OpenSpec.ofChange fnStreamPutFloat64Wrong)

/-- 'laws.FnStreamPutArrayHead': WHATEVER THE INPUT: true; the input reads as it did. -/
def fnStreamPutArrayHeadSpec : ChangeSpec := { name := "fnStreamPutArrayHead", fn := fun _ => fun
  | [d1, d2] => { results := [.lit (.bool true)], args := [d1, d2] }
  | _ => none }
def fnStreamPutArrayHeadRow : OpenClaim := { program := "ytdpgbekcjegooaa", sum := "9f2f1d72ec2ad053cf626501bd9ca6ee6d24556aef9d330ec2f7e174d5804e6c", func := "given.example/pub-saddlebag/laws.FnStreamPutArrayHead", spec := "fnStreamPutArrayHead", unfollowed := true, recurses := true, apart := false }
def FnStreamPutArrayHeadSaid : Prop := fnStreamPutArrayHeadRow.holds Try.pinned (OpenSpec.ofChange fnStreamPutArrayHeadSpec)

/-- ITS FALSE NEIGHBOUR: 'it returns false'. Refute it at one input. -/
def fnStreamPutArrayHeadWrong : ChangeSpec := { name := "fnStreamPutArrayHead", fn := fun _ => fun
  | [d1, d2] => { results := [.lit (.bool false)], args := [d1, d2] }
  | _ => none }
def FnStreamPutArrayHeadWrongFalsely : Prop := fnStreamPutArrayHeadRow.holds Try.pinned (OpenSpec.ofChange fnStreamPutArrayHeadWrong)

/-- 'laws.FnStreamPutUint8': WHATEVER THE INPUT: true; the input reads as it did. -/
def fnStreamPutUint8Spec : ChangeSpec := { name := "fnStreamPutUint8", fn := fun _ => fun
  | [d1, d2] => { results := [.lit (.bool true)], args := [d1, d2] }
  | _ => none }
def fnStreamPutUint8Row : OpenClaim := { program := "ytdpgbekcjegooaa", sum := "9f2f1d72ec2ad053cf626501bd9ca6ee6d24556aef9d330ec2f7e174d5804e6c", func := "given.example/pub-saddlebag/laws.FnStreamPutUint8", spec := "fnStreamPutUint8", unfollowed := true, recurses := true, apart := false }
def FnStreamPutUint8Said : Prop := fnStreamPutUint8Row.holds Try.pinned (OpenSpec.ofChange fnStreamPutUint8Spec)

/-- ITS FALSE NEIGHBOUR: 'it returns false'. Refute it at one input. -/
def fnStreamPutUint8Wrong : ChangeSpec := { name := "fnStreamPutUint8", fn := fun _ => fun
  | [d1, d2] => { results := [.lit (.bool false)], args := [d1, d2] }
  | _ => none }
def FnStreamPutUint8WrongFalsely : Prop := fnStreamPutUint8Row.holds Try.pinned (OpenSpec.ofChange fnStreamPutUint8Wrong)

/-- 'laws.FnStreamPutInt8': WHATEVER THE INPUT: true; the input reads as it did. -/
def fnStreamPutInt8Spec : ChangeSpec := { name := "fnStreamPutInt8", fn := fun _ => fun
  | [d1, d2] => { results := [.lit (.bool true)], args := [d1, d2] }
  | _ => none }
def fnStreamPutInt8Row : OpenClaim := { program := "ytdpgbekcjegooaa", sum := "9f2f1d72ec2ad053cf626501bd9ca6ee6d24556aef9d330ec2f7e174d5804e6c", func := "given.example/pub-saddlebag/laws.FnStreamPutInt8", spec := "fnStreamPutInt8", unfollowed := true, recurses := true, apart := false }
def FnStreamPutInt8Said : Prop := fnStreamPutInt8Row.holds Try.pinned (OpenSpec.ofChange fnStreamPutInt8Spec)

/-- ITS FALSE NEIGHBOUR: 'it returns false'. Refute it at one input. -/
def fnStreamPutInt8Wrong : ChangeSpec := { name := "fnStreamPutInt8", fn := fun _ => fun
  | [d1, d2] => { results := [.lit (.bool false)], args := [d1, d2] }
  | _ => none }
def FnStreamPutInt8WrongFalsely : Prop := fnStreamPutInt8Row.holds Try.pinned (OpenSpec.ofChange fnStreamPutInt8Wrong)

/-- 'laws.FnStreamPutDuration': WHATEVER THE INPUT: true; the input reads as it did. -/
def fnStreamPutDurationSpec : ChangeSpec := { name := "fnStreamPutDuration", fn := fun _ => fun
  | [d1, d2] => { results := [.lit (.bool true)], args := [d1, d2] }
  | _ => none }
def fnStreamPutDurationRow : OpenClaim := { program := "ytdpgbekcjegooaa", sum := "9f2f1d72ec2ad053cf626501bd9ca6ee6d24556aef9d330ec2f7e174d5804e6c", func := "given.example/pub-saddlebag/laws.FnStreamPutDuration", spec := "fnStreamPutDuration", unfollowed := true, recurses := true, apart := false }
def FnStreamPutDurationSaid : Prop := fnStreamPutDurationRow.holds Try.pinned (OpenSpec.ofChange fnStreamPutDurationSpec)

/-- ITS FALSE NEIGHBOUR: 'it returns false'. Refute it at one input. -/
def fnStreamPutDurationWrong : ChangeSpec := { name := "fnStreamPutDuration", fn := fun _ => fun
  | [d1, d2] => { results := [.lit (.bool false)], args := [d1, d2] }
  | _ => none }
def FnStreamPutDurationWrongFalsely : Prop := fnStreamPutDurationRow.holds Try.pinned (OpenSpec.ofChange fnStreamPutDurationWrong)

/- THE SECOND FORM. 'bulk': how many values and letters a reading holds, each counted each time it is reached (what is shared counts as often as it is met; a slice's spare places count too). A statement '..UptoSaid' is the law's where the arguments, and the package variables that the reading takes, are together of bulk at most 1048576: NARROWER than '..Said'. Prove '..Said' where nothing that the law and all that it calls make is longer than what came in: it says more and counts as full. Else prove '..UptoSaid'. A law counts once. -/
mutual
def uptoBulk {H : Type} : DataW H → Nat
  | .lit (.string bytes) => bytes.length + 1
  | .lit _ => 1
  | .nil => 1
  | .ptr d => uptoBulk d + 1
  | .slice elems spare => uptoBulkAll elems + uptoBulkAll spare + 1
  | .agg parts => uptoBulkAll parts + 1
  | .iface _ d => uptoBulk d + 1
  | .map entries => uptoBulkEntries entries + 1
  | .held _ => 1
def uptoBulkAll {H : Type} : List (DataW H) → Nat
  | [] => 0
  | d :: r => uptoBulk d + uptoBulkAll r
def uptoBulkEntries {H : Type} : List (Lit × DataW H) → Nat
  | [] => 0
  | x :: r => uptoBulkEntry x + uptoBulkEntries r
def uptoBulkEntry {H : Type} : Lit × DataW H → Nat
  | (.string bytes, d) => bytes.length + uptoBulk d + 1
  | (_, d) => uptoBulk d + 1
 end
def uptoSmall : (H : Type) → List (DataW H) → Bool := fun _ ds => decide (uptoBulkAll ds ≤ 1048576)
def OpenSpec.upto (s : _root_.Go.ChangeSpec) : _root_.Go.OpenSpec := { _root_.Go.OpenSpec.ofChange s with cond := some uptoSmall }

/-- 'laws.FnStreamPutFloat64', WHERE WHAT IT READS IS OF BULK AT MOST 1048576: true; the input reads as it did. -/
def fnStreamPutFloat64UptoRow : OpenClaim := { program := "ytdpgbekcjegooaa", sum := "9f2f1d72ec2ad053cf626501bd9ca6ee6d24556aef9d330ec2f7e174d5804e6c", func := "given.example/pub-saddlebag/laws.FnStreamPutFloat64", spec := "fnStreamPutFloat64", inPlace := ["math.Float64frombits", "math.Float64bits"], unfollowed := true, recurses := true, apart := false, narrowed := true }
def FnStreamPutFloat64UptoSaid : Prop := fnStreamPutFloat64UptoRow.holds Try.pinned (OpenSpec.upto fnStreamPutFloat64Spec)

/-- 'laws.FnStreamPutArrayHead', WHERE WHAT IT READS IS OF BULK AT MOST 1048576: true; the input reads as it did. -/
def fnStreamPutArrayHeadUptoRow : OpenClaim := { program := "ytdpgbekcjegooaa", sum := "9f2f1d72ec2ad053cf626501bd9ca6ee6d24556aef9d330ec2f7e174d5804e6c", func := "given.example/pub-saddlebag/laws.FnStreamPutArrayHead", spec := "fnStreamPutArrayHead", unfollowed := true, recurses := true, apart := false, narrowed := true }
def FnStreamPutArrayHeadUptoSaid : Prop := fnStreamPutArrayHeadUptoRow.holds Try.pinned (OpenSpec.upto fnStreamPutArrayHeadSpec)

/-- 'laws.FnStreamPutUint8', WHERE WHAT IT READS IS OF BULK AT MOST 1048576: true; the input reads as it did. -/
def fnStreamPutUint8UptoRow : OpenClaim := { program := "ytdpgbekcjegooaa", sum := "9f2f1d72ec2ad053cf626501bd9ca6ee6d24556aef9d330ec2f7e174d5804e6c", func := "given.example/pub-saddlebag/laws.FnStreamPutUint8", spec := "fnStreamPutUint8", unfollowed := true, recurses := true, apart := false, narrowed := true }
def FnStreamPutUint8UptoSaid : Prop := fnStreamPutUint8UptoRow.holds Try.pinned (OpenSpec.upto fnStreamPutUint8Spec)

/-- 'laws.FnStreamPutInt8', WHERE WHAT IT READS IS OF BULK AT MOST 1048576: true; the input reads as it did. -/
def fnStreamPutInt8UptoRow : OpenClaim := { program := "ytdpgbekcjegooaa", sum := "9f2f1d72ec2ad053cf626501bd9ca6ee6d24556aef9d330ec2f7e174d5804e6c", func := "given.example/pub-saddlebag/laws.FnStreamPutInt8", spec := "fnStreamPutInt8", unfollowed := true, recurses := true, apart := false, narrowed := true }
def FnStreamPutInt8UptoSaid : Prop := fnStreamPutInt8UptoRow.holds Try.pinned (OpenSpec.upto fnStreamPutInt8Spec)

/-- 'laws.FnStreamPutDuration', WHERE WHAT IT READS IS OF BULK AT MOST 1048576: true; the input reads as it did. -/
def fnStreamPutDurationUptoRow : OpenClaim := { program := "ytdpgbekcjegooaa", sum := "9f2f1d72ec2ad053cf626501bd9ca6ee6d24556aef9d330ec2f7e174d5804e6c", func := "given.example/pub-saddlebag/laws.FnStreamPutDuration", spec := "fnStreamPutDuration", unfollowed := true, recurses := true, apart := false, narrowed := true }
def FnStreamPutDurationUptoSaid : Prop := fnStreamPutDurationUptoRow.holds Try.pinned (OpenSpec.upto fnStreamPutDurationSpec)

end Rows
end Go.Proofs.Ytdpgbekcjegooaa
