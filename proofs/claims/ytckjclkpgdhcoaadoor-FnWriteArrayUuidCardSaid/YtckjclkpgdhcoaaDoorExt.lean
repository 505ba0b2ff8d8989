/- What the library's functions without a Go body come to that turn floats into their bits and back. No condition. -/
import Derived.Test.YtckjclkpgdhcoaaDoorLib
namespace Go.Proofs.YtckjclkpgdhcoaaDoor
set_option linter.unusedVariables false
set_option linter.unusedSimpArgs false
open Go.RowKit
theorem float32frombits_run (n : Int) : ∀ W : World, (callFunc 20 #[.int .u32 n]).run Tryd.prog W = .ok (.value (.float .f32 n.toNat)) W := fun W => by
  rw [run_callFunc_extern Tryd.func20 (by kernel_rfl) (by kernel_rfl) (by kernel_rfl) (e := Extern.MathFloatBits.float32frombits) (by kernel_rfl)]
  rfl
theorem float32bits_run (n : Nat) : ∀ W : World, (callFunc 44 #[.float .f32 n]).run Tryd.prog W = .ok (.value (.int .u32 n)) W := fun W => by
  rw [run_callFunc_extern Tryd.func44 (by kernel_rfl) (by kernel_rfl) (by kernel_rfl) (e := Extern.MathFloatBits.float32bits) (by kernel_rfl)]
  rfl

end Go.Proofs.YtckjclkpgdhcoaaDoor
