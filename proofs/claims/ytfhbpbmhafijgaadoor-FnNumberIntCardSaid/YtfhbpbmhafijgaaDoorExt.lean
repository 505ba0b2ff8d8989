/- What the library's functions without a Go body come to that turn floats into their bits and back. No condition. -/
import Derived.Test.YtfhbpbmhafijgaaDoorLib
namespace Go.Proofs.YtfhbpbmhafijgaaDoor
set_option linter.unusedVariables false
set_option linter.unusedSimpArgs false
open Go.RowKit
theorem float64frombits_run (n : Int) : ∀ W : World, (callFunc 11 #[.int .u64 n]).run Tryd.prog W = .ok (.value (.float .f64 n.toNat)) W := fun W => by
  rw [run_callFunc_extern Tryd.func11 (by kernel_rfl) (by kernel_rfl) (by kernel_rfl) (e := Extern.MathFloatBits.float64frombits) (by kernel_rfl)]
  rfl
theorem float64bits_run (n : Nat) : ∀ W : World, (callFunc 18 #[.float .f64 n]).run Tryd.prog W = .ok (.value (.int .u64 n)) W := fun W => by
  rw [run_callFunc_extern Tryd.func18 (by kernel_rfl) (by kernel_rfl) (by kernel_rfl) (e := Extern.MathFloatBits.float64bits) (by kernel_rfl)]
  rfl
theorem float32frombits_run (n : Int) : ∀ W : World, (callFunc 10 #[.int .u32 n]).run Tryd.prog W = .ok (.value (.float .f32 n.toNat)) W := fun W => by
  rw [run_callFunc_extern Tryd.func10 (by kernel_rfl) (by kernel_rfl) (by kernel_rfl) (e := Extern.MathFloatBits.float32frombits) (by kernel_rfl)]
  rfl
theorem float32bits_run (n : Nat) : ∀ W : World, (callFunc 17 #[.float .f32 n]).run Tryd.prog W = .ok (.value (.int .u32 n)) W := fun W => by
  rw [run_callFunc_extern Tryd.func17 (by kernel_rfl) (by kernel_rfl) (by kernel_rfl) (e := Extern.MathFloatBits.float32bits) (by kernel_rfl)]
  rfl

end Go.Proofs.YtfhbpbmhafijgaaDoor
