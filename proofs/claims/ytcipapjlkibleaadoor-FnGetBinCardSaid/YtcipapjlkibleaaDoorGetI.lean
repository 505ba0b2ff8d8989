/- The walks of MessagePack's small readers of integers. No condition. -/
import Derived.Test.YtcipapjlkibleaaDoorGetM
namespace Go.Proofs.YtcipapjlkibleaaDoor
set_option linter.unusedVariables false
set_option linter.unusedSimpArgs false
open Go.RowKit

theorem and_224 {b : Int} (h0 : 0 ≤ b) (h1 : b < 256) : (bits .and .u8 b 224 == 224) = decide (224 ≤ b) := by
  have hf : ∀ k : Fin 256, (bits .and .u8 (k.val : Int) 224 == 224) = decide (224 ≤ (k.val : Int)) := by decide +kernel
  have := hf ⟨b.toNat, by omega⟩
  rwa [show ((b.toNat : Nat) : Int) = b by omega] at this
theorem div_128 {b : Int} (h0 : 0 ≤ b) : (b / 128 == 0) = decide (b < 128) := by
  by_cases h : b < 128
  · rw [decide_eq_true h]
    exact beq_iff_eq.2 (by omega)
  · rw [decide_eq_false h]
    exact beq_eq_false_iff_ne.2 (by omega)
theorem isfixint_calls (b : Int) (w : World) (h0 : 0 ≤ b) (h1 : b < 256) : Calls Tryd.prog 43 #[.int .u8 b] w fun e w' => e = .returned (.bool (decide (b < 128))) ∧ w = w' := by
  go_enter Tryd.func43, Tryd.ntmps43
  go_wp2
  go_ret
  refine ⟨?_, rfl⟩
  exact congrArg (fun x => Ending.returned (Value.bool x)) (div_128 h0)
theorem rfixint_calls (b : Int) (w : World) (h0 : 0 ≤ b) (h1 : b < 128) : Calls Tryd.prog 44 #[.int .u8 b] w fun e w' => e = .returned (.int .u8 b) ∧ w = w' := by
  go_enter Tryd.func44, Tryd.ntmps44
  go_wp2
  go_ret
  refine ⟨?_, rfl⟩
  rfl
theorem isnfixint_calls (b : Int) (w : World) (h0 : 0 ≤ b) (h1 : b < 256) : Calls Tryd.prog 45 #[.int .u8 b] w fun e w' => e = .returned (.bool (decide (224 ≤ b))) ∧ w = w' := by
  go_enter Tryd.func45, Tryd.ntmps45
  go_wp2
  go_ret
  refine ⟨?_, rfl⟩
  exact congrArg (fun x => Ending.returned (Value.bool x)) (and_224 h0 h1)
theorem rnfixint_calls (b : Int) (w : World) (h0 : 224 ≤ b) (h1 : b < 256) : Calls Tryd.prog 46 #[.int .u8 b] w fun e w' => e = .returned (.int .i8 (b - 256)) ∧ w = w' := by
  go_enter Tryd.func46, Tryd.ntmps46
  go_wp2
  go_ret
  refine ⟨?_, rfl⟩
  exact congrArg (fun x => Ending.returned (Value.int .i8 x)) (show IntKind.i8.wrap b = b - 256 by simp [IntKind.wrap, IntKind.bits, IntKind.signed]; omega)

end Go.Proofs.YtcipapjlkibleaaDoor
