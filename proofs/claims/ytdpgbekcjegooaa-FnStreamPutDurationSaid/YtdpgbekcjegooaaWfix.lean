/- The walks of the one-byte codes (for seats without the appenders). No condition. -/
import Derived.Test.YtdpgbekcjegooaaNum
import Derived.Test.YtdpgbekcjegooaaLib
namespace Go.Proofs.Ytdpgbekcjegooaa
set_option linter.unusedVariables false
set_option linter.unusedSimpArgs false
open Go.RowKit
theorem wfixint_calls (u : Int) (w : World) (h0 : 0 ≤ u) (h1 : u ≤ 127) : Calls Try.prog 55 #[.int .u8 u] w fun e w' => e = .returned (.int .u8 u) ∧ w = w' := by
  go_enter Try.func55, Try.ntmps55
  go_wp2
  go_ret
  refine ⟨?_, rfl⟩
  simp
  have hf : ∀ k : Fin 128, bits .and .u8 (k.val : Int) 127 = (k.val : Int) := by decide +kernel
  have := hf ⟨u.toNat, by omega⟩
  rwa [show ((u.toNat : Nat) : Int) = u by omega] at this
theorem wnfixint_calls (u : Int) (w : World) (h0 : -32 ≤ u) (h1 : u ≤ -1) : Calls Try.prog 57 #[.int .i8 u] w fun e w' => e = .returned (.int .u8 (u + 256)) ∧ w = w' := by
  go_enter Try.func57, Try.ntmps57
  go_wp2
  go_ret
  refine ⟨?_, rfl⟩
  simp
  have hf : ∀ k : Fin 32, bits .or .u8 (((k.val : Int) - 32) % 256) 224 = (k.val : Int) - 32 + 256 := by decide +kernel
  have := hf ⟨(u + 32).toNat, by omega⟩
  rwa [show (((u + 32).toNat : Nat) : Int) - 32 = u by omega] at this
theorem wfixarray_calls (u : Int) (w : World) (h0 : 0 ≤ u) (h1 : u ≤ 15) : Calls Try.prog 43 #[.int .u8 u] w fun e w' => e = .returned (.int .u8 (u + 144)) ∧ w = w' := by
  go_enter Try.func43, Try.ntmps43
  go_wp2
  go_ret
  refine ⟨?_, rfl⟩
  simp
  have hf : ∀ k : Fin 16, bits .or .u8 ((k.val : Int) % 16) 144 = (k.val : Int) + 144 := by decide +kernel
  have := hf ⟨u.toNat, by omega⟩
  rwa [show ((u.toNat : Nat) : Int) = u by omega] at this

end Go.Proofs.Ytdpgbekcjegooaa
