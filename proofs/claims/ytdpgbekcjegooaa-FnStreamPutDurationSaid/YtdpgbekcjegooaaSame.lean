/- The walk of the reference's comparison of two values of MessagePack without parts. No condition. -/
import Derived.Test.YtdpgbekcjegooaaTakeP
namespace Go.Proofs.Ytdpgbekcjegooaa
set_option linter.unusedVariables false
set_option linter.unusedSimpArgs false
open Go.RowKit

set_option maxRecDepth 100000 in
set_option maxHeartbeats 2000000 in
theorem same_plain (k n x : Int) (s : ByteArray) (w : World) (hk : (k == 2) = false) :
    Calls Try.prog 21 #[pk k n s x, pk k n s x] w fun e w' => e = .returned (.bool true) ∧ Ch No w w' := by
  unfold pk
  go_enter Try.func21, Try.ntmps21
  go_wp2
  refine wp_loop_rounds 1 ?_
  rw [rounds_succ]
  go_wp2
  go_ret
  exact ⟨rfl, by repeat (first | exact Ch.refl _ _ | apply Ch.alloc | apply Ch.drew)⟩
set_option maxRecDepth 100000 in
set_option maxHeartbeats 2000000 in
theorem same_ints (n x : Int) (s : ByteArray) (w : World) (h0 : 0 ≤ n) (h1 : n < 9223372036854775808) :
    Calls Try.prog 21 #[pk 2 n s x, pk 3 n s x] w fun e w' => e = .returned (.bool true) ∧ Ch No w w' := by
  unfold pk
  go_enter Try.func21, Try.ntmps21
  go_wp2
  refine wp_loop_rounds 1 ?_
  rw [rounds_succ]
  go_wp2
  go_ret
  exact ⟨rfl, by repeat (first | exact Ch.refl _ _ | apply Ch.alloc | apply Ch.drew)⟩
set_option maxRecDepth 100000 in
set_option maxHeartbeats 2000000 in
theorem same_neg (n x : Int) (s : ByteArray) (w : World) (h0 : decide (0 ≤ wrap64 n) = false) :
    Calls Try.prog 21 #[pk 2 n s x, pk 2 n s x] w fun e w' => e = .returned (.bool true) ∧ Ch No w w' := by
  unfold pk
  go_enter Try.func21, Try.ntmps21
  go_wp2
  refine wp_loop_rounds 1 ?_
  rw [rounds_succ]
  go_wp2
  go_ret
  exact ⟨rfl, by repeat (first | exact Ch.refl _ _ | apply Ch.alloc | apply Ch.drew)⟩

end Go.Proofs.Ytdpgbekcjegooaa
