/- The walks of the laws that a number of AMQP is written as one. No condition. -/
import Derived.Test.YtckjclkpgdhcoaaDoorAmpL
namespace Go.Proofs.YtckjclkpgdhcoaaDoor
set_option linter.unusedVariables false
set_option linter.unusedSimpArgs false
open Go.RowKit


set_option maxRecDepth 100000 in
set_option maxHeartbeats 400000 in
theorem lawFnWriteFloat (N : Nat) (w : World) (h1 : (N : Int) < 4294967296) :
    Calls Tryd.prog 3 #[.int .u32 N] w fun e w' => e = .returned (.bool true) ∧ Ch No w w' := by
  obtain ⟨L5, hL5⟩ : ∃ L, L = 114 :: be4 ((5 : Nat) : Int) := ⟨_, rfl⟩
  obtain ⟨LN, hLN⟩ : ∃ L, L = 114 :: be4 N := ⟨_, rfl⟩
  have i5 := implWriteFloat 5 w (by omega)
  have iN := fun w => implWriteFloat N w h1
  have t5 := tv_114 ((5 : Nat) : Int) (by omega) (by omega)
  have tN := tv_114 N (by omega) h1
  rw [← hL5] at i5 t5
  simp only [← hLN] at iN
  rw [← hLN] at tN
  have I5 := hid i5
  have IN := hid iN
  have T5 := hid t5
  have TN := hid tN
  clear i5 iN t5 tN hL5 hLN
  go_enter Tryd.func3, Tryd.ntmps3
  go_wp2_with (go_at_call 9; refine (I5.out).mono ?_; rintro e w1 ⟨A1, c1, rfl, hr1, hc1, HC1⟩)
  go_wp2_with (go_at_call 10; refine (wrote_yes A1 none c1 0 L5 10 5 ⟨#[]⟩ [] _ hr1 hc1 (RdV.nil _ _) (by simp) T5.out).mono ?_; rintro e w2 ⟨rfl, HC2⟩)
  go_wp2_with (go_at_call 9; refine (IN.out _).mono ?_; rintro e w3 ⟨A3, c3, rfl, hr3, hc3, HC3⟩)
  go_wp2_with (go_at_call 10; refine (wrote_yes A3 none c3 0 LN 10 N ⟨#[]⟩ [] _ hr3 hc3 (RdV.nil _ _) (by simp) TN.out).mono ?_; rintro e w4 ⟨rfl, HC4⟩)
  go_ret
  exact ⟨rfl, ((HC1.no_no HC2).no_no HC3).no_no HC4⟩

set_option maxRecDepth 100000 in
set_option maxHeartbeats 400000 in
theorem lawFnWriteUlong (n : Int) (w : World) (h0 : 0 ≤ n) (h1 : n < 18446744073709551616) :
    Calls Tryd.prog 4 #[.int .u64 n] w fun e w' => e = .returned (.bool true) ∧ Ch No w w' := by
  obtain ⟨L5, hL5⟩ : ∃ L, L = encUl 5 := ⟨_, rfl⟩
  obtain ⟨LN, hLN⟩ : ∃ L, L = encUl n := ⟨_, rfl⟩
  have i5 := implWriteUlong 5 w (by omega) (by omega)
  have iN := fun w => implWriteUlong n w h0 h1
  have t5 := tv_ulong 5 (by omega) (by omega)
  have tN := tv_ulong n h0 h1
  rw [← hL5] at i5 t5
  simp only [← hLN] at iN
  rw [← hLN] at tN
  have I5 := hid i5
  have IN := hid iN
  have T5 := hid t5
  have TN := hid tN
  clear i5 iN t5 tN hL5 hLN
  go_enter Tryd.func4, Tryd.ntmps4
  go_wp2_with (go_at_call 11; refine (I5.out).mono ?_; rintro e w1 ⟨A1, c1, rfl, hr1, hc1, HC1⟩)
  go_wp2_with (go_at_call 10; refine (wrote_yes A1 none c1 0 L5 5 5 ⟨#[]⟩ [] _ hr1 hc1 (RdV.nil _ _) (by simp) T5.out).mono ?_; rintro e w2 ⟨rfl, HC2⟩)
  go_wp2_with (go_at_call 11; refine (IN.out _).mono ?_; rintro e w3 ⟨A3, c3, rfl, hr3, hc3, HC3⟩)
  go_wp2_with (go_at_call 10; refine (wrote_yes A3 none c3 0 LN 5 n ⟨#[]⟩ [] _ hr3 hc3 (RdV.nil _ _) (by simp) TN.out).mono ?_; rintro e w4 ⟨rfl, HC4⟩)
  go_ret
  exact ⟨rfl, ((HC1.no_no HC2).no_no HC3).no_no HC4⟩

end Go.Proofs.YtckjclkpgdhcoaaDoor
