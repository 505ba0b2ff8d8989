/- The walk of isExactInt. No condition. -/
import Derived.Test.YtfhbpbmhafijgaaDoorNi1
import Derived.RegionTactic
import Derived.Deep.QuietTactic
namespace Go.Proofs.YtfhbpbmhafijgaaDoor
set_option linter.unusedVariables false
set_option linter.unusedSimpArgs false
open Go.RowKit

def IxTo (W : Prop) (w : World) (e : Ending) (w' : World) : Prop := ∃ t : Bool, e = .returned (.bool t) ∧ (t = true ↔ W) ∧ Ch No w w'
set_option maxRecDepth 100000 in
set_option maxHeartbeats 2000000 in
theorem isx64 (p b : Nat) (hb : b < 2 ^ 64) (w : World) (hT : TabZ w) (hR : Row w p 46 [.int .u64 b, .int .u8 5]) :
    Calls Tryd.prog 16 #[.pointer (some ⟨p, 0, none⟩)] w (IxTo (wholeB 1023 52 (b / 2 ^ 52 % 2048) (b % 2 ^ 52)) w) := by
  have c0 := hR.cell 0 _ rfl
  have c1 := hR.cell 1 _ rfl
  have hb64 : (b : Int) < 18446744073709551616 := by
    have h2 : b < 18446744073709551616 := Nat.lt_of_lt_of_le hb (by decide)
    omega
  have hE : b / 2 ^ 52 % 2048 < 2048 := Nat.mod_lt _ (by decide)
  have hr : b % 2 ^ 52 < 2 ^ 52 := Nat.mod_lt _ (Nat.two_pow_pos _)
  have e1 : bits .and .i64 ((b : Int) / 4503599627370496) 2047 = ((b / 2 ^ 52 % 2048 : Nat) : Int) := by rw [and11]; rfl
  have e2 : bits .and .u64 (b : Int) 4503599627370495 = ((b % 2 ^ 52 : Nat) : Int) := by rw [and52 _ (by omega) hb64]; rfl
  have hz := ctz_le (b % 2 ^ 52)
  have tz : Hid (∀ W, Ch No w W → Calls Tryd.prog 19 #[.int .u64 ((b % 2 ^ 52 : Nat) : Int)] W fun e w' => e = .returned (.int .i64 (Lib.ctz 64 (b % 2 ^ 52))) ∧ Ch No W w') := fun W hW => tz_calls (b % 2 ^ 52) (Nat.lt_of_lt_of_le hr (by decide)) W (hT.keep0 hW)
  generalize b / 2 ^ 52 % 2048 = E at *
  generalize b % 2 ^ 52 = r at *
  obtain ⟨zb, hzb⟩ : ∃ z : Int, (b : Int) = z := ⟨_, rfl⟩
  rw [hzb] at c0 e1 e2 hb64
  have hzb0 : 0 ≤ zb := by omega
  clear hR hT hb hzb
  obtain ⟨ze, hze⟩ : ∃ z : Int, (E : Int) = z := ⟨_, rfl⟩
  obtain ⟨zr, hzr⟩ : ∃ z : Int, (r : Int) = z := ⟨_, rfl⟩
  rw [hze] at e1
  rw [hzr] at e2 tz

  have z1 : 0 ≤ ze := by omega
  have z2 : ze < 2048 := by omega
  have z3 : 0 ≤ zr := by omega
  have z4 : zr < 4503599627370496 := by
    have : (r : Int) < ((2 ^ 52 : Nat) : Int) := Int.ofNat_lt.2 hr
    have e : ((2 ^ 52 : Nat) : Int) = 4503599627370496 := rfl
    omega
  clear hz

  by_cases h1 : E = 0 ∧ r = 0
  · obtain rfl : ze = 0 := by omega
    obtain rfl : zr = 0 := by omega
    have wB : wholeB 1023 52 E r := .inl h1
    clear hze hzr hE hr tz
    go_enter Tryd.func16, Tryd.ntmps16
    go_wp2_with (go_quiet (fail))
    go_ret
    exact ⟨true, rfl, ⟨fun _ => wB, fun _ => rfl⟩, (Ch.refl _ _).drewN _⟩
  by_cases h2 : E = 0
  · obtain rfl : ze = 0 := by omega
    have q1 : (zr == 0) = false := beq_eq_false_iff_ne.2 (by omega)
    have wB : ¬ wholeB 1023 52 E r := by unfold wholeB; omega
    clear hze hzr hE hr tz
    go_enter Tryd.func16, Tryd.ntmps16
    go_wp2_with (go_quiet (fail))
    go_ret
    exact ⟨false, rfl, ⟨fun h => absurd h Bool.false_ne_true, fun h => absurd h wB⟩, (Ch.refl _ _).drewN _⟩
  by_cases h3 : E < 1023
  · have q1 : (ze == 0) = false := beq_eq_false_iff_ne.2 (by omega)
    have q2 : ze < 1023 := by omega
    have q3 : decide (ze - 1023 < 0) = true := decide_eq_true (by omega)
    have wB : ¬ wholeB 1023 52 E r := by unfold wholeB; omega
    clear hze hzr hE hr tz
    go_enter Tryd.func16, Tryd.ntmps16
    go_wp2_with (go_quiet (fail))
    go_ret
    exact ⟨false, rfl, ⟨fun h => absurd h Bool.false_ne_true, fun h => absurd h wB⟩, (Ch.refl _ _).drewN _⟩
  by_cases h4 : E = 2047
  · obtain rfl : ze = 2047 := by omega
    have wB : ¬ wholeB 1023 52 E r := by unfold wholeB; omega
    clear hze hzr hE hr tz
    go_enter Tryd.func16, Tryd.ntmps16
    go_wp2_with (go_quiet (fail))
    go_ret
    exact ⟨false, rfl, ⟨fun h => absurd h Bool.false_ne_true, fun h => absurd h wB⟩, (Ch.refl _ _).drewN _⟩
  by_cases h5 : 1075 ≤ E
  · have q1 : (ze == 0) = false := beq_eq_false_iff_ne.2 (by omega)
    have q3 : decide (ze - 1023 < 0) = false := decide_eq_false (by omega)
    have q4 : (ze - 1023 == 1024) = false := beq_eq_false_iff_ne.2 (by omega)
    have q5 : decide (52 ≤ ze - 1023) = true := decide_eq_true (by omega)
    have wB : wholeB 1023 52 E r := .inr ⟨by omega, by omega, .inl h5⟩
    clear hze hzr hE hr tz
    go_enter Tryd.func16, Tryd.ntmps16
    go_wp2_with (go_quiet (fail))
    go_ret
    exact ⟨true, rfl, ⟨fun _ => wB, fun _ => rfl⟩, (Ch.refl _ _).drewN _⟩
  have q1 : (ze == 0) = false := beq_eq_false_iff_ne.2 (by omega)
  have q3 : decide (ze - 1023 < 0) = false := decide_eq_false (by omega)
  have q4 : (ze - 1023 == 1024) = false := beq_eq_false_iff_ne.2 (by omega)
  have q5 : decide (52 ≤ ze - 1023) = false := decide_eq_false (by omega)
  have z5 : 1023 ≤ ze := by omega
  have z6 : ze < 1075 := by omega
  have hcz := ctz_le r (1075 - E) (Nat.lt_of_lt_of_le hr (by decide)) (by omega)
  have wB : wholeB 1023 52 E r ↔ (52 : Int) - (ze - 1023) ≤ (Lib.ctz 64 r : Int) := by
    have e : ((52 : Int) - (ze - 1023) ≤ (Lib.ctz 64 r : Int)) = (1075 - E ≤ Lib.ctz 64 r) := by apply propext; omega
    rw [e, hcz]; unfold wholeB
    constructor
    · rintro (h | ⟨_, _, h | h⟩)
      · omega
      · omega
      · exact h
    · intro h; exact .inr ⟨by omega, by omega, .inr h⟩
  have cz : 0 ≤ (Lib.ctz 64 r : Int) := by omega
  generalize (Lib.ctz 64 r : Int) = cc at *
  clear hcz hze hzr hE hr h1 h2 h3 h4 h5
  go_enter Tryd.func16, Tryd.ntmps16
  go_wp2_with (first | go_quiet (fail) | (go_at_call 19; refine (tz.out _ ((Ch.refl _ _).drewN _)).mono ?_; rintro e w1 ⟨rfl, hch⟩))
  go_ret
  exact ⟨_, rfl, by rw [decide_eq_true_iff]; exact wB.symm, ((Ch.refl No w).drewN _).no_no hch⟩
set_option maxRecDepth 100000 in
set_option maxHeartbeats 2000000 in
theorem isx32 (p b : Nat) (hb : b < 2 ^ 32) (w : World) (hT : TabZ w) (hR : Row w p 46 [.int .u64 b, .int .u8 6]) :
    Calls Tryd.prog 16 #[.pointer (some ⟨p, 0, none⟩)] w (IxTo (wholeB 127 23 (b / 2 ^ 23 % 256) (b % 2 ^ 23)) w) := by
  have c0 := hR.cell 0 _ rfl
  have c1 := hR.cell 1 _ rfl
  have hb64 : (b : Int) < 18446744073709551616 := by
    have h2 : b < 18446744073709551616 := Nat.lt_of_lt_of_le hb (by decide)
    omega
  have hE : b / 2 ^ 23 % 256 < 256 := Nat.mod_lt _ (by decide)
  have hr : b % 2 ^ 23 < 2 ^ 23 := Nat.mod_lt _ (Nat.two_pow_pos _)
  have e1 : bits .and .i64 ((b : Int) / 8388608) 255 = ((b / 2 ^ 23 % 256 : Nat) : Int) := by rw [and8]; rfl
  have e2 : bits .and .u64 (b : Int) 8388607 = ((b % 2 ^ 23 : Nat) : Int) := by rw [and23 _ (by omega) hb64]; rfl
  have hz := ctz_le (b % 2 ^ 23)
  have tz : Hid (∀ W, Ch No w W → Calls Tryd.prog 19 #[.int .u64 ((b % 2 ^ 23 : Nat) : Int)] W fun e w' => e = .returned (.int .i64 (Lib.ctz 64 (b % 2 ^ 23))) ∧ Ch No W w') := fun W hW => tz_calls (b % 2 ^ 23) (Nat.lt_of_lt_of_le hr (by decide)) W (hT.keep0 hW)
  generalize b / 2 ^ 23 % 256 = E at *
  generalize b % 2 ^ 23 = r at *
  obtain ⟨zb, hzb⟩ : ∃ z : Int, (b : Int) = z := ⟨_, rfl⟩
  rw [hzb] at c0 e1 e2 hb64
  have hzb0 : 0 ≤ zb := by omega
  clear hR hT hb hzb
  obtain ⟨ze, hze⟩ : ∃ z : Int, (E : Int) = z := ⟨_, rfl⟩
  obtain ⟨zr, hzr⟩ : ∃ z : Int, (r : Int) = z := ⟨_, rfl⟩
  rw [hze] at e1
  rw [hzr] at e2 tz

  have z1 : 0 ≤ ze := by omega
  have z2 : ze < 256 := by omega
  have z3 : 0 ≤ zr := by omega
  have z4 : zr < 8388608 := by
    have : (r : Int) < ((2 ^ 23 : Nat) : Int) := Int.ofNat_lt.2 hr
    have e : ((2 ^ 23 : Nat) : Int) = 8388608 := rfl
    omega
  clear hz

  by_cases h1 : E = 0 ∧ r = 0
  · obtain rfl : ze = 0 := by omega
    obtain rfl : zr = 0 := by omega
    have wB : wholeB 127 23 E r := .inl h1
    clear hze hzr hE hr tz
    go_enter Tryd.func16, Tryd.ntmps16
    go_wp2_with (go_quiet (fail))
    go_ret
    exact ⟨true, rfl, ⟨fun _ => wB, fun _ => rfl⟩, (Ch.refl _ _).drewN _⟩
  by_cases h2 : E = 0
  · obtain rfl : ze = 0 := by omega
    have q1 : (zr == 0) = false := beq_eq_false_iff_ne.2 (by omega)
    have wB : ¬ wholeB 127 23 E r := by unfold wholeB; omega
    clear hze hzr hE hr tz
    go_enter Tryd.func16, Tryd.ntmps16
    go_wp2_with (go_quiet (fail))
    go_ret
    exact ⟨false, rfl, ⟨fun h => absurd h Bool.false_ne_true, fun h => absurd h wB⟩, (Ch.refl _ _).drewN _⟩
  by_cases h3 : E < 127
  · have q1 : (ze == 0) = false := beq_eq_false_iff_ne.2 (by omega)
    have q2 : ze < 127 := by omega
    have q3 : decide (ze - 127 < 0) = true := decide_eq_true (by omega)
    have wB : ¬ wholeB 127 23 E r := by unfold wholeB; omega
    clear hze hzr hE hr tz
    go_enter Tryd.func16, Tryd.ntmps16
    go_wp2_with (go_quiet (fail))
    go_ret
    exact ⟨false, rfl, ⟨fun h => absurd h Bool.false_ne_true, fun h => absurd h wB⟩, (Ch.refl _ _).drewN _⟩
  by_cases h4 : E = 255
  · obtain rfl : ze = 255 := by omega
    have wB : ¬ wholeB 127 23 E r := by unfold wholeB; omega
    clear hze hzr hE hr tz
    go_enter Tryd.func16, Tryd.ntmps16
    go_wp2_with (go_quiet (fail))
    go_ret
    exact ⟨false, rfl, ⟨fun h => absurd h Bool.false_ne_true, fun h => absurd h wB⟩, (Ch.refl _ _).drewN _⟩
  by_cases h5 : 150 ≤ E
  · have q1 : (ze == 0) = false := beq_eq_false_iff_ne.2 (by omega)
    have q3 : decide (ze - 127 < 0) = false := decide_eq_false (by omega)
    have q4 : (ze - 127 == 128) = false := beq_eq_false_iff_ne.2 (by omega)
    have q5 : decide (23 ≤ ze - 127) = true := decide_eq_true (by omega)
    have wB : wholeB 127 23 E r := .inr ⟨by omega, by omega, .inl h5⟩
    clear hze hzr hE hr tz
    go_enter Tryd.func16, Tryd.ntmps16
    go_wp2_with (go_quiet (fail))
    go_ret
    exact ⟨true, rfl, ⟨fun _ => wB, fun _ => rfl⟩, (Ch.refl _ _).drewN _⟩
  have q1 : (ze == 0) = false := beq_eq_false_iff_ne.2 (by omega)
  have q3 : decide (ze - 127 < 0) = false := decide_eq_false (by omega)
  have q4 : (ze - 127 == 128) = false := beq_eq_false_iff_ne.2 (by omega)
  have q5 : decide (23 ≤ ze - 127) = false := decide_eq_false (by omega)
  have z5 : 127 ≤ ze := by omega
  have z6 : ze < 150 := by omega
  have hcz := ctz_le r (150 - E) (Nat.lt_of_lt_of_le hr (by decide)) (by omega)
  have wB : wholeB 127 23 E r ↔ (23 : Int) - (ze - 127) ≤ (Lib.ctz 64 r : Int) := by
    have e : ((23 : Int) - (ze - 127) ≤ (Lib.ctz 64 r : Int)) = (150 - E ≤ Lib.ctz 64 r) := by apply propext; omega
    rw [e, hcz]; unfold wholeB
    constructor
    · rintro (h | ⟨_, _, h | h⟩)
      · omega
      · omega
      · exact h
    · intro h; exact .inr ⟨by omega, by omega, .inr h⟩
  have cz : 0 ≤ (Lib.ctz 64 r : Int) := by omega
  generalize (Lib.ctz 64 r : Int) = cc at *
  clear hcz hze hzr hE hr h1 h2 h3 h4 h5
  go_enter Tryd.func16, Tryd.ntmps16
  go_wp2_with (first | go_quiet (fail) | (go_at_call 19; refine (tz.out _ ((Ch.refl _ _).drewN _)).mono ?_; rintro e w1 ⟨rfl, hch⟩))
  go_ret
  exact ⟨_, rfl, by rw [decide_eq_true_iff]; exact wB.symm, ((Ch.refl No w).drewN _).no_no hch⟩

end Go.Proofs.YtfhbpbmhafijgaaDoor
