/- The walks of the reference's look at whether a value is an integer that fits. No condition. -/
import Derived.Test.YtcipapjlkibleaaDoorData
import Derived.Test.YtcipapjlkibleaaDoorReadU
import Derived.Deep.RegionHeld3
import Derived.Deep.RegionLaw
namespace Go.Proofs.YtcipapjlkibleaaDoor
set_option linter.unusedVariables false
set_option linter.unusedSimpArgs false
open Go.RowKit

def BoTo (b : Bool) (w : World) (e : Ending) (w' : World) : Prop := e = .returned (.bool b) ∧ Ch No w w'
set_option maxRecDepth 100000 in
theorem integer_2 (n : Int) (v2 v3 v4 : Value) (w : World)  : Calls Tryd.prog 27 #[.agg #[.int .i64 2, .int .u64 n, v2, v3, v4]] w (BoTo true w) := by
  have hB := Row.alloc w [.int .i64 2, .int .u64 n, v2, v3, v4] 35
  have q0 := hB.cell 0 _ rfl
  go_enter Tryd.func27, Tryd.ntmps27
  go_wp2_with fail
  go_ret
  exact ⟨rfl, (Ch.refl No w).alloc _⟩
set_option maxRecDepth 100000 in
theorem integer_3 (n : Int) (v2 v3 v4 : Value) (w : World)  : Calls Tryd.prog 27 #[.agg #[.int .i64 3, .int .u64 n, v2, v3, v4]] w (BoTo true w) := by
  have hB := Row.alloc w [.int .i64 3, .int .u64 n, v2, v3, v4] 35
  have q0 := hB.cell 0 _ rfl
  go_enter Tryd.func27, Tryd.ntmps27
  go_wp2_with fail
  go_ret
  exact ⟨rfl, (Ch.refl No w).alloc _⟩
set_option maxRecDepth 100000 in
theorem integer_o (k : Int) (n : Int) (v2 v3 v4 : Value) (w : World) (k2 : k ≠ 2) (k3 : k ≠ 3) : Calls Tryd.prog 27 #[.agg #[.int .i64 k, .int .u64 n, v2, v3, v4]] w (BoTo false w) := by
  have hB := Row.alloc w [.int .i64 k, .int .u64 n, v2, v3, v4] 35
  have q0 := hB.cell 0 _ rfl
  have e2 : (k == 2) = false := beq_eq_false_iff_ne.2 k2
  have f2 : (k != 2) = true := bne_iff_ne.2 k2
  have g2 : decide (k = 2) = false := decide_eq_false k2
  have e3 : (k == 3) = false := beq_eq_false_iff_ne.2 k3
  have f3 : (k != 3) = true := bne_iff_ne.2 k3
  have g3 : decide (k = 3) = false := decide_eq_false k3

  go_enter Tryd.func27, Tryd.ntmps27
  go_wp2_with fail
  go_ret
  exact ⟨rfl, (Ch.refl No w).alloc _⟩

set_option maxRecDepth 100000 in
set_option maxHeartbeats 1000000 in
theorem fitsInt_2 (n : Int) (v2 v3 v4 : Value) (w : World) (h0 : 0 ≤ n) (h1 : n < 18446744073709551616) : Calls Tryd.prog 15 #[.agg #[.int .i64 2, .int .u64 n, v2, v3, v4], .int .i64 64] w (BoTo true w) := by
  have hB := Row.alloc w [.int .i64 2, .int .u64 n, v2, v3, v4] 35
  have q0 := hB.cell 0 _ rfl
  have q1 := hB.cell 1 _ rfl
  have q2 := hB.cell 2 _ rfl
  have q3 := hB.cell 3 _ rfl
  have q4 := hB.cell 4 _ rfl
  have C1 : Ch No w (w.alloc (.cells #[.int .i64 2, .int .u64 n, v2, v3, v4] 35)) := (Ch.refl No w).alloc _
  obtain ⟨z, hz⟩ : ∃ z, IntKind.i64.wrap n = z := ⟨_, rfl⟩
  have hzr : -9223372036854775808 ≤ z ∧ z < 9223372036854775808 ∧ (z = n ∨ z = n - 18446744073709551616) := by rw [← hz]; simp [IntKind.wrap, IntKind.bits, IntKind.signed]; omega
  have hz2 := hzr.1
  have hz3 := hzr.2.1
  clear hzr
  go_enter Tryd.func15, Tryd.ntmps15
  go_wp2_with fail
  refine (integer_2 n v2 v3 v4 _).mono ?_
  rintro e w1 ⟨rfl, hch1⟩
  go_wp2_with fail
  go_ret
  exact ⟨by simp, C1.no_no hch1⟩
set_option maxRecDepth 100000 in
set_option maxHeartbeats 1000000 in
theorem fitsInt_3y (n : Int) (v2 v3 v4 : Value) (w : World) (h0 : 0 ≤ n) (h1 : n < 9223372036854775808) : Calls Tryd.prog 15 #[.agg #[.int .i64 3, .int .u64 n, v2, v3, v4], .int .i64 64] w (BoTo true w) := by
  have hB := Row.alloc w [.int .i64 3, .int .u64 n, v2, v3, v4] 35
  have q0 := hB.cell 0 _ rfl
  have q1 := hB.cell 1 _ rfl
  have q2 := hB.cell 2 _ rfl
  have q3 := hB.cell 3 _ rfl
  have q4 := hB.cell 4 _ rfl
  have C1 : Ch No w (w.alloc (.cells #[.int .i64 3, .int .u64 n, v2, v3, v4] 35)) := (Ch.refl No w).alloc _
  obtain ⟨z, hz⟩ : ∃ z, IntKind.i64.wrap n = z := ⟨_, rfl⟩
  have hzr : -9223372036854775808 ≤ z ∧ z < 9223372036854775808 ∧ (z = n ∨ z = n - 18446744073709551616) := by rw [← hz]; simp [IntKind.wrap, IntKind.bits, IntKind.signed]; omega
  have hz1 : z = n := by omega
  have hd : decide (z < 0) = false := decide_eq_false (by omega)
  rw [hz1] at hz hd
  clear hz1
  have hz2 := hzr.1
  have hz3 := hzr.2.1
  clear hzr
  go_enter Tryd.func15, Tryd.ntmps15
  go_wp2_with fail
  refine (integer_3 n v2 v3 v4 _).mono ?_
  rintro e w1 ⟨rfl, hch1⟩
  go_wp2_with fail
  go_ret
  exact ⟨by simp, C1.no_no hch1⟩
set_option maxRecDepth 100000 in
set_option maxHeartbeats 1000000 in
theorem fitsInt_3n (n : Int) (v2 v3 v4 : Value) (w : World) (h0 : 9223372036854775808 ≤ n) (h1 : n < 18446744073709551616) : Calls Tryd.prog 15 #[.agg #[.int .i64 3, .int .u64 n, v2, v3, v4], .int .i64 64] w (BoTo false w) := by
  have hB := Row.alloc w [.int .i64 3, .int .u64 n, v2, v3, v4] 35
  have q0 := hB.cell 0 _ rfl
  have q1 := hB.cell 1 _ rfl
  have q2 := hB.cell 2 _ rfl
  have q3 := hB.cell 3 _ rfl
  have q4 := hB.cell 4 _ rfl
  have C1 : Ch No w (w.alloc (.cells #[.int .i64 3, .int .u64 n, v2, v3, v4] 35)) := (Ch.refl No w).alloc _
  obtain ⟨z, hz⟩ : ∃ z, IntKind.i64.wrap n = z := ⟨_, rfl⟩
  have hzr : -9223372036854775808 ≤ z ∧ z < 9223372036854775808 ∧ (z = n ∨ z = n - 18446744073709551616) := by rw [← hz]; simp [IntKind.wrap, IntKind.bits, IntKind.signed]; omega
  have hd : decide (z < 0) = true := decide_eq_true (by omega)
  have hz2 := hzr.1
  have hz3 := hzr.2.1
  clear hzr
  clear hz2
  go_enter Tryd.func15, Tryd.ntmps15
  go_wp2_with fail
  go_ret
  exact ⟨rfl, C1⟩
set_option maxRecDepth 100000 in
set_option maxHeartbeats 1000000 in
theorem fitsInt_o (k : Int) (n : Int) (v2 v3 v4 : Value) (w : World) (h0 : 0 ≤ n) (h1 : n < 18446744073709551616) (k2 : k ≠ 2) (k3 : k ≠ 3) : Calls Tryd.prog 15 #[.agg #[.int .i64 k, .int .u64 n, v2, v3, v4], .int .i64 64] w (BoTo false w) := by
  have hB := Row.alloc w [.int .i64 k, .int .u64 n, v2, v3, v4] 35
  have q0 := hB.cell 0 _ rfl
  have q1 := hB.cell 1 _ rfl
  have q2 := hB.cell 2 _ rfl
  have q3 := hB.cell 3 _ rfl
  have q4 := hB.cell 4 _ rfl
  have C1 : Ch No w (w.alloc (.cells #[.int .i64 k, .int .u64 n, v2, v3, v4] 35)) := (Ch.refl No w).alloc _
  obtain ⟨z, hz⟩ : ∃ z, IntKind.i64.wrap n = z := ⟨_, rfl⟩
  have hzr : -9223372036854775808 ≤ z ∧ z < 9223372036854775808 ∧ (z = n ∨ z = n - 18446744073709551616) := by rw [← hz]; simp [IntKind.wrap, IntKind.bits, IntKind.signed]; omega
  have hz2 := hzr.1
  have hz3 := hzr.2.1
  clear hzr
  have e2 : (k == 2) = false := beq_eq_false_iff_ne.2 k2
  have f2 : (k != 2) = true := bne_iff_ne.2 k2
  have g2 : decide (k = 2) = false := decide_eq_false k2
  have e3 : (k == 3) = false := beq_eq_false_iff_ne.2 k3
  have f3 : (k != 3) = true := bne_iff_ne.2 k3
  have g3 : decide (k = 3) = false := decide_eq_false k3

  go_enter Tryd.func15, Tryd.ntmps15
  go_wp2_with fail
  refine (integer_o k n v2 v3 v4 _ k2 k3).mono ?_
  rintro e w1 ⟨rfl, hch1⟩
  go_wp2_with fail
  go_ret
  exact ⟨by simp, C1.no_no hch1⟩

set_option maxRecDepth 100000 in
set_option maxHeartbeats 1000000 in
theorem fitsUint64_2n (n : Int) (v2 v3 v4 : Value) (w : World) (h0 : 9223372036854775808 ≤ n) (h1 : n < 18446744073709551616) : Calls Tryd.prog 17 #[.agg #[.int .i64 2, .int .u64 n, v2, v3, v4], .int .i64 64] w (BoTo false w) := by
  have hB := Row.alloc w [.int .i64 2, .int .u64 n, v2, v3, v4] 35
  have q0 := hB.cell 0 _ rfl
  have q1 := hB.cell 1 _ rfl
  have q2 := hB.cell 2 _ rfl
  have q3 := hB.cell 3 _ rfl
  have q4 := hB.cell 4 _ rfl
  have C1 : Ch No w (w.alloc (.cells #[.int .i64 2, .int .u64 n, v2, v3, v4] 35)) := (Ch.refl No w).alloc _
  obtain ⟨z, hz⟩ : ∃ z, IntKind.i64.wrap n = z := ⟨_, rfl⟩
  have hzr : -9223372036854775808 ≤ z ∧ z < 9223372036854775808 ∧ (z = n ∨ z = n - 18446744073709551616) := by rw [← hz]; simp [IntKind.wrap, IntKind.bits, IntKind.signed]; omega
  have hd : decide (z < 0) = true := decide_eq_true (by omega)
  clear hzr
  have hw0 : IntKind.i64.wrap 0 = 0 := by decide
  go_enter Tryd.func17, Tryd.ntmps17
  go_wp2_with fail
  go_ret
  exact ⟨rfl, C1⟩
set_option maxRecDepth 100000 in
set_option maxHeartbeats 1000000 in
theorem fitsUint64_2 (n : Int) (v2 v3 v4 : Value) (w : World) (h0 : 0 ≤ n) (h1 : n < 9223372036854775808) : Calls Tryd.prog 17 #[.agg #[.int .i64 2, .int .u64 n, v2, v3, v4], .int .i64 64] w (BoTo true w) := by
  have hB := Row.alloc w [.int .i64 2, .int .u64 n, v2, v3, v4] 35
  have q0 := hB.cell 0 _ rfl
  have q1 := hB.cell 1 _ rfl
  have q2 := hB.cell 2 _ rfl
  have q3 := hB.cell 3 _ rfl
  have q4 := hB.cell 4 _ rfl
  have C1 : Ch No w (w.alloc (.cells #[.int .i64 2, .int .u64 n, v2, v3, v4] 35)) := (Ch.refl No w).alloc _
  obtain ⟨z, hz⟩ : ∃ z, IntKind.i64.wrap n = z := ⟨_, rfl⟩
  have hzr : -9223372036854775808 ≤ z ∧ z < 9223372036854775808 ∧ (z = n ∨ z = n - 18446744073709551616) := by rw [← hz]; simp [IntKind.wrap, IntKind.bits, IntKind.signed]; omega
  have hz1 : z = n := by omega
  have hd : decide (n < 0) = false := decide_eq_false (by omega)
  rw [hz1] at hz
  clear hz1
  clear hzr
  have hw0 : IntKind.i64.wrap 0 = 0 := by decide
  have hwn : IntKind.u64.wrap n = n := by simp [IntKind.wrap, IntKind.bits, IntKind.signed]; omega
  have HI : Hid (∀ W : World, (World.cell? W ⟨w.heap.size, 0, none⟩ = some (.int .i64 2) ∧ World.cell? W ⟨w.heap.size, 1, none⟩ = some (.int .u64 n) ∧ World.cell? W ⟨w.heap.size, 2, none⟩ = some (v2) ∧ World.cell? W ⟨w.heap.size, 3, none⟩ = some (v3) ∧ World.cell? W ⟨w.heap.size, 4, none⟩ = some (v4) ∧ Ch No w W) → Calls Tryd.prog 27 #[.agg #[.int .i64 2, .int .u64 n, v2, v3, v4]] W fun e w' => e = .returned (.bool true) ∧ (World.cell? w' ⟨w.heap.size, 0, none⟩ = some (.int .i64 2) ∧ World.cell? w' ⟨w.heap.size, 1, none⟩ = some (.int .u64 n) ∧ World.cell? w' ⟨w.heap.size, 2, none⟩ = some (v2) ∧ World.cell? w' ⟨w.heap.size, 3, none⟩ = some (v3) ∧ World.cell? w' ⟨w.heap.size, 4, none⟩ = some (v4) ∧ Ch No w w')) := fun W ⟨a0, a1, a2, a3, a4, a5⟩ =>
    (integer_2 n v2 v3 v4 W).mono fun e w' ⟨h1, h2⟩ => ⟨h1, h2.cell0 a0, h2.cell0 a1, h2.cell0 a2, h2.cell0 a3, h2.cell0 a4, a5.no_no h2⟩
  go_enter Tryd.func17, Tryd.ntmps17
  go_wp2_with fail
  go_region_held3 (fun w' => w'.cell? ⟨w.heap.size, 0, none⟩ = some (.int .i64 2) ∧ w'.cell? ⟨w.heap.size, 1, none⟩ = some (.int .u64 n) ∧ w'.cell? ⟨w.heap.size, 2, none⟩ = some (v2) ∧ w'.cell? ⟨w.heap.size, 3, none⟩ = some (v3) ∧ w'.cell? ⟨w.heap.size, 4, none⟩ = some (v4) ∧ Ch No w w') (first | (have K := (Ch.refl No (w.alloc (.cells #[.int .i64 2, .int .u64 n, v2, v3, v4] 35))).drew; exact ⟨K.cell0 q0, K.cell0 q1, K.cell0 q2, K.cell0 q3, K.cell0 q4, C1.drew⟩) | (refine ⟨?_, ?_, ?_, ?_, ?_, ?_⟩ <;> assumption))
    (first | (go_at_call 27; refine (HI.out _ ?_).mono ?_; (first | assumption | (refine ⟨?_, ?_, ?_, ?_, ?_, ?_⟩ <;> assumption)); rintro e w1 ⟨rfl, d0, d1, d2, d3, d4, K1⟩))
  all_goals
    go_wp2
    refine bodyPost_ret (v := .bool true) ?_ rfl ?_
    · (simp [results, Tryd.results17, go_sem]; done)
    · exact ⟨rfl, by first | exact K1 | assumption⟩
set_option maxRecDepth 100000 in
set_option maxHeartbeats 1000000 in
theorem fitsUint64_3 (n : Int) (v2 v3 v4 : Value) (w : World) (h0 : 0 ≤ n) (h1 : n < 18446744073709551616) : Calls Tryd.prog 17 #[.agg #[.int .i64 3, .int .u64 n, v2, v3, v4], .int .i64 64] w (BoTo true w) := by
  have hB := Row.alloc w [.int .i64 3, .int .u64 n, v2, v3, v4] 35
  have q0 := hB.cell 0 _ rfl
  have q1 := hB.cell 1 _ rfl
  have q2 := hB.cell 2 _ rfl
  have q3 := hB.cell 3 _ rfl
  have q4 := hB.cell 4 _ rfl
  have C1 : Ch No w (w.alloc (.cells #[.int .i64 3, .int .u64 n, v2, v3, v4] 35)) := (Ch.refl No w).alloc _
  obtain ⟨z, hz⟩ : ∃ z, IntKind.i64.wrap n = z := ⟨_, rfl⟩
  have hzr : -9223372036854775808 ≤ z ∧ z < 9223372036854775808 ∧ (z = n ∨ z = n - 18446744073709551616) := by rw [← hz]; simp [IntKind.wrap, IntKind.bits, IntKind.signed]; omega
  clear hzr
  have hw0 : IntKind.i64.wrap 0 = 0 := by decide
  have hwn : IntKind.u64.wrap n = n := by simp [IntKind.wrap, IntKind.bits, IntKind.signed]; omega
  have HI : Hid (∀ W : World, (World.cell? W ⟨w.heap.size, 0, none⟩ = some (.int .i64 3) ∧ World.cell? W ⟨w.heap.size, 1, none⟩ = some (.int .u64 n) ∧ World.cell? W ⟨w.heap.size, 2, none⟩ = some (v2) ∧ World.cell? W ⟨w.heap.size, 3, none⟩ = some (v3) ∧ World.cell? W ⟨w.heap.size, 4, none⟩ = some (v4) ∧ Ch No w W) → Calls Tryd.prog 27 #[.agg #[.int .i64 3, .int .u64 n, v2, v3, v4]] W fun e w' => e = .returned (.bool true) ∧ (World.cell? w' ⟨w.heap.size, 0, none⟩ = some (.int .i64 3) ∧ World.cell? w' ⟨w.heap.size, 1, none⟩ = some (.int .u64 n) ∧ World.cell? w' ⟨w.heap.size, 2, none⟩ = some (v2) ∧ World.cell? w' ⟨w.heap.size, 3, none⟩ = some (v3) ∧ World.cell? w' ⟨w.heap.size, 4, none⟩ = some (v4) ∧ Ch No w w')) := fun W ⟨a0, a1, a2, a3, a4, a5⟩ =>
    (integer_3 n v2 v3 v4 W).mono fun e w' ⟨h1, h2⟩ => ⟨h1, h2.cell0 a0, h2.cell0 a1, h2.cell0 a2, h2.cell0 a3, h2.cell0 a4, a5.no_no h2⟩
  go_enter Tryd.func17, Tryd.ntmps17
  go_wp2_with fail
  go_region_held3 (fun w' => w'.cell? ⟨w.heap.size, 0, none⟩ = some (.int .i64 3) ∧ w'.cell? ⟨w.heap.size, 1, none⟩ = some (.int .u64 n) ∧ w'.cell? ⟨w.heap.size, 2, none⟩ = some (v2) ∧ w'.cell? ⟨w.heap.size, 3, none⟩ = some (v3) ∧ w'.cell? ⟨w.heap.size, 4, none⟩ = some (v4) ∧ Ch No w w') (first | (have K := (Ch.refl No (w.alloc (.cells #[.int .i64 3, .int .u64 n, v2, v3, v4] 35))).drew; exact ⟨K.cell0 q0, K.cell0 q1, K.cell0 q2, K.cell0 q3, K.cell0 q4, C1.drew⟩) | (refine ⟨?_, ?_, ?_, ?_, ?_, ?_⟩ <;> assumption))
    (first | (go_at_call 27; refine (HI.out _ ?_).mono ?_; (first | assumption | (refine ⟨?_, ?_, ?_, ?_, ?_, ?_⟩ <;> assumption)); rintro e w1 ⟨rfl, d0, d1, d2, d3, d4, K1⟩))
  all_goals
    go_wp2
    refine bodyPost_ret (v := .bool true) ?_ rfl ?_
    · (simp [results, Tryd.results17, go_sem]; done)
    · exact ⟨rfl, by first | exact K1 | assumption⟩
set_option maxRecDepth 100000 in
set_option maxHeartbeats 1000000 in
theorem fitsUint8_2n (n : Int) (v2 v3 v4 : Value) (w : World) (h0 : 9223372036854775808 ≤ n) (h1 : n < 18446744073709551616) : Calls Tryd.prog 17 #[.agg #[.int .i64 2, .int .u64 n, v2, v3, v4], .int .i64 8] w (BoTo false w) := by
  have hB := Row.alloc w [.int .i64 2, .int .u64 n, v2, v3, v4] 35
  have q0 := hB.cell 0 _ rfl
  have q1 := hB.cell 1 _ rfl
  have q2 := hB.cell 2 _ rfl
  have q3 := hB.cell 3 _ rfl
  have q4 := hB.cell 4 _ rfl
  have C1 : Ch No w (w.alloc (.cells #[.int .i64 2, .int .u64 n, v2, v3, v4] 35)) := (Ch.refl No w).alloc _
  obtain ⟨z, hz⟩ : ∃ z, IntKind.i64.wrap n = z := ⟨_, rfl⟩
  have hzr : -9223372036854775808 ≤ z ∧ z < 9223372036854775808 ∧ (z = n ∨ z = n - 18446744073709551616) := by rw [← hz]; simp [IntKind.wrap, IntKind.bits, IntKind.signed]; omega
  have hd : decide (z < 0) = true := decide_eq_true (by omega)
  clear hzr
  have hw0 : IntKind.i64.wrap 56 = 56 := by decide
  go_enter Tryd.func17, Tryd.ntmps17
  go_wp2_with fail
  go_ret
  exact ⟨rfl, C1⟩
set_option maxRecDepth 100000 in
set_option maxHeartbeats 1000000 in
theorem fitsUint8_2 (n : Int) (v2 v3 v4 : Value) (w : World) (h0 : 0 ≤ n) (h1 : n < 9223372036854775808) : Calls Tryd.prog 17 #[.agg #[.int .i64 2, .int .u64 n, v2, v3, v4], .int .i64 8] w (BoTo (decide (n < 256)) w) := by
  have hB := Row.alloc w [.int .i64 2, .int .u64 n, v2, v3, v4] 35
  have q0 := hB.cell 0 _ rfl
  have q1 := hB.cell 1 _ rfl
  have q2 := hB.cell 2 _ rfl
  have q3 := hB.cell 3 _ rfl
  have q4 := hB.cell 4 _ rfl
  have C1 : Ch No w (w.alloc (.cells #[.int .i64 2, .int .u64 n, v2, v3, v4] 35)) := (Ch.refl No w).alloc _
  obtain ⟨z, hz⟩ : ∃ z, IntKind.i64.wrap n = z := ⟨_, rfl⟩
  have hzr : -9223372036854775808 ≤ z ∧ z < 9223372036854775808 ∧ (z = n ∨ z = n - 18446744073709551616) := by rw [← hz]; simp [IntKind.wrap, IntKind.bits, IntKind.signed]; omega
  have hz1 : z = n := by omega
  have hd : decide (n < 0) = false := decide_eq_false (by omega)
  rw [hz1] at hz
  clear hz1
  clear hzr
  have hw0 : IntKind.i64.wrap 56 = 56 := by decide
  obtain ⟨y, hy⟩ : ∃ y, IntKind.u64.wrap (n * 72057594037927936) = y := ⟨_, rfl⟩
  have hyr : 0 ≤ y ∧ y < 18446744073709551616 ∧ y / 72057594037927936 = n % 256 := by rw [← hy]; simp [IntKind.wrap, IntKind.bits, IntKind.signed]; omega
  have hy0 := hyr.1
  have hy1 := hyr.2.1
  have hy2 := hyr.2.2
  have HB : Hid ((n % 256 == n) = decide (n < 256)) := by
    show _ = _
    by_cases h : n < 256
    · rw [decide_eq_true h]; exact beq_iff_eq.2 (by omega)
    · rw [decide_eq_false h]; exact beq_eq_false_iff_ne.2 (by omega)
  clear hyr
  have hwn : IntKind.u64.wrap n = n := by simp [IntKind.wrap, IntKind.bits, IntKind.signed]; omega
  have HI : Hid (∀ W : World, (World.cell? W ⟨w.heap.size, 0, none⟩ = some (.int .i64 2) ∧ World.cell? W ⟨w.heap.size, 1, none⟩ = some (.int .u64 n) ∧ World.cell? W ⟨w.heap.size, 2, none⟩ = some (v2) ∧ World.cell? W ⟨w.heap.size, 3, none⟩ = some (v3) ∧ World.cell? W ⟨w.heap.size, 4, none⟩ = some (v4) ∧ Ch No w W) → Calls Tryd.prog 27 #[.agg #[.int .i64 2, .int .u64 n, v2, v3, v4]] W fun e w' => e = .returned (.bool true) ∧ (World.cell? w' ⟨w.heap.size, 0, none⟩ = some (.int .i64 2) ∧ World.cell? w' ⟨w.heap.size, 1, none⟩ = some (.int .u64 n) ∧ World.cell? w' ⟨w.heap.size, 2, none⟩ = some (v2) ∧ World.cell? w' ⟨w.heap.size, 3, none⟩ = some (v3) ∧ World.cell? w' ⟨w.heap.size, 4, none⟩ = some (v4) ∧ Ch No w w')) := fun W ⟨a0, a1, a2, a3, a4, a5⟩ =>
    (integer_2 n v2 v3 v4 W).mono fun e w' ⟨h1, h2⟩ => ⟨h1, h2.cell0 a0, h2.cell0 a1, h2.cell0 a2, h2.cell0 a3, h2.cell0 a4, a5.no_no h2⟩
  go_enter Tryd.func17, Tryd.ntmps17
  go_wp2_with fail
  go_region_held3 (fun w' => w'.cell? ⟨w.heap.size, 0, none⟩ = some (.int .i64 2) ∧ w'.cell? ⟨w.heap.size, 1, none⟩ = some (.int .u64 n) ∧ w'.cell? ⟨w.heap.size, 2, none⟩ = some (v2) ∧ w'.cell? ⟨w.heap.size, 3, none⟩ = some (v3) ∧ w'.cell? ⟨w.heap.size, 4, none⟩ = some (v4) ∧ Ch No w w') (first | (have K := (Ch.refl No (w.alloc (.cells #[.int .i64 2, .int .u64 n, v2, v3, v4] 35))).drew; exact ⟨K.cell0 q0, K.cell0 q1, K.cell0 q2, K.cell0 q3, K.cell0 q4, C1.drew⟩) | (refine ⟨?_, ?_, ?_, ?_, ?_, ?_⟩ <;> assumption))
    (first | (go_at_call 27; refine (HI.out _ ?_).mono ?_; (first | assumption | (refine ⟨?_, ?_, ?_, ?_, ?_, ?_⟩ <;> assumption)); rintro e w1 ⟨rfl, d0, d1, d2, d3, d4, K1⟩))
  all_goals
    go_wp2
    refine bodyPost_ret (v := .bool (decide (n < 256))) ?_ rfl ?_
    · (simp [results, Tryd.results17, go_sem, HB.out]; done)
    · exact ⟨rfl, by first | exact K1 | assumption⟩
set_option maxRecDepth 100000 in
set_option maxHeartbeats 1000000 in
theorem fitsUint8_3 (n : Int) (v2 v3 v4 : Value) (w : World) (h0 : 0 ≤ n) (h1 : n < 18446744073709551616) : Calls Tryd.prog 17 #[.agg #[.int .i64 3, .int .u64 n, v2, v3, v4], .int .i64 8] w (BoTo (decide (n < 256)) w) := by
  have hB := Row.alloc w [.int .i64 3, .int .u64 n, v2, v3, v4] 35
  have q0 := hB.cell 0 _ rfl
  have q1 := hB.cell 1 _ rfl
  have q2 := hB.cell 2 _ rfl
  have q3 := hB.cell 3 _ rfl
  have q4 := hB.cell 4 _ rfl
  have C1 : Ch No w (w.alloc (.cells #[.int .i64 3, .int .u64 n, v2, v3, v4] 35)) := (Ch.refl No w).alloc _
  obtain ⟨z, hz⟩ : ∃ z, IntKind.i64.wrap n = z := ⟨_, rfl⟩
  have hzr : -9223372036854775808 ≤ z ∧ z < 9223372036854775808 ∧ (z = n ∨ z = n - 18446744073709551616) := by rw [← hz]; simp [IntKind.wrap, IntKind.bits, IntKind.signed]; omega
  clear hzr
  have hw0 : IntKind.i64.wrap 56 = 56 := by decide
  obtain ⟨y, hy⟩ : ∃ y, IntKind.u64.wrap (n * 72057594037927936) = y := ⟨_, rfl⟩
  have hyr : 0 ≤ y ∧ y < 18446744073709551616 ∧ y / 72057594037927936 = n % 256 := by rw [← hy]; simp [IntKind.wrap, IntKind.bits, IntKind.signed]; omega
  have hy0 := hyr.1
  have hy1 := hyr.2.1
  have hy2 := hyr.2.2
  have HB : Hid ((n % 256 == n) = decide (n < 256)) := by
    show _ = _
    by_cases h : n < 256
    · rw [decide_eq_true h]; exact beq_iff_eq.2 (by omega)
    · rw [decide_eq_false h]; exact beq_eq_false_iff_ne.2 (by omega)
  clear hyr
  have hwn : IntKind.u64.wrap n = n := by simp [IntKind.wrap, IntKind.bits, IntKind.signed]; omega
  have HI : Hid (∀ W : World, (World.cell? W ⟨w.heap.size, 0, none⟩ = some (.int .i64 3) ∧ World.cell? W ⟨w.heap.size, 1, none⟩ = some (.int .u64 n) ∧ World.cell? W ⟨w.heap.size, 2, none⟩ = some (v2) ∧ World.cell? W ⟨w.heap.size, 3, none⟩ = some (v3) ∧ World.cell? W ⟨w.heap.size, 4, none⟩ = some (v4) ∧ Ch No w W) → Calls Tryd.prog 27 #[.agg #[.int .i64 3, .int .u64 n, v2, v3, v4]] W fun e w' => e = .returned (.bool true) ∧ (World.cell? w' ⟨w.heap.size, 0, none⟩ = some (.int .i64 3) ∧ World.cell? w' ⟨w.heap.size, 1, none⟩ = some (.int .u64 n) ∧ World.cell? w' ⟨w.heap.size, 2, none⟩ = some (v2) ∧ World.cell? w' ⟨w.heap.size, 3, none⟩ = some (v3) ∧ World.cell? w' ⟨w.heap.size, 4, none⟩ = some (v4) ∧ Ch No w w')) := fun W ⟨a0, a1, a2, a3, a4, a5⟩ =>
    (integer_3 n v2 v3 v4 W).mono fun e w' ⟨h1, h2⟩ => ⟨h1, h2.cell0 a0, h2.cell0 a1, h2.cell0 a2, h2.cell0 a3, h2.cell0 a4, a5.no_no h2⟩
  go_enter Tryd.func17, Tryd.ntmps17
  go_wp2_with fail
  go_region_held3 (fun w' => w'.cell? ⟨w.heap.size, 0, none⟩ = some (.int .i64 3) ∧ w'.cell? ⟨w.heap.size, 1, none⟩ = some (.int .u64 n) ∧ w'.cell? ⟨w.heap.size, 2, none⟩ = some (v2) ∧ w'.cell? ⟨w.heap.size, 3, none⟩ = some (v3) ∧ w'.cell? ⟨w.heap.size, 4, none⟩ = some (v4) ∧ Ch No w w') (first | (have K := (Ch.refl No (w.alloc (.cells #[.int .i64 3, .int .u64 n, v2, v3, v4] 35))).drew; exact ⟨K.cell0 q0, K.cell0 q1, K.cell0 q2, K.cell0 q3, K.cell0 q4, C1.drew⟩) | (refine ⟨?_, ?_, ?_, ?_, ?_, ?_⟩ <;> assumption))
    (first | (go_at_call 27; refine (HI.out _ ?_).mono ?_; (first | assumption | (refine ⟨?_, ?_, ?_, ?_, ?_, ?_⟩ <;> assumption)); rintro e w1 ⟨rfl, d0, d1, d2, d3, d4, K1⟩))
  all_goals
    go_wp2
    refine bodyPost_ret (v := .bool (decide (n < 256))) ?_ rfl ?_
    · (simp [results, Tryd.results17, go_sem, HB.out]; done)
    · exact ⟨rfl, by first | exact K1 | assumption⟩

end Go.Proofs.YtcipapjlkibleaaDoor
