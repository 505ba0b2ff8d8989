/- The walks of the reference's look at whether a value that is no integer fits as one. No condition. -/
import Derived.Test.YtcipapjlkibleaaDoorFits
import Derived.Deep.RegionHeld3
import Derived.Deep.RegionLaw
namespace Go.Proofs.YtcipapjlkibleaaDoor
set_option linter.unusedVariables false
set_option linter.unusedSimpArgs false
open Go.RowKit


set_option maxRecDepth 100000 in
set_option maxHeartbeats 1000000 in
theorem fitsUint64_o (k : Int) (n : Int) (v2 v3 v4 : Value) (w : World) (h0 : 0 ≤ n) (h1 : n < 18446744073709551616) (k2 : k ≠ 2) (k3 : k ≠ 3) : Calls Tryd.prog 17 #[.agg #[.int .i64 k, .int .u64 n, v2, v3, v4], .int .i64 64] w (BoTo false w) := by
  have hB := Row.alloc w [.int .i64 k, .int .u64 n, v2, v3, v4] 35
  have q0 := hB.cell 0 _ rfl
  have q1 := hB.cell 1 _ rfl
  have q2 := hB.cell 2 _ rfl
  have q3 := hB.cell 3 _ rfl
  have q4 := hB.cell 4 _ rfl
  have C1 : Ch No w (w.alloc (.cells #[.int .i64 k, .int .u64 n, v2, v3, v4] 35)) := (Ch.refl No w).alloc _
  obtain ⟨z, hz⟩ : ∃ z, IntKind.i64.wrap n = z := ⟨_, rfl⟩
  have hzr : -9223372036854775808 ≤ z ∧ z < 9223372036854775808 ∧ (z = n ∨ z = n - 18446744073709551616) := by rw [← hz]; simp [IntKind.wrap, IntKind.bits, IntKind.signed]; omega
  clear hzr
  have e2 : (k == 2) = false := beq_eq_false_iff_ne.2 k2
  have f2 : (k != 2) = true := bne_iff_ne.2 k2
  have g2 : decide (k = 2) = false := decide_eq_false k2
  have e3 : (k == 3) = false := beq_eq_false_iff_ne.2 k3
  have f3 : (k != 3) = true := bne_iff_ne.2 k3
  have g3 : decide (k = 3) = false := decide_eq_false k3

  have hw0 : IntKind.i64.wrap 0 = 0 := by decide
  have hwn : IntKind.u64.wrap n = n := by simp [IntKind.wrap, IntKind.bits, IntKind.signed]; omega
  have HI : Hid (∀ W : World, (World.cell? W ⟨w.heap.size, 0, none⟩ = some (.int .i64 k) ∧ World.cell? W ⟨w.heap.size, 1, none⟩ = some (.int .u64 n) ∧ World.cell? W ⟨w.heap.size, 2, none⟩ = some (v2) ∧ World.cell? W ⟨w.heap.size, 3, none⟩ = some (v3) ∧ World.cell? W ⟨w.heap.size, 4, none⟩ = some (v4) ∧ Ch No w W) → Calls Tryd.prog 27 #[.agg #[.int .i64 k, .int .u64 n, v2, v3, v4]] W fun e w' => e = .returned (.bool false) ∧ (World.cell? w' ⟨w.heap.size, 0, none⟩ = some (.int .i64 k) ∧ World.cell? w' ⟨w.heap.size, 1, none⟩ = some (.int .u64 n) ∧ World.cell? w' ⟨w.heap.size, 2, none⟩ = some (v2) ∧ World.cell? w' ⟨w.heap.size, 3, none⟩ = some (v3) ∧ World.cell? w' ⟨w.heap.size, 4, none⟩ = some (v4) ∧ Ch No w w')) := fun W ⟨a0, a1, a2, a3, a4, a5⟩ =>
    (integer_o k n v2 v3 v4 W k2 k3).mono fun e w' ⟨h1, h2⟩ => ⟨h1, h2.cell0 a0, h2.cell0 a1, h2.cell0 a2, h2.cell0 a3, h2.cell0 a4, a5.no_no h2⟩
  go_enter Tryd.func17, Tryd.ntmps17
  go_wp2_with fail
  refine wp_region_any (by kernel_rfl) ?_
  try (change wpAny _ _ _ _ _ _ _ (World.drew _))
  have K0 := (Ch.refl No (w.alloc (.cells #[.int .i64 k, .int .u64 n, v2, v3, v4] 35))).drew
  have r0 := K0.cell0 q0
  have r1 := K0.cell0 q1
  have r2 := K0.cell0 q2
  have r3 := K0.cell0 q3
  have r4 := K0.cell0 q4
  refine wpAny_ready (rs := [0]) (by kernel_rfl) (by simp) ?_
  refine AllReady.cons rfl (fun K hK => ?_) AllReady.nil
  go_simp
  refine hK _ _ ?_
  clear hK K
  try simp only [Act.put, List.setIfInBounds_toArray, List.set_cons_zero, List.set_cons_succ]
  refine wpAny_ready (rs := [1]) (by kernel_rfl) (by simp) ?_
  refine AllReady.cons rfl (fun K hK => ?_) AllReady.nil
  go_simp
  go_at_call 27
  refine (integer_o k n v2 v3 v4 _ k2 k3).mono ?_
  rintro e w1 ⟨rfl, hch1⟩
  try go_simp
  refine hK _ _ ?_
  clear hK K
  try simp only [Act.put, List.setIfInBounds_toArray, List.set_cons_zero, List.set_cons_succ]
  refine wpAny_ready (rs := [2]) (by kernel_rfl) (by simp) ?_
  refine AllReady.cons rfl (fun K hK => ?_) AllReady.nil
  go_simp
  refine hK _ _ ?_
  clear hK K
  try simp only [Act.put, List.setIfInBounds_toArray, List.set_cons_zero, List.set_cons_succ]
  refine wpAny_take (i := 3) (v := undef) rfl (by kernel_rfl) (by kernel_rfl) (by kernel_rfl) (fun _ _ _ h => h) (Or.inr ⟨by kernel_rfl, rfl⟩) ?_
  try simp only [Act.put, List.setIfInBounds_toArray, List.set_cons_zero, List.set_cons_succ]
  refine wpAny_take (i := 4) (v := undef) rfl (by kernel_rfl) (by kernel_rfl) (by kernel_rfl) (fun _ _ _ h => h) (Or.inr ⟨by kernel_rfl, rfl⟩) ?_
  try simp only [Act.put, List.setIfInBounds_toArray, List.set_cons_zero, List.set_cons_succ]
  refine wpAny_take (i := 5) (v := undef) rfl (by kernel_rfl) (by kernel_rfl) (by kernel_rfl) (fun _ _ _ h => h) (Or.inr ⟨by kernel_rfl, rfl⟩) ?_
  try simp only [Act.put, List.setIfInBounds_toArray, List.set_cons_zero, List.set_cons_succ]
  refine wpAny_take (i := 6) (v := undef) rfl (by kernel_rfl) (by kernel_rfl) (by kernel_rfl) (fun _ _ _ h => h) (Or.inr ⟨by kernel_rfl, rfl⟩) ?_
  try simp only [Act.put, List.setIfInBounds_toArray, List.set_cons_zero, List.set_cons_succ]
  refine wpAny_take (i := 7) (v := undef) rfl (by kernel_rfl) (by kernel_rfl) (by kernel_rfl) (fun _ _ _ h => h) (Or.inr ⟨by kernel_rfl, rfl⟩) ?_
  try simp only [Act.put, List.setIfInBounds_toArray, List.set_cons_zero, List.set_cons_succ]
  refine wpAny_take (i := 8) (v := undef) rfl (by kernel_rfl) (by kernel_rfl) (by kernel_rfl) (fun _ _ _ h => h) (Or.inr ⟨by kernel_rfl, rfl⟩) ?_
  try simp only [Act.put, List.setIfInBounds_toArray, List.set_cons_zero, List.set_cons_succ]
  refine wpAny_take (i := 9) (v := undef) rfl (by kernel_rfl) (by kernel_rfl) (by kernel_rfl) (fun _ _ _ h => h) (Or.inr ⟨by kernel_rfl, rfl⟩) ?_
  try simp only [Act.put, List.setIfInBounds_toArray, List.set_cons_zero, List.set_cons_succ]
  refine wpAny_take (i := 10) (v := undef) rfl (by kernel_rfl) (by kernel_rfl) (by kernel_rfl) (fun _ _ _ h => h) (Or.inr ⟨by kernel_rfl, rfl⟩) ?_
  try simp only [Act.put, List.setIfInBounds_toArray, List.set_cons_zero, List.set_cons_succ]
  refine wpAny_take (i := 11) (v := undef) rfl (by kernel_rfl) (by kernel_rfl) (by kernel_rfl) (fun _ _ _ h => h) (Or.inr ⟨by kernel_rfl, rfl⟩) ?_
  try simp only [Act.put, List.setIfInBounds_toArray, List.set_cons_zero, List.set_cons_succ]
  refine wpAny_take (i := 12) (v := undef) rfl (by kernel_rfl) (by kernel_rfl) (by kernel_rfl) (fun _ _ _ h => h) (Or.inr ⟨by kernel_rfl, rfl⟩) ?_
  try simp only [Act.put, List.setIfInBounds_toArray, List.set_cons_zero, List.set_cons_succ]
  refine wpAny_take (i := 13) (v := undef) rfl (by kernel_rfl) (by kernel_rfl) (by kernel_rfl) (fun _ _ _ h => h) (Or.inr ⟨by kernel_rfl, rfl⟩) ?_
  try simp only [Act.put, List.setIfInBounds_toArray, List.set_cons_zero, List.set_cons_succ]
  refine wpAny_ready (rs := [14]) (by kernel_rfl) (by simp) ?_
  refine AllReady.cons rfl (fun K hK => ?_) AllReady.nil
  go_simp
  refine hK _ _ ?_
  clear hK K
  try simp only [Act.put, List.setIfInBounds_toArray, List.set_cons_zero, List.set_cons_succ]
  refine wpAny_ready (rs := [15]) (by kernel_rfl) (by simp) ?_
  refine AllReady.cons rfl (fun K hK => ?_) AllReady.nil
  go_simp
  refine hK _ _ ?_
  clear hK K
  try simp only [Act.put, List.setIfInBounds_toArray, List.set_cons_zero, List.set_cons_succ]
  refine wpAny_done (by kernel_rfl) ?_ _
  go_wp2
  refine bodyPost_ret (v := .bool false) ?_ rfl ?_
  · (simp [results, Tryd.results17, go_sem]; done)
  · exact ⟨rfl, C1.drew.no_no hch1⟩
set_option maxRecDepth 100000 in
set_option maxHeartbeats 1000000 in
theorem fitsUint8_o (k : Int) (n : Int) (v2 v3 v4 : Value) (w : World) (h0 : 0 ≤ n) (h1 : n < 18446744073709551616) (k2 : k ≠ 2) (k3 : k ≠ 3) : Calls Tryd.prog 17 #[.agg #[.int .i64 k, .int .u64 n, v2, v3, v4], .int .i64 8] w (BoTo false w) := by
  have hB := Row.alloc w [.int .i64 k, .int .u64 n, v2, v3, v4] 35
  have q0 := hB.cell 0 _ rfl
  have q1 := hB.cell 1 _ rfl
  have q2 := hB.cell 2 _ rfl
  have q3 := hB.cell 3 _ rfl
  have q4 := hB.cell 4 _ rfl
  have C1 : Ch No w (w.alloc (.cells #[.int .i64 k, .int .u64 n, v2, v3, v4] 35)) := (Ch.refl No w).alloc _
  obtain ⟨z, hz⟩ : ∃ z, IntKind.i64.wrap n = z := ⟨_, rfl⟩
  have hzr : -9223372036854775808 ≤ z ∧ z < 9223372036854775808 ∧ (z = n ∨ z = n - 18446744073709551616) := by rw [← hz]; simp [IntKind.wrap, IntKind.bits, IntKind.signed]; omega
  clear hzr
  have e2 : (k == 2) = false := beq_eq_false_iff_ne.2 k2
  have f2 : (k != 2) = true := bne_iff_ne.2 k2
  have g2 : decide (k = 2) = false := decide_eq_false k2
  have e3 : (k == 3) = false := beq_eq_false_iff_ne.2 k3
  have f3 : (k != 3) = true := bne_iff_ne.2 k3
  have g3 : decide (k = 3) = false := decide_eq_false k3

  have hw0 : IntKind.i64.wrap 56 = 56 := by decide
  have hwn : IntKind.u64.wrap n = n := by simp [IntKind.wrap, IntKind.bits, IntKind.signed]; omega
  have HI : Hid (∀ W : World, (World.cell? W ⟨w.heap.size, 0, none⟩ = some (.int .i64 k) ∧ World.cell? W ⟨w.heap.size, 1, none⟩ = some (.int .u64 n) ∧ World.cell? W ⟨w.heap.size, 2, none⟩ = some (v2) ∧ World.cell? W ⟨w.heap.size, 3, none⟩ = some (v3) ∧ World.cell? W ⟨w.heap.size, 4, none⟩ = some (v4) ∧ Ch No w W) → Calls Tryd.prog 27 #[.agg #[.int .i64 k, .int .u64 n, v2, v3, v4]] W fun e w' => e = .returned (.bool false) ∧ (World.cell? w' ⟨w.heap.size, 0, none⟩ = some (.int .i64 k) ∧ World.cell? w' ⟨w.heap.size, 1, none⟩ = some (.int .u64 n) ∧ World.cell? w' ⟨w.heap.size, 2, none⟩ = some (v2) ∧ World.cell? w' ⟨w.heap.size, 3, none⟩ = some (v3) ∧ World.cell? w' ⟨w.heap.size, 4, none⟩ = some (v4) ∧ Ch No w w')) := fun W ⟨a0, a1, a2, a3, a4, a5⟩ =>
    (integer_o k n v2 v3 v4 W k2 k3).mono fun e w' ⟨h1, h2⟩ => ⟨h1, h2.cell0 a0, h2.cell0 a1, h2.cell0 a2, h2.cell0 a3, h2.cell0 a4, a5.no_no h2⟩
  go_enter Tryd.func17, Tryd.ntmps17
  go_wp2_with fail
  refine wp_region_any (by kernel_rfl) ?_
  try (change wpAny _ _ _ _ _ _ _ (World.drew _))
  have K0 := (Ch.refl No (w.alloc (.cells #[.int .i64 k, .int .u64 n, v2, v3, v4] 35))).drew
  have r0 := K0.cell0 q0
  have r1 := K0.cell0 q1
  have r2 := K0.cell0 q2
  have r3 := K0.cell0 q3
  have r4 := K0.cell0 q4
  refine wpAny_ready (rs := [0]) (by kernel_rfl) (by simp) ?_
  refine AllReady.cons rfl (fun K hK => ?_) AllReady.nil
  go_simp
  refine hK _ _ ?_
  clear hK K
  try simp only [Act.put, List.setIfInBounds_toArray, List.set_cons_zero, List.set_cons_succ]
  refine wpAny_ready (rs := [1]) (by kernel_rfl) (by simp) ?_
  refine AllReady.cons rfl (fun K hK => ?_) AllReady.nil
  go_simp
  go_at_call 27
  refine (integer_o k n v2 v3 v4 _ k2 k3).mono ?_
  rintro e w1 ⟨rfl, hch1⟩
  try go_simp
  refine hK _ _ ?_
  clear hK K
  try simp only [Act.put, List.setIfInBounds_toArray, List.set_cons_zero, List.set_cons_succ]
  refine wpAny_ready (rs := [2]) (by kernel_rfl) (by simp) ?_
  refine AllReady.cons rfl (fun K hK => ?_) AllReady.nil
  go_simp
  refine hK _ _ ?_
  clear hK K
  try simp only [Act.put, List.setIfInBounds_toArray, List.set_cons_zero, List.set_cons_succ]
  refine wpAny_take (i := 3) (v := undef) rfl (by kernel_rfl) (by kernel_rfl) (by kernel_rfl) (fun _ _ _ h => h) (Or.inr ⟨by kernel_rfl, rfl⟩) ?_
  try simp only [Act.put, List.setIfInBounds_toArray, List.set_cons_zero, List.set_cons_succ]
  refine wpAny_take (i := 4) (v := undef) rfl (by kernel_rfl) (by kernel_rfl) (by kernel_rfl) (fun _ _ _ h => h) (Or.inr ⟨by kernel_rfl, rfl⟩) ?_
  try simp only [Act.put, List.setIfInBounds_toArray, List.set_cons_zero, List.set_cons_succ]
  refine wpAny_take (i := 5) (v := undef) rfl (by kernel_rfl) (by kernel_rfl) (by kernel_rfl) (fun _ _ _ h => h) (Or.inr ⟨by kernel_rfl, rfl⟩) ?_
  try simp only [Act.put, List.setIfInBounds_toArray, List.set_cons_zero, List.set_cons_succ]
  refine wpAny_take (i := 6) (v := undef) rfl (by kernel_rfl) (by kernel_rfl) (by kernel_rfl) (fun _ _ _ h => h) (Or.inr ⟨by kernel_rfl, rfl⟩) ?_
  try simp only [Act.put, List.setIfInBounds_toArray, List.set_cons_zero, List.set_cons_succ]
  refine wpAny_take (i := 7) (v := undef) rfl (by kernel_rfl) (by kernel_rfl) (by kernel_rfl) (fun _ _ _ h => h) (Or.inr ⟨by kernel_rfl, rfl⟩) ?_
  try simp only [Act.put, List.setIfInBounds_toArray, List.set_cons_zero, List.set_cons_succ]
  refine wpAny_take (i := 8) (v := undef) rfl (by kernel_rfl) (by kernel_rfl) (by kernel_rfl) (fun _ _ _ h => h) (Or.inr ⟨by kernel_rfl, rfl⟩) ?_
  try simp only [Act.put, List.setIfInBounds_toArray, List.set_cons_zero, List.set_cons_succ]
  refine wpAny_take (i := 9) (v := undef) rfl (by kernel_rfl) (by kernel_rfl) (by kernel_rfl) (fun _ _ _ h => h) (Or.inr ⟨by kernel_rfl, rfl⟩) ?_
  try simp only [Act.put, List.setIfInBounds_toArray, List.set_cons_zero, List.set_cons_succ]
  refine wpAny_take (i := 10) (v := undef) rfl (by kernel_rfl) (by kernel_rfl) (by kernel_rfl) (fun _ _ _ h => h) (Or.inr ⟨by kernel_rfl, rfl⟩) ?_
  try simp only [Act.put, List.setIfInBounds_toArray, List.set_cons_zero, List.set_cons_succ]
  refine wpAny_take (i := 11) (v := undef) rfl (by kernel_rfl) (by kernel_rfl) (by kernel_rfl) (fun _ _ _ h => h) (Or.inr ⟨by kernel_rfl, rfl⟩) ?_
  try simp only [Act.put, List.setIfInBounds_toArray, List.set_cons_zero, List.set_cons_succ]
  refine wpAny_take (i := 12) (v := undef) rfl (by kernel_rfl) (by kernel_rfl) (by kernel_rfl) (fun _ _ _ h => h) (Or.inr ⟨by kernel_rfl, rfl⟩) ?_
  try simp only [Act.put, List.setIfInBounds_toArray, List.set_cons_zero, List.set_cons_succ]
  refine wpAny_take (i := 13) (v := undef) rfl (by kernel_rfl) (by kernel_rfl) (by kernel_rfl) (fun _ _ _ h => h) (Or.inr ⟨by kernel_rfl, rfl⟩) ?_
  try simp only [Act.put, List.setIfInBounds_toArray, List.set_cons_zero, List.set_cons_succ]
  refine wpAny_ready (rs := [14]) (by kernel_rfl) (by simp) ?_
  refine AllReady.cons rfl (fun K hK => ?_) AllReady.nil
  go_simp
  refine hK _ _ ?_
  clear hK K
  try simp only [Act.put, List.setIfInBounds_toArray, List.set_cons_zero, List.set_cons_succ]
  refine wpAny_ready (rs := [15]) (by kernel_rfl) (by simp) ?_
  refine AllReady.cons rfl (fun K hK => ?_) AllReady.nil
  go_simp
  refine hK _ _ ?_
  clear hK K
  try simp only [Act.put, List.setIfInBounds_toArray, List.set_cons_zero, List.set_cons_succ]
  refine wpAny_done (by kernel_rfl) ?_ _
  go_wp2
  refine bodyPost_ret (v := .bool false) ?_ rfl ?_
  · (simp [results, Tryd.results17, go_sem]; done)
  · exact ⟨rfl, C1.drew.no_no hch1⟩

end Go.Proofs.YtcipapjlkibleaaDoor
