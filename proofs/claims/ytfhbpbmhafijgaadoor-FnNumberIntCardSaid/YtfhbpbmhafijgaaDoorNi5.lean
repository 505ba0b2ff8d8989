/- The walks of NumberInt, by its kinds. No condition. -/
import Derived.Test.YtfhbpbmhafijgaaDoorNi4
namespace Go.Proofs.YtfhbpbmhafijgaaDoor
set_option linter.unusedVariables false
set_option linter.unusedSimpArgs false
open Go.RowKit

/-- A number that has just been made. -/
def NuTo (b ty : Int) (w : World) (e : Ending) (w' : World) : Prop := ∃ p, e = .returned (.pointer (some ⟨p, 0, none⟩)) ∧ Row w' p 46 [.int .u64 b, .int .u8 ty] ∧ w.heap.size ≤ p ∧ Ch No w w'
set_option maxRecDepth 100000 in
set_option maxHeartbeats 1000000 in
theorem number00  (w : World)  : Calls Tryd.prog 8 #[.int .i64 0, .int .u64 0] w (NuTo (0) 0 w) := by
  have hR := Row.alloc w [.int .u64 0, .int .u8 0] 46
  go_enter Tryd.func8, Tryd.ntmps8
  go_wp2_with (go_at_call 12; refine (asInt0 _ _ _ _ hR).mono ?_; rintro e w1 ⟨rfl, hr, hc⟩)
  go_ret
  exact ⟨w.heap.size, rfl, hr, Nat.le_refl _, ((Ch.refl No w).alloc _).freshg hc (Nat.le_refl _)⟩
set_option maxRecDepth 100000 in
set_option maxHeartbeats 1000000 in
theorem number01 (z : Int) (w : World) (h0 : 0 < z) (h1 : z < 18446744073709551616) : Calls Tryd.prog 8 #[.int .i64 0, .int .u64 z] w (NuTo (z) 8 w) := by
  have hR := Row.alloc w [.int .u64 0, .int .u8 0] 46
  go_enter Tryd.func8, Tryd.ntmps8
  go_wp2_with (go_at_call 12; refine (asInt1 _ (wrap64 z) z _ _ _ hR (by unfold wrap64; omega) (by rw [IntKind.wrap_u64]; unfold wrap64; omega)).mono ?_; rintro e w1 ⟨rfl, hr, hc⟩)
  go_ret
  exact ⟨w.heap.size, rfl, hr, Nat.le_refl _, ((Ch.refl No w).alloc _).freshg hc (Nat.le_refl _)⟩
set_option maxRecDepth 100000 in
set_option maxHeartbeats 1000000 in
theorem number1 (z : Int) (w : World)  : Calls Tryd.prog 8 #[.int .i64 1, .int .u64 z] w (NuTo (z) 9 w) := by
  have hR := Row.alloc w [.int .u64 0, .int .u8 0] 46
  go_enter Tryd.func8, Tryd.ntmps8
  go_wp2_with (go_at_call 13; refine (asUint _ z _ _ _ hR).mono ?_; rintro e w1 ⟨rfl, hr, hc⟩)
  go_ret
  exact ⟨w.heap.size, rfl, hr, Nat.le_refl _, ((Ch.refl No w).alloc _).freshg hc (Nat.le_refl _)⟩
set_option maxRecDepth 100000 in
set_option maxHeartbeats 1000000 in
theorem number2 (b : Nat) (w : World) (hb : b < 2 ^ 32) : Calls Tryd.prog 8 #[.int .i64 2, .int .u64 b] w (NuTo ((b : Int)) 6 w) := by
  have hR := Row.alloc w [.int .u64 0, .int .u8 0] 46
  have hfb := float32frombits_run b
  rw [Int.toNat_natCast] at hfb
  have hb1 : (b : Int) < 4294967296 := by have : b < 4294967296 := hb; omega
  have hb0 : (0 : Int) ≤ b := by omega
  have HB := hid (And.intro hb0 hb1)
  go_enter Tryd.func8, Tryd.ntmps8
  go_wp2_with (go_at_call 14; refine (asF32 _ b _ _ _ hR HB.out.2).mono ?_; rintro e w1 ⟨rfl, hr, hc⟩)
  go_ret
  exact ⟨w.heap.size, rfl, hr, Nat.le_refl _, ((Ch.refl No w).alloc _).freshg hc (Nat.le_refl _)⟩
set_option maxRecDepth 100000 in
set_option maxHeartbeats 1000000 in
theorem number3 (b : Nat) (w : World)  : Calls Tryd.prog 8 #[.int .i64 3, .int .u64 b] w (NuTo ((b : Int)) 5 w) := by
  have hR := Row.alloc w [.int .u64 0, .int .u8 0] 46
  have hfb := float64frombits_run b
  rw [Int.toNat_natCast] at hfb
  go_enter Tryd.func8, Tryd.ntmps8
  go_wp2_with (go_at_call 15; refine (asF64 _ b _ _ _ hR).mono ?_; rintro e w1 ⟨rfl, hr, hc⟩)
  go_ret
  exact ⟨w.heap.size, rfl, hr, Nat.le_refl _, ((Ch.refl No w).alloc _).freshg hc (Nat.le_refl _)⟩
set_option maxRecDepth 100000 in
set_option maxHeartbeats 1000000 in
theorem coerce0 (p : Nat)  (w : World) (hR : Row w p 46 [.int .u64 0, .int .u8 0])  : Calls Tryd.prog 9 #[.pointer (some ⟨p, 0, none⟩)] w fun e w' => e = .returned (.tuple #[.int .i64 (0), .bool (true)]) ∧ Ch No w w' := by
  have c0 := hR.cell 0 _ rfl
  have c1 := hR.cell 1 _ rfl
  go_enter Tryd.func9, Tryd.ntmps9
  go_wp2_with (go_quiet (fail))
  go_ret2
  exact ⟨rfl, Ch.refl _ _⟩
set_option maxRecDepth 100000 in
set_option maxHeartbeats 1000000 in
theorem coerce8 (p : Nat) (z : Int) (w : World) (hR : Row w p 46 [.int .u64 z, .int .u8 8])  : Calls Tryd.prog 9 #[.pointer (some ⟨p, 0, none⟩)] w fun e w' => e = .returned (.tuple #[.int .i64 (wrap64 z), .bool (true)]) ∧ Ch No w w' := by
  have c0 := hR.cell 0 _ rfl
  have c1 := hR.cell 1 _ rfl
  go_enter Tryd.func9, Tryd.ntmps9
  go_wp2_with (go_quiet (fail))
  go_ret2
  exact ⟨rfl, Ch.refl _ _⟩
set_option maxRecDepth 100000 in
set_option maxHeartbeats 1000000 in
theorem coerce9 (p : Nat) (z : Int) (w : World) (hR : Row w p 46 [.int .u64 z, .int .u8 9]) (h0 : 0 ≤ z) (h1 : z < 18446744073709551616) : Calls Tryd.prog 9 #[.pointer (some ⟨p, 0, none⟩)] w fun e w' => e = .returned (.tuple #[.int .i64 (wrap64 z), .bool (decide (z ≤ 9223372036854775807))]) ∧ Ch No w w' := by
  have c0 := hR.cell 0 _ rfl
  have c1 := hR.cell 1 _ rfl
  go_enter Tryd.func9, Tryd.ntmps9
  go_wp2_with (go_quiet (fail))
  go_ret2
  exact ⟨rfl, (Ch.refl _ _).drewN _⟩
set_option maxRecDepth 100000 in
set_option maxHeartbeats 1000000 in
theorem ni00  (w : World)  : Calls Tryd.prog 4 #[.int .i64 0, .int .u64 0] w (fun e w' => e = .returned (.tuple #[.int .i64 (0), .bool (true)]) ∧ Ch No w w') := by
  go_enter Tryd.func4, Tryd.ntmps4
  go_wp2_with fail
  refine (number00 w).mono ?_
  rintro e w1 ⟨p, rfl, hr, hp, hch1⟩
  go_wp2_with fail
  refine (coerce0 p _ hr).mono ?_
  rintro e w2 ⟨rfl, hch2⟩
  go_wp2_with fail
  go_ret2
  exact ⟨rfl, hch1.no_no hch2⟩
set_option maxRecDepth 100000 in
set_option maxHeartbeats 1000000 in
theorem ni01 (z : Int) (w : World) (h0 : 0 < z) (h1 : z < 18446744073709551616) : Calls Tryd.prog 4 #[.int .i64 0, .int .u64 z] w (fun e w' => e = .returned (.tuple #[.int .i64 (wrap64 z), .bool (true)]) ∧ Ch No w w') := by
  go_enter Tryd.func4, Tryd.ntmps4
  go_wp2_with fail
  refine (number01 z w h0 h1).mono ?_
  rintro e w1 ⟨p, rfl, hr, hp, hch1⟩
  go_wp2_with fail
  refine (coerce8 p z _ hr).mono ?_
  rintro e w2 ⟨rfl, hch2⟩
  go_wp2_with fail
  go_ret2
  exact ⟨rfl, hch1.no_no hch2⟩
set_option maxRecDepth 100000 in
set_option maxHeartbeats 1000000 in
theorem ni1 (z : Int) (w : World) (h0 : 0 ≤ z) (h1 : z < 18446744073709551616) : Calls Tryd.prog 4 #[.int .i64 1, .int .u64 z] w (fun e w' => e = .returned (.tuple #[.int .i64 (wrap64 z), .bool (decide (z ≤ 9223372036854775807))]) ∧ Ch No w w') := by
  go_enter Tryd.func4, Tryd.ntmps4
  go_wp2_with fail
  refine (number1 z w).mono ?_
  rintro e w1 ⟨p, rfl, hr, hp, hch1⟩
  go_wp2_with fail
  refine (coerce9 p z _ hr h0 h1).mono ?_
  rintro e w2 ⟨rfl, hch2⟩
  go_wp2_with fail
  go_ret2
  exact ⟨rfl, hch1.no_no hch2⟩
set_option maxRecDepth 100000 in
set_option maxHeartbeats 1000000 in
theorem ni3 (b : Nat) (w : World) (hb : b < 2 ^ 64) (hT : TabZ w) : Calls Tryd.prog 4 #[.int .i64 3, .int .u64 b] w (fun e w' => ∃ (n : Int) (t : Bool), e = .returned (.tuple #[.int .i64 n, .bool t]) ∧ Ch No w w' ∧ (¬ wholeB 1023 52 (b / 2 ^ 52 % 2048) (b % 2 ^ 52) → t = false) ∧ (wholeB 1023 52 (b / 2 ^ 52 % 2048) (b % 2 ^ 52) → ∀ v, floatToIntVal .f64 b .i64 = some v → Ieee.double.order b 4890909195324358656 = some .lt → Ieee.double.order b 14114281232179134464 = some .gt → t = true ∧ n = v)) := by
  go_enter Tryd.func4, Tryd.ntmps4
  go_wp2_with fail
  refine (number3 b w).mono ?_
  rintro e w1 ⟨p, rfl, hr, hp, hch1⟩
  go_wp2_with fail
  refine (coerce64 p b hb _ (hT.keep0 hch1) hr).mono ?_
  rintro e w2 ⟨n, t, rfl, hch2, hA, hB⟩
  have HAB := hid (And.intro hA hB)
  clear hA hB
  go_wp2_with fail
  go_ret2
  exact ⟨n, t, rfl, hch1.no_no hch2, HAB.out.1, HAB.out.2⟩
set_option maxRecDepth 100000 in
set_option maxHeartbeats 1000000 in
theorem ni2 (b : Nat) (w : World) (hb : b < 2 ^ 32) (hT : TabZ w) : Calls Tryd.prog 4 #[.int .i64 2, .int .u64 b] w (fun e w' => ∃ (n : Int) (t : Bool), e = .returned (.tuple #[.int .i64 n, .bool t]) ∧ Ch No w w' ∧ (¬ wholeB 127 23 (b / 2 ^ 23 % 256) (b % 2 ^ 23) → t = false) ∧ (wholeB 127 23 (b / 2 ^ 23 % 256) (b % 2 ^ 23) → ∀ v, floatToIntVal .f32 b .i64 = some v → Ieee.single.order b 1593835520 = some .lt → Ieee.single.order b 3741319168 = some .gt → t = true ∧ n = v)) := by
  go_enter Tryd.func4, Tryd.ntmps4
  go_wp2_with fail
  refine (number2 b w hb).mono ?_
  rintro e w1 ⟨p, rfl, hr, hp, hch1⟩
  go_wp2_with fail
  refine (coerce32 p b hb _ (hT.keep0 hch1) hr).mono ?_
  rintro e w2 ⟨n, t, rfl, hch2, hA, hB⟩
  have HAB := hid (And.intro hA hB)
  clear hA hB
  go_wp2_with fail
  go_ret2
  exact ⟨n, t, rfl, hch1.no_no hch2, HAB.out.1, HAB.out.2⟩

end Go.Proofs.YtfhbpbmhafijgaaDoor
