/- The walk of the reference's look at whether a value can be written: numbers. No condition. -/
import Derived.Test.YtbdgkikipekmlaaDoorValJ
namespace Go.Proofs.YtbdgkikipekmlaaDoor
set_option linter.unusedVariables false
set_option linter.unusedSimpArgs false
open Go.RowKit
set_option maxRecDepth 100000 in
set_option maxHeartbeats 8000000 in
theorem fitv_num (w0 : World) (k : Int) (n o lv : Int) (s : ByteArray) (m d : Nat) (K : Fin m → Va) (D : Fin d → Va) (A B : Option Addr) (cap capB : Nat) (w : World) (ht : VaP w0 (.mk k n s m K o d D) [.int .i64 k, .int .u64 n, .string s, .slice A m cap, .int .i64 o, .slice B d capB]) (hw : Ch (Fro w0.heap.size) w0 w) (hmb : m ≤ 9223372036854775807) (hdb : d ≤ 9223372036854775807) (hsb : s.size ≤ 9223372036854775807) (hT : Tabs w) (h0 : 0 ≤ n) (h1 : n < 18446744073709551616) (hlv : lv ≤ 100) (hlv0 : -100 ≤ lv) (hk1 : 1 ≤ k) (hk2 : k ≤ 16) (hk3 : k ≠ 14)
    (ihK : ∀ (i : Nat) (h : i < m) (v0 v1 v2 v3 v4 v5 : Value) (w : World), VaP w0 (K ⟨i, h⟩) [v0, v1, v2, v3, v4, v5] → Ch (Fro w0.heap.size) w0 w → Tabs w → -100 ≤ lv - 1 → Calls Tryd.prog 68 #[.agg #[v0, v1, v2, v3, v4, v5], .int .i64 (lv - 1)] w (FvTo (K ⟨i, h⟩) (lv - 1) w))
    (ihD : ∀ (i : Nat) (h : i < d) (v0 v1 v2 v3 v4 v5 : Value) (w : World), VaP w0 (D ⟨i, h⟩) [v0, v1, v2, v3, v4, v5] → Ch (Fro w0.heap.size) w0 w → Tabs w → -100 ≤ lv - 1 → Calls Tryd.prog 68 #[.agg #[v0, v1, v2, v3, v4, v5], .int .i64 (lv - 1)] w (FvTo (D ⟨i, h⟩) (lv - 1) w)) :
    Calls Tryd.prog 68 #[.agg #[.int .i64 k, .int .u64 n, .string s, .slice A m cap, .int .i64 o, .slice B d capB], .int .i64 lv] w (FvTo (.mk k n s m K o d D) lv w) := by
  have hB := Row.alloc w [.int .i64 k, .int .u64 n, .string s, .slice A m cap, .int .i64 o, .slice B d capB] 25
  have C1 : Ch No w (w.alloc (.cells #[.int .i64 k, .int .u64 n, .string s, .slice A m cap, .int .i64 o, .slice B d capB] 25)) := (Ch.refl No w).alloc _
  have p0 := hB.cell 0 _ rfl
  have p1 := hB.cell 1 _ rfl
  have p2 := hB.cell 2 _ rfl
  have p3 := hB.cell 3 _ rfl
  have p4 := hB.cell 4 _ rfl
  have p5 := hB.cell 5 _ rfl
  have e21 : (k == 21) = false := beq_eq_false_iff_ne.2 (by omega)
  have e22 : (k == 22) = false := beq_eq_false_iff_ne.2 (by omega)
  have e23 : (k == 23) = false := beq_eq_false_iff_ne.2 (by omega)
  have g21 : decide (k = 21) = false := decide_eq_false (by omega)
  have g22 : decide (k = 22) = false := decide_eq_false (by omega)
  have g23 : decide (k = 23) = false := decide_eq_false (by omega)
  have dlo : decide (k < 0) = false := decide_eq_false (by omega)
  have dhi : decide (24 ≤ k) = false := decide_eq_false (by omega)
  have t17 : decide (17 ≤ k) = false := decide_eq_false (by omega)
  have t14 : (k == 14) = false := beq_eq_false_iff_ne.2 hk3
  have t14' : (k != 14) = true := bne_iff_ne.2 hk3
  have t14'' : decide (k = 14) = false := decide_eq_false hk3
  have n1 : decide (1 ≤ k) = true := decide_eq_true hk1
  have n16 : decide (k ≤ 16) = true := decide_eq_true hk2
  by_cases hl0 : lv ≤ 0
  · have d0 : decide (lv ≤ 0) = true := decide_eq_true hl0
    go_enter Tryd.func68, Tryd.ntmps68
    go_wp2_with fail
    all_goals (go_ret; exact ⟨false, rfl, C1, fun h => by cases h⟩)
  have d0 : decide (lv ≤ 0) = false := decide_eq_false hl0
  by_cases hm0 : m = 0
  rotate_left
  · have dm : decide ((0 : Int) < m) = true := decide_eq_true (by omega)
    go_enter Tryd.func68, Tryd.ntmps68
    go_wp2_with fail
    all_goals (go_ret; exact ⟨false, rfl, C1, fun h => by cases h⟩)
  subst hm0
  by_cases hd2 : 1 < d
  · have dd : decide ((1 : Int) < d) = true := decide_eq_true (by omega)
    go_enter Tryd.func68, Tryd.ntmps68
    go_wp2_with fail
    all_goals (go_ret; exact ⟨false, rfl, C1, fun h => by cases h⟩)
  by_cases hd : d = 0
  · subst hd
    have HBX := hid (fun (wr : World) (h : Ch No (w.alloc (.cells #[.int .i64 k, .int .u64 n, .string s, .slice A 0 cap, .int .i64 o, .slice B 0 capB] 25)) wr) => hB.keep0 h)
    go_enter Tryd.func68, Tryd.ntmps68
    go_wp2_with fail
    all_goals first | (go_ret; exact ⟨false, rfl, C1, fun h => by cases h⟩) | skip
    go_loopg [149] 0 (fun kk s149 wr => ∃ i : Nat, kk + i = 0 ∧ s149 = .int .i64 i ∧ Hid (∀ j (h : j < 0), j < i → FitV (K ⟨j, h⟩) (lv - 1)) ∧ Row wr w.heap.size 25 [.int .i64 k, .int .u64 n, .string s, .slice A 0 cap, .int .i64 o, .slice B 0 capB] ∧ Ch No w wr)
    case atStart => exact ⟨0, by omega, rfl, hid (fun j _ h => by omega), hB, C1⟩
    case round =>
      obtain ⟨i, hki, rfl, HALL, hbx, hch⟩ := hrel
    
    
      have r0 := hbx.cell 0 _ rfl
      have r1 := hbx.cell 1 _ rfl
      have r2 := hbx.cell 2 _ rfl
      have r3 := hbx.cell 3 _ rfl
      have r4 := hbx.cell 4 _ rfl
      have r5 := hbx.cell 5 _ rfl
      obtain rfl : i = 0 := by omega
      go_wp2_with (go_at_call 92; refine (cont_calls w0 k n o s 0 0 K D A B cap capB _ (by omega) (by omega) ht (hw.then_no hch) (by omega) hsb (hT.keep0 hch) (by omega) (by omega)).mono ?_; rintro e w9 ⟨bb, rfl, hch9, hcf⟩)
      go_ret
      exact ⟨_, rfl, hch.no_no hch9, fun hbt => ⟨by omega, by omega, by omega, (fun _ _ _ => by first | rfl | (exfalso; omega)), (fun _ _ => by first | assumption | (exfalso; omega)), (fun _ => by first | assumption | omega), by omega, by omega, by omega, by omega, by omega, hcf hbt, (fun i => i.elim0), fun i => HALL.out i.val i.isLt (by have := i.isLt; omega)⟩⟩
  obtain rfl : d = 1 := by omega
  obtain ⟨b3, o3, g0, g1, g2, g3, g4, g5, rfl, hgk, f0, f1, f2, f3, f4, f5⟩ := ht.desc (w := w.alloc (.cells #[.int .i64 k, .int .u64 n, .string s, .slice A 0 cap, .int .i64 o, .slice B 1 capB] 25)) (hw.then_no C1) 0 (by omega)
  simp only [Nat.zero_mul, Nat.add_zero] at f0 f1 f2 f3 f4 f5
  obtain ⟨k', n', s', m', K', o', d', D', hD0⟩ : ∃ k' n' s' m' K' o' d' D', D ⟨0, Nat.zero_lt_one⟩ = Va.mk k' n' s' m' K' o' d' D' := by cases D ⟨0, Nat.zero_lt_one⟩; exact ⟨_, _, _, _, _, _, _, _, rfl⟩
  have hgk' := hgk
  rw [hD0] at hgk'
  obtain ⟨A', cap', B', capB', he', _⟩ := hgk'
  simp only [List.cons.injEq, and_true] at he'
  obtain ⟨rfl, rfl, rfl, rfl, rfl, rfl⟩ := he'
  have hDk : (D ⟨0, Nat.zero_lt_one⟩).kind = k' ∧ (D ⟨0, Nat.zero_lt_one⟩).descs = d' := by rw [hD0]; exact ⟨rfl, rfl⟩
  have HDK := hid hDk
  clear hDk hD0
  have HBX := hid (fun (wr : World) (h : Ch No (w.alloc (.cells #[.int .i64 k, .int .u64 n, .string s, .slice A 0 cap, .int .i64 o, .slice (some ⟨b3, o3, none⟩) 1 capB] 25)) wr) => hB.keep0 h)
  by_cases hkd : k' = 5 ∨ k' = 20
  rotate_left
  · have y1 : (k' == 5) = false := beq_eq_false_iff_ne.2 (by omega)
    have y2 : (k' != 5) = true := bne_iff_ne.2 (by omega)
    have y3 : decide (k' = 5) = false := decide_eq_false (by omega)
    have y4 : (k' == 20) = false := beq_eq_false_iff_ne.2 (by omega)
    have y5 : (k' != 20) = true := bne_iff_ne.2 (by omega)
    have y6 : decide (k' = 20) = false := decide_eq_false (by omega)
    go_enter Tryd.func68, Tryd.ntmps68
    go_wp2_with fail
    all_goals first | (go_ret; exact ⟨false, rfl, C1, fun h => by cases h⟩) | skip
    refine (ihD 0 Nat.zero_lt_one _ _ _ _ _ _ _ hgk (hw.then_no C1) (hT.keep0 C1) (by omega)).mono ?_
    rintro e w4 ⟨bb, rfl, hch4, hfd⟩
    have hbx4 := HBX.out w4 hch4
    have t0 := hbx4.cell 0 _ rfl
    have t1 := hbx4.cell 1 _ rfl
    have t2 := hbx4.cell 2 _ rfl
    have t3 := hbx4.cell 3 _ rfl
    have t4 := hbx4.cell 4 _ rfl
    have t5 := hbx4.cell 5 _ rfl
    have x0 := hch4.cell0 f0
    have x1 := hch4.cell0 f1
    have x2 := hch4.cell0 f2
    have x3 := hch4.cell0 f3
    have x4 := hch4.cell0 f4
    have x5 := hch4.cell0 f5
    have C4 := C1.no_no hch4
    cases bb
    · go_wp2_with fail
      go_ret
      exact ⟨false, rfl, C4, fun h => by cases h⟩
    · go_wp2_with fail
      go_ret
      exact ⟨false, rfl, C4, fun h => by cases h⟩
  by_cases hdd : 0 < d'
  · have y7 : decide ((0 : Int) < d') = true := decide_eq_true (by omega)
    rcases hkd with rfl | rfl
    all_goals
      go_enter Tryd.func68, Tryd.ntmps68
      go_wp2_with fail
      all_goals first | (go_ret; exact ⟨false, rfl, C1, fun h => by cases h⟩) | skip
      refine (ihD 0 Nat.zero_lt_one _ _ _ _ _ _ _ hgk (hw.then_no C1) (hT.keep0 C1) (by omega)).mono ?_
      rintro e w4 ⟨bb, rfl, hch4, hfd⟩
      have hbx4 := HBX.out w4 hch4
      have t0 := hbx4.cell 0 _ rfl
      have t1 := hbx4.cell 1 _ rfl
      have t2 := hbx4.cell 2 _ rfl
      have t3 := hbx4.cell 3 _ rfl
      have t4 := hbx4.cell 4 _ rfl
      have t5 := hbx4.cell 5 _ rfl
      have x0 := hch4.cell0 f0
      have x1 := hch4.cell0 f1
      have x2 := hch4.cell0 f2
      have x3 := hch4.cell0 f3
      have x4 := hch4.cell0 f4
      have x5 := hch4.cell0 f5
      have C4 := C1.no_no hch4
      cases bb
      · go_wp2_with fail
        go_ret
        exact ⟨false, rfl, C4, fun h => by cases h⟩
      · go_wp2_with fail
        go_ret
        exact ⟨false, rfl, C4, fun h => by cases h⟩
  have y7 : decide ((0 : Int) < d') = false := decide_eq_false (by omega)
  have hdf : FitV (D ⟨0, Nat.zero_lt_one⟩) (lv - 1) → FitV (D ⟨0, Nat.zero_lt_one⟩) (lv - 1) ∧ ((D ⟨0, Nat.zero_lt_one⟩).kind = 5 ∨ (D ⟨0, Nat.zero_lt_one⟩).kind = 20) ∧ (D ⟨0, Nat.zero_lt_one⟩).descs = 0 := fun h => ⟨h, by rw [HDK.out.1]; exact hkd, by rw [HDK.out.2]; omega⟩
  have HDF0 := hid hdf
  clear hdf
  rcases hkd with rfl | rfl
  all_goals
    go_enter Tryd.func68, Tryd.ntmps68
    go_wp2_with fail
    all_goals first | (go_ret; exact ⟨false, rfl, C1, fun h => by cases h⟩) | skip
    refine (ihD 0 Nat.zero_lt_one _ _ _ _ _ _ _ hgk (hw.then_no C1) (hT.keep0 C1) (by omega)).mono ?_
    rintro e w4 ⟨bb, rfl, hch4, hfd⟩
    have hbx4 := HBX.out w4 hch4
    have t0 := hbx4.cell 0 _ rfl
    have t1 := hbx4.cell 1 _ rfl
    have t2 := hbx4.cell 2 _ rfl
    have t3 := hbx4.cell 3 _ rfl
    have t4 := hbx4.cell 4 _ rfl
    have t5 := hbx4.cell 5 _ rfl
    have x0 := hch4.cell0 f0
    have x1 := hch4.cell0 f1
    have x2 := hch4.cell0 f2
    have x3 := hch4.cell0 f3
    have x4 := hch4.cell0 f4
    have x5 := hch4.cell0 f5
    have C4 := C1.no_no hch4
    cases bb
    · go_wp2_with fail
      go_ret
      exact ⟨false, rfl, C4, fun h => by cases h⟩
    · go_wp2_with fail
      skip
      have HDF := hid (HDF0.out (hfd (by trivial)))
      go_loopg [149] 0 (fun kk s149 wr => ∃ i : Nat, kk + i = 0 ∧ s149 = .int .i64 i ∧ Hid (∀ j (h : j < 0), j < i → FitV (K ⟨j, h⟩) (lv - 1)) ∧ Row wr w.heap.size 25 [.int .i64 k, .int .u64 n, .string s, .slice A 0 cap, .int .i64 o, .slice (some ⟨b3, o3, none⟩) 1 capB] ∧ Ch No w wr)
      case atStart => exact ⟨0, by omega, rfl, hid (fun j _ h => by omega), hbx4, C4⟩
      case round =>
        obtain ⟨i, hki, rfl, HALL, hbx, hch⟩ := hrel
      
      
        have r0 := hbx.cell 0 _ rfl
        have r1 := hbx.cell 1 _ rfl
        have r2 := hbx.cell 2 _ rfl
        have r3 := hbx.cell 3 _ rfl
        have r4 := hbx.cell 4 _ rfl
        have r5 := hbx.cell 5 _ rfl
        obtain rfl : i = 0 := by omega
        go_wp2_with (go_at_call 92; refine (cont_calls w0 k n o s 0 1 K D A (some ⟨b3, o3, none⟩) cap capB _ (by omega) (by omega) ht (hw.then_no hch) (by omega) hsb (hT.keep0 hch) (by omega) (by omega)).mono ?_; rintro e w9 ⟨bb, rfl, hch9, hcf⟩)
        go_ret
        exact ⟨_, rfl, hch.no_no hch9, fun hbt => ⟨by omega, by omega, by omega, (fun _ _ _ => by first | rfl | (exfalso; omega)), (fun _ _ => by first | assumption | (exfalso; omega)), (fun _ => by first | assumption | omega), by omega, by omega, by omega, by omega, by omega, hcf hbt, (fun ⟨j, hj⟩ => by obtain rfl : j = 0 := (by omega); exact HDF.out), fun i => HALL.out i.val i.isLt (by have := i.isLt; omega)⟩⟩

end Go.Proofs.YtbdgkikipekmlaaDoor
