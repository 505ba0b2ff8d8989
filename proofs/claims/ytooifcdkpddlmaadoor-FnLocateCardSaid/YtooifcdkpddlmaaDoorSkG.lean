/- The walk of MessagePack's sizes by the first byte. No condition. -/
import Derived.Test.YtooifcdkpddlmaaDoorSkB
import Derived.Test.YtooifcdkpddlmaaDoorPutH
import Derived.Deep.RegionLaw
namespace Go.Proofs.YtooifcdkpddlmaaDoor
set_option linter.unusedVariables false
set_option linter.unusedSimpArgs false
open Go.RowKit

set_option maxRecDepth 100000 in
set_option maxHeartbeats 1000000 in
theorem getBsE (b : Int) (w : World) (h0 : 0 ≤ b) (h1 : b < 256) : Calls Tryd.prog 48 #[.int .u8 b] w (BsE b w) := by
  have hR := Row.alloc w [.int .u8 0, .int .i8 0, .int .u8 0, .int .u8 0] 118
  have hcc := fun W => calcE_calls b W h0 h1
  unfold BsE at hcc ⊢
  generalize (bspec b).1 = x at hcc ⊢
  generalize (bspec b).2 = y at hcc ⊢
  go_enter Tryd.func48, Tryd.ntmps48
  go_wp2_with (first | (go_at_call 52; refine (hcc _).mono ?_; rintro e w1 ⟨z, t, rfl, hch1⟩) | ((with_reducible refine gate (.store 118 _ _) rfl ?_); refine wp_store rfl rfl 118 _ _ rfl w.heap.size 0 118 [.int .u8 0, .int .i8 0, .int .u8 0, .int .u8 0] (.agg #[.int .u8 x, .int .i8 y, .int .u8 z, .int .u8 t]) rfl rfl [.int .u8 x, .int .i8 y, .int .u8 z, .int .u8 t] rfl size_bs (by simp [Value.oneCell']) (hR.keep0 hch1) (by simp) ?_; intro w2 hrow2 hch2))
  have d0 := hrow2.cell 0 _ rfl
  have d1 := hrow2.cell 1 _ rfl
  have d2 := hrow2.cell 2 _ rfl
  have d3 := hrow2.cell 3 _ rfl
  refine bodyPost_ret (v := .agg #[.int .u8 x, .int .i8 y, .int .u8 z, .int .u8 t]) ?_ rfl ?_
  · simp [results, Tryd.results48, go_sem, d0, d1, d2, d3]
  exact ⟨z, t, rfl, (((Ch.refl No w).alloc _).no_no hch1).freshg hch2 (Nat.le_refl _)⟩
def GsOk (sz asz : Int) (w : World) (e : Ending) (w' : World) : Prop := e = .returned (.tuple #[.int .u64 sz, .int .u64 asz, .nilIface]) ∧ Ch No w w'
set_option maxRecDepth 100000 in
set_option maxHeartbeats 1000000 in
theorem gs_fixed (A : Option Addr) (c : Nat) (b x y : Int) (r : List Int) (w : World) (hr : Rd u8 w A (b :: r)) (h0 : 0 ≤ b) (h1 : b < 256) (hb : bspec b = (x, y)) (hx0 : 0 < x) (hx1 : x < 256) (hy0 : 0 ≤ y) (hy1 : y < 128) :
    Calls Tryd.prog 53 #[.slice A (b :: r).length c] w (GsOk x y w) := by
  have hbs := fun W => getBsE b W h0 h1
  unfold BsE at hbs
  rw [hb] at hbs
  obtain ⟨bk, o, rfl, c0⟩ := hr.at_ 0 (by simp)
  replace c0 : World.cell? _ ⟨bk, o, none⟩ = some (.int .u8 b) := c0
  obtain ⟨M, hM⟩ : ∃ M, (b :: r).length = M := ⟨_, rfl⟩
  have hM0 : (0 : Int) < M := by rw [← hM, List.length_cons]; omega
  have e0 : ((M : Int) == 0) = false := beq_eq_false_iff_ne.2 (by omega)
  have e1 : decide (M = 0) = false := decide_eq_false (by omega)
  have e2 : (x == 0) = false := beq_eq_false_iff_ne.2 (by omega)
  have e3 : decide (0 ≤ y) = true := decide_eq_true hy0
  rw [hM]
  clear hM hr hb
  go_enter Tryd.func53, Tryd.ntmps53
  go_wp2_with fail
  refine (hbs _).mono ?_
  rintro e w1 ⟨z, t, rfl, hch1⟩
  go_wp2_with (first | ((with_reducible refine gate (.store 118 (.tmp _) _) rfl ?_); refine wp_store rfl rfl 118 _ _ rfl w1.heap.size 0 118 [.int .u8 0, .int .i8 0, .int .u8 0, .int .u8 0] (.agg #[.int .u8 x, .int .i8 y, .int .u8 z, .int .u8 t]) rfl rfl [.int .u8 x, .int .i8 y, .int .u8 z, .int .u8 t] rfl size_bs (by simp [Value.oneCell']) (Row.alloc w1 [.int .u8 0, .int .i8 0, .int .u8 0, .int .u8 0] 118) (by simp) ?_; intro w2 hrow2 hch2; have C2 : Ch No w w2 := (hch1.alloc _).freshg hch2 hch1.size; have d0 : w2.cell? ⟨w1.heap.size, 0, none⟩ = some (.int .u8 x) := hrow2.cell 0 _ rfl; have d1 : w2.cell? ⟨w1.heap.size, 1, none⟩ = some (.int .i8 y) := hrow2.cell 1 _ rfl) | go_quiet (fail))
  go_ret3
  exact ⟨rfl, (by repeat (first | exact C2 | apply Ch.drewN | apply Ch.drew))⟩
set_option maxRecDepth 100000 in
set_option maxHeartbeats 1000000 in
theorem gs_196 (A : Option Addr) (c : Nat) (r : List Int) (q : Int) (w : World) (hr : Rd u8 w A (196 :: r)) (hc : (196 :: r : List Int).length ≤ c) (hbt : Byt r) (hl : 2 ≤ (196 :: r : List Int).length) (hq : beN (r.take 1) = q) :
    Calls Tryd.prog 53 #[.slice A (196 :: r : List Int).length c] w (GsOk (2 + q) (0) w) := by
  have hbs := fun W => getBsE 196 W (by omega) (by omega)
  unfold BsE at hbs
  rw [show bspec 196 = (2, -1) by decide] at hbs
  have hrl : 1 ≤ r.length := by simp at hl; omega
  obtain ⟨M, hM⟩ : ∃ M, (196 :: r : List Int).length = M := ⟨_, rfl⟩
  have hMk : M - 1 = r.length := by rw [← hM]; simp
  rw [hM] at hc hl ⊢
  have hqr := beN_range 1 (r.take 1) (by rw [List.length_take]; omega) (hbt.take 1)
  rw [hq] at hqr
  have hq0 : 0 ≤ q := hqr.1
  have hq1 : q < 256 := hqr.2
  have hq2 : beN (r.take 1) = r[0] := by rw [beN_take r 0 (by omega)]; simp [beN]
  have c1 : World.cell? w ⟨0, 0, none⟩ = World.cell? w ⟨0, 0, none⟩ := rfl
  clear c1
  obtain ⟨bk0, o0, hA0, c1⟩ := hr.at_ 1 (by simp; omega)
  replace c1 : World.cell? _ ⟨bk0, o0 + 1, none⟩ = some (.int .u8 r[0]) := c1
  rw [← hq2, hq] at c1
  clear hq2
  obtain ⟨bk, o, rfl, c0⟩ := hr.at_ 0 (by simp)
  replace c0 : World.cell? _ ⟨bk, o, none⟩ = some (.int .u8 196) := c0
  injection hA0 with hA0
  injection hA0 with hA1 hA2
  subst hA1; subst hA2
  have hM0 : (0 : Int) < M := by omega
  have hM1 : (1 : Int) < M := by omega
  have e0 : ((M : Int) == 0) = false := beq_eq_false_iff_ne.2 (by omega)
  have e1 : decide (M = 0) = false := decide_eq_false (by omega)
  have e2 : decide ((M : Int) < 2) = false := decide_eq_false (by omega)
  clear hM hr hc hl hqr hq hrl hMk
  try clear hbt
  try generalize r.length = k0 at hb2 hb3 hbe
  go_enter Tryd.func53, Tryd.ntmps53
  go_wp2_with fail
  refine (hbs _).mono ?_
  rintro e w1 ⟨z, t, rfl, hch1⟩
  go_wp2_with (first | ((with_reducible refine gate (.store 118 (.tmp _) _) rfl ?_); refine wp_store rfl rfl 118 _ _ rfl w1.heap.size 0 118 [.int .u8 0, .int .i8 0, .int .u8 0, .int .u8 0] (.agg #[.int .u8 2, .int .i8 (-1), .int .u8 z, .int .u8 t]) rfl rfl [.int .u8 2, .int .i8 (-1), .int .u8 z, .int .u8 t] rfl size_bs (by simp [Value.oneCell']) (Row.alloc w1 [.int .u8 0, .int .i8 0, .int .u8 0, .int .u8 0] 118) (by simp) ?_; intro w2 hrow2 hch2; have C2 : Ch No w w2 := (hch1.alloc _).freshg hch2 hch1.size; have d0 : w2.cell? ⟨w1.heap.size, 0, none⟩ = some (.int .u8 2) := hrow2.cell 0 _ rfl; have d1 : w2.cell? ⟨w1.heap.size, 1, none⟩ = some (.int .i8 (-1)) := hrow2.cell 1 _ rfl; have f0 := C2.cell0 c0; have f1 := C2.cell0 c1) | go_quiet (fail))
  go_ret3
  exact ⟨rfl, (by repeat (first | exact C2 | apply Ch.drewN | apply Ch.drew))⟩
set_option maxRecDepth 100000 in
set_option maxHeartbeats 1000000 in
theorem gs_197 (A : Option Addr) (c : Nat) (r : List Int) (q : Int) (w : World) (hr : Rd u8 w A (197 :: r)) (hc : (197 :: r : List Int).length ≤ c) (hbt : Byt r) (hl : 3 ≤ (197 :: r : List Int).length) (hq : beN (r.take 2) = q) :
    Calls Tryd.prog 53 #[.slice A (197 :: r : List Int).length c] w (GsOk (3 + q) (0) w) := by
  have hbs := fun W => getBsE 197 W (by omega) (by omega)
  unfold BsE at hbs
  rw [show bspec 197 = (3, -2) by decide] at hbs
  have hrl : 2 ≤ r.length := by simp at hl; omega
  obtain ⟨M, hM⟩ : ∃ M, (197 :: r : List Int).length = M := ⟨_, rfl⟩
  have hMk : M - 1 = r.length := by rw [← hM]; simp
  rw [hM] at hc hl ⊢
  obtain ⟨A4, hb2, hb3, hcut4⟩ := Cut.ahead_l 24 5 Tryd.underlying24 size_u8 A M c 1 1 rfl .i64 (by omega)
  have hr4 : Rd u8 w A4 r := hcut4.drop hr hM hc
  have hbe := fun W (h : Ch No w W) => be16_calls A4 (c - 1) r W (hr4.keep0 h) hbt hrl
  rw [hq] at hbe
  rw [hMk] at hb2 hb3
  generalize c - 1 = c4 at hb2 hb3 hbe
  clear hcut4 hr4
  have hqr := beN_range 2 (r.take 2) (by rw [List.length_take]; omega) (hbt.take 2)
  rw [hq] at hqr
  have hq0 : 0 ≤ q := hqr.1
  have hq1 : q < 65536 := hqr.2
  obtain ⟨bk, o, rfl, c0⟩ := hr.at_ 0 (by simp)
  replace c0 : World.cell? _ ⟨bk, o, none⟩ = some (.int .u8 197) := c0
  have hM0 : (0 : Int) < M := by omega
  have hM1 : (1 : Int) < M := by omega
  have e0 : ((M : Int) == 0) = false := beq_eq_false_iff_ne.2 (by omega)
  have e1 : decide (M = 0) = false := decide_eq_false (by omega)
  have e2 : decide ((M : Int) < 3) = false := decide_eq_false (by omega)
  clear hM hr hc hl hqr hq hrl hMk
  try clear hbt
  try generalize r.length = k0 at hb2 hb3 hbe
  go_enter Tryd.func53, Tryd.ntmps53
  go_wp2_with fail
  refine (hbs _).mono ?_
  rintro e w1 ⟨z, t, rfl, hch1⟩
  go_wp2_with (first | ((with_reducible refine gate (.store 118 (.tmp _) _) rfl ?_); refine wp_store rfl rfl 118 _ _ rfl w1.heap.size 0 118 [.int .u8 0, .int .i8 0, .int .u8 0, .int .u8 0] (.agg #[.int .u8 3, .int .i8 (-2), .int .u8 z, .int .u8 t]) rfl rfl [.int .u8 3, .int .i8 (-2), .int .u8 z, .int .u8 t] rfl size_bs (by simp [Value.oneCell']) (Row.alloc w1 [.int .u8 0, .int .i8 0, .int .u8 0, .int .u8 0] 118) (by simp) ?_; intro w2 hrow2 hch2; have C2 : Ch No w w2 := (hch1.alloc _).freshg hch2 hch1.size; have d0 : w2.cell? ⟨w1.heap.size, 0, none⟩ = some (.int .u8 3) := hrow2.cell 0 _ rfl; have d1 : w2.cell? ⟨w1.heap.size, 1, none⟩ = some (.int .i8 (-2)) := hrow2.cell 1 _ rfl; have f0 := C2.cell0 c0) | go_quiet (fail))
  go_region_law (go_simp; go_at_call 30; refine (hbe _ (by repeat (first | exact C2 | apply Ch.drewN | apply Ch.drew))).mono ?_; rintro e w3 ⟨rfl, hch3⟩; have C3 : Ch No w w3 := Ch.no_no (show Ch No w _ from (by repeat (first | exact C2 | apply Ch.drewN | apply Ch.drew))) hch3)
  all_goals
    go_wp2
    refine bodyPost_ret (v := .tuple #[.int .u64 (3 + q), .int .u64 (0), .nilIface]) ?_ rfl ?_
    · simp [results, Tryd.results53, go_sem]
      try (simp [IntKind.wrap, IntKind.bits, IntKind.signed]; omega)
    · exact ⟨rfl, (by repeat (first | exact C3 | apply Ch.drewN | apply Ch.drew))⟩
set_option maxRecDepth 100000 in
set_option maxHeartbeats 1000000 in
theorem gs_198 (A : Option Addr) (c : Nat) (r : List Int) (q : Int) (w : World) (hr : Rd u8 w A (198 :: r)) (hc : (198 :: r : List Int).length ≤ c) (hbt : Byt r) (hl : 5 ≤ (198 :: r : List Int).length) (hq : beN (r.take 4) = q) :
    Calls Tryd.prog 53 #[.slice A (198 :: r : List Int).length c] w (GsOk (5 + q) (0) w) := by
  have hbs := fun W => getBsE 198 W (by omega) (by omega)
  unfold BsE at hbs
  rw [show bspec 198 = (5, -3) by decide] at hbs
  have hrl : 4 ≤ r.length := by simp at hl; omega
  obtain ⟨M, hM⟩ : ∃ M, (198 :: r : List Int).length = M := ⟨_, rfl⟩
  have hMk : M - 1 = r.length := by rw [← hM]; simp
  rw [hM] at hc hl ⊢
  obtain ⟨A4, hb2, hb3, hcut4⟩ := Cut.ahead_l 24 5 Tryd.underlying24 size_u8 A M c 1 1 rfl .i64 (by omega)
  have hr4 : Rd u8 w A4 r := hcut4.drop hr hM hc
  have hbe := fun W (h : Ch No w W) => be32_calls A4 (c - 1) r W (hr4.keep0 h) hbt hrl
  rw [hq] at hbe
  rw [hMk] at hb2 hb3
  generalize c - 1 = c4 at hb2 hb3 hbe
  clear hcut4 hr4
  have hqr := beN_range 4 (r.take 4) (by rw [List.length_take]; omega) (hbt.take 4)
  rw [hq] at hqr
  have hq0 : 0 ≤ q := hqr.1
  have hq1 : q < 4294967296 := hqr.2
  obtain ⟨bk, o, rfl, c0⟩ := hr.at_ 0 (by simp)
  replace c0 : World.cell? _ ⟨bk, o, none⟩ = some (.int .u8 198) := c0
  have hM0 : (0 : Int) < M := by omega
  have hM1 : (1 : Int) < M := by omega
  have e0 : ((M : Int) == 0) = false := beq_eq_false_iff_ne.2 (by omega)
  have e1 : decide (M = 0) = false := decide_eq_false (by omega)
  have e2 : decide ((M : Int) < 5) = false := decide_eq_false (by omega)
  clear hM hr hc hl hqr hq hrl hMk
  try clear hbt
  try generalize r.length = k0 at hb2 hb3 hbe
  go_enter Tryd.func53, Tryd.ntmps53
  go_wp2_with fail
  refine (hbs _).mono ?_
  rintro e w1 ⟨z, t, rfl, hch1⟩
  go_wp2_with (first | ((with_reducible refine gate (.store 118 (.tmp _) _) rfl ?_); refine wp_store rfl rfl 118 _ _ rfl w1.heap.size 0 118 [.int .u8 0, .int .i8 0, .int .u8 0, .int .u8 0] (.agg #[.int .u8 5, .int .i8 (-3), .int .u8 z, .int .u8 t]) rfl rfl [.int .u8 5, .int .i8 (-3), .int .u8 z, .int .u8 t] rfl size_bs (by simp [Value.oneCell']) (Row.alloc w1 [.int .u8 0, .int .i8 0, .int .u8 0, .int .u8 0] 118) (by simp) ?_; intro w2 hrow2 hch2; have C2 : Ch No w w2 := (hch1.alloc _).freshg hch2 hch1.size; have d0 : w2.cell? ⟨w1.heap.size, 0, none⟩ = some (.int .u8 5) := hrow2.cell 0 _ rfl; have d1 : w2.cell? ⟨w1.heap.size, 1, none⟩ = some (.int .i8 (-3)) := hrow2.cell 1 _ rfl; have f0 := C2.cell0 c0) | go_quiet (fail))
  go_region_law (go_simp; go_at_call 31; refine (hbe _ (by repeat (first | exact C2 | apply Ch.drewN | apply Ch.drew))).mono ?_; rintro e w3 ⟨rfl, hch3⟩; have C3 : Ch No w w3 := Ch.no_no (show Ch No w _ from (by repeat (first | exact C2 | apply Ch.drewN | apply Ch.drew))) hch3)
  all_goals
    go_wp2
    refine bodyPost_ret (v := .tuple #[.int .u64 (5 + q), .int .u64 (0), .nilIface]) ?_ rfl ?_
    · simp [results, Tryd.results53, go_sem]
      try (simp [IntKind.wrap, IntKind.bits, IntKind.signed]; omega)
    · exact ⟨rfl, (by repeat (first | exact C3 | apply Ch.drewN | apply Ch.drew))⟩
set_option maxRecDepth 100000 in
set_option maxHeartbeats 1000000 in
theorem gs_199 (A : Option Addr) (c : Nat) (r : List Int) (q : Int) (w : World) (hr : Rd u8 w A (199 :: r)) (hc : (199 :: r : List Int).length ≤ c) (hbt : Byt r) (hl : 3 ≤ (199 :: r : List Int).length) (hq : beN (r.take 1) = q) :
    Calls Tryd.prog 53 #[.slice A (199 :: r : List Int).length c] w (GsOk (3 + q) (0) w) := by
  have hbs := fun W => getBsE 199 W (by omega) (by omega)
  unfold BsE at hbs
  rw [show bspec 199 = (3, -1) by decide] at hbs
  have hrl : 1 ≤ r.length := by simp at hl; omega
  obtain ⟨M, hM⟩ : ∃ M, (199 :: r : List Int).length = M := ⟨_, rfl⟩
  have hMk : M - 1 = r.length := by rw [← hM]; simp
  rw [hM] at hc hl ⊢
  have hqr := beN_range 1 (r.take 1) (by rw [List.length_take]; omega) (hbt.take 1)
  rw [hq] at hqr
  have hq0 : 0 ≤ q := hqr.1
  have hq1 : q < 256 := hqr.2
  have hq2 : beN (r.take 1) = r[0] := by rw [beN_take r 0 (by omega)]; simp [beN]
  have c1 : World.cell? w ⟨0, 0, none⟩ = World.cell? w ⟨0, 0, none⟩ := rfl
  clear c1
  obtain ⟨bk0, o0, hA0, c1⟩ := hr.at_ 1 (by simp; omega)
  replace c1 : World.cell? _ ⟨bk0, o0 + 1, none⟩ = some (.int .u8 r[0]) := c1
  rw [← hq2, hq] at c1
  clear hq2
  obtain ⟨bk, o, rfl, c0⟩ := hr.at_ 0 (by simp)
  replace c0 : World.cell? _ ⟨bk, o, none⟩ = some (.int .u8 199) := c0
  injection hA0 with hA0
  injection hA0 with hA1 hA2
  subst hA1; subst hA2
  have hM0 : (0 : Int) < M := by omega
  have hM1 : (1 : Int) < M := by omega
  have e0 : ((M : Int) == 0) = false := beq_eq_false_iff_ne.2 (by omega)
  have e1 : decide (M = 0) = false := decide_eq_false (by omega)
  have e2 : decide ((M : Int) < 3) = false := decide_eq_false (by omega)
  clear hM hr hc hl hqr hq hrl hMk
  try clear hbt
  try generalize r.length = k0 at hb2 hb3 hbe
  go_enter Tryd.func53, Tryd.ntmps53
  go_wp2_with fail
  refine (hbs _).mono ?_
  rintro e w1 ⟨z, t, rfl, hch1⟩
  go_wp2_with (first | ((with_reducible refine gate (.store 118 (.tmp _) _) rfl ?_); refine wp_store rfl rfl 118 _ _ rfl w1.heap.size 0 118 [.int .u8 0, .int .i8 0, .int .u8 0, .int .u8 0] (.agg #[.int .u8 3, .int .i8 (-1), .int .u8 z, .int .u8 t]) rfl rfl [.int .u8 3, .int .i8 (-1), .int .u8 z, .int .u8 t] rfl size_bs (by simp [Value.oneCell']) (Row.alloc w1 [.int .u8 0, .int .i8 0, .int .u8 0, .int .u8 0] 118) (by simp) ?_; intro w2 hrow2 hch2; have C2 : Ch No w w2 := (hch1.alloc _).freshg hch2 hch1.size; have d0 : w2.cell? ⟨w1.heap.size, 0, none⟩ = some (.int .u8 3) := hrow2.cell 0 _ rfl; have d1 : w2.cell? ⟨w1.heap.size, 1, none⟩ = some (.int .i8 (-1)) := hrow2.cell 1 _ rfl; have f0 := C2.cell0 c0; have f1 := C2.cell0 c1) | go_quiet (fail))
  go_ret3
  exact ⟨rfl, (by repeat (first | exact C2 | apply Ch.drewN | apply Ch.drew))⟩
set_option maxRecDepth 100000 in
set_option maxHeartbeats 1000000 in
theorem gs_200 (A : Option Addr) (c : Nat) (r : List Int) (q : Int) (w : World) (hr : Rd u8 w A (200 :: r)) (hc : (200 :: r : List Int).length ≤ c) (hbt : Byt r) (hl : 4 ≤ (200 :: r : List Int).length) (hq : beN (r.take 2) = q) :
    Calls Tryd.prog 53 #[.slice A (200 :: r : List Int).length c] w (GsOk (4 + q) (0) w) := by
  have hbs := fun W => getBsE 200 W (by omega) (by omega)
  unfold BsE at hbs
  rw [show bspec 200 = (4, -2) by decide] at hbs
  have hrl : 2 ≤ r.length := by simp at hl; omega
  obtain ⟨M, hM⟩ : ∃ M, (200 :: r : List Int).length = M := ⟨_, rfl⟩
  have hMk : M - 1 = r.length := by rw [← hM]; simp
  rw [hM] at hc hl ⊢
  obtain ⟨A4, hb2, hb3, hcut4⟩ := Cut.ahead_l 24 5 Tryd.underlying24 size_u8 A M c 1 1 rfl .i64 (by omega)
  have hr4 : Rd u8 w A4 r := hcut4.drop hr hM hc
  have hbe := fun W (h : Ch No w W) => be16_calls A4 (c - 1) r W (hr4.keep0 h) hbt hrl
  rw [hq] at hbe
  rw [hMk] at hb2 hb3
  generalize c - 1 = c4 at hb2 hb3 hbe
  clear hcut4 hr4
  have hqr := beN_range 2 (r.take 2) (by rw [List.length_take]; omega) (hbt.take 2)
  rw [hq] at hqr
  have hq0 : 0 ≤ q := hqr.1
  have hq1 : q < 65536 := hqr.2
  obtain ⟨bk, o, rfl, c0⟩ := hr.at_ 0 (by simp)
  replace c0 : World.cell? _ ⟨bk, o, none⟩ = some (.int .u8 200) := c0
  have hM0 : (0 : Int) < M := by omega
  have hM1 : (1 : Int) < M := by omega
  have e0 : ((M : Int) == 0) = false := beq_eq_false_iff_ne.2 (by omega)
  have e1 : decide (M = 0) = false := decide_eq_false (by omega)
  have e2 : decide ((M : Int) < 4) = false := decide_eq_false (by omega)
  clear hM hr hc hl hqr hq hrl hMk
  try clear hbt
  try generalize r.length = k0 at hb2 hb3 hbe
  go_enter Tryd.func53, Tryd.ntmps53
  go_wp2_with fail
  refine (hbs _).mono ?_
  rintro e w1 ⟨z, t, rfl, hch1⟩
  go_wp2_with (first | ((with_reducible refine gate (.store 118 (.tmp _) _) rfl ?_); refine wp_store rfl rfl 118 _ _ rfl w1.heap.size 0 118 [.int .u8 0, .int .i8 0, .int .u8 0, .int .u8 0] (.agg #[.int .u8 4, .int .i8 (-2), .int .u8 z, .int .u8 t]) rfl rfl [.int .u8 4, .int .i8 (-2), .int .u8 z, .int .u8 t] rfl size_bs (by simp [Value.oneCell']) (Row.alloc w1 [.int .u8 0, .int .i8 0, .int .u8 0, .int .u8 0] 118) (by simp) ?_; intro w2 hrow2 hch2; have C2 : Ch No w w2 := (hch1.alloc _).freshg hch2 hch1.size; have d0 : w2.cell? ⟨w1.heap.size, 0, none⟩ = some (.int .u8 4) := hrow2.cell 0 _ rfl; have d1 : w2.cell? ⟨w1.heap.size, 1, none⟩ = some (.int .i8 (-2)) := hrow2.cell 1 _ rfl; have f0 := C2.cell0 c0) | go_quiet (fail))
  go_region_law (go_simp; go_at_call 30; refine (hbe _ (by repeat (first | exact C2 | apply Ch.drewN | apply Ch.drew))).mono ?_; rintro e w3 ⟨rfl, hch3⟩; have C3 : Ch No w w3 := Ch.no_no (show Ch No w _ from (by repeat (first | exact C2 | apply Ch.drewN | apply Ch.drew))) hch3)
  all_goals
    go_wp2
    refine bodyPost_ret (v := .tuple #[.int .u64 (4 + q), .int .u64 (0), .nilIface]) ?_ rfl ?_
    · simp [results, Tryd.results53, go_sem]
      try (simp [IntKind.wrap, IntKind.bits, IntKind.signed]; omega)
    · exact ⟨rfl, (by repeat (first | exact C3 | apply Ch.drewN | apply Ch.drew))⟩
set_option maxRecDepth 100000 in
set_option maxHeartbeats 1000000 in
theorem gs_201 (A : Option Addr) (c : Nat) (r : List Int) (q : Int) (w : World) (hr : Rd u8 w A (201 :: r)) (hc : (201 :: r : List Int).length ≤ c) (hbt : Byt r) (hl : 6 ≤ (201 :: r : List Int).length) (hq : beN (r.take 4) = q) :
    Calls Tryd.prog 53 #[.slice A (201 :: r : List Int).length c] w (GsOk (6 + q) (0) w) := by
  have hbs := fun W => getBsE 201 W (by omega) (by omega)
  unfold BsE at hbs
  rw [show bspec 201 = (6, -3) by decide] at hbs
  have hrl : 4 ≤ r.length := by simp at hl; omega
  obtain ⟨M, hM⟩ : ∃ M, (201 :: r : List Int).length = M := ⟨_, rfl⟩
  have hMk : M - 1 = r.length := by rw [← hM]; simp
  rw [hM] at hc hl ⊢
  obtain ⟨A4, hb2, hb3, hcut4⟩ := Cut.ahead_l 24 5 Tryd.underlying24 size_u8 A M c 1 1 rfl .i64 (by omega)
  have hr4 : Rd u8 w A4 r := hcut4.drop hr hM hc
  have hbe := fun W (h : Ch No w W) => be32_calls A4 (c - 1) r W (hr4.keep0 h) hbt hrl
  rw [hq] at hbe
  rw [hMk] at hb2 hb3
  generalize c - 1 = c4 at hb2 hb3 hbe
  clear hcut4 hr4
  have hqr := beN_range 4 (r.take 4) (by rw [List.length_take]; omega) (hbt.take 4)
  rw [hq] at hqr
  have hq0 : 0 ≤ q := hqr.1
  have hq1 : q < 4294967296 := hqr.2
  obtain ⟨bk, o, rfl, c0⟩ := hr.at_ 0 (by simp)
  replace c0 : World.cell? _ ⟨bk, o, none⟩ = some (.int .u8 201) := c0
  have hM0 : (0 : Int) < M := by omega
  have hM1 : (1 : Int) < M := by omega
  have e0 : ((M : Int) == 0) = false := beq_eq_false_iff_ne.2 (by omega)
  have e1 : decide (M = 0) = false := decide_eq_false (by omega)
  have e2 : decide ((M : Int) < 6) = false := decide_eq_false (by omega)
  clear hM hr hc hl hqr hq hrl hMk
  try clear hbt
  try generalize r.length = k0 at hb2 hb3 hbe
  go_enter Tryd.func53, Tryd.ntmps53
  go_wp2_with fail
  refine (hbs _).mono ?_
  rintro e w1 ⟨z, t, rfl, hch1⟩
  go_wp2_with (first | ((with_reducible refine gate (.store 118 (.tmp _) _) rfl ?_); refine wp_store rfl rfl 118 _ _ rfl w1.heap.size 0 118 [.int .u8 0, .int .i8 0, .int .u8 0, .int .u8 0] (.agg #[.int .u8 6, .int .i8 (-3), .int .u8 z, .int .u8 t]) rfl rfl [.int .u8 6, .int .i8 (-3), .int .u8 z, .int .u8 t] rfl size_bs (by simp [Value.oneCell']) (Row.alloc w1 [.int .u8 0, .int .i8 0, .int .u8 0, .int .u8 0] 118) (by simp) ?_; intro w2 hrow2 hch2; have C2 : Ch No w w2 := (hch1.alloc _).freshg hch2 hch1.size; have d0 : w2.cell? ⟨w1.heap.size, 0, none⟩ = some (.int .u8 6) := hrow2.cell 0 _ rfl; have d1 : w2.cell? ⟨w1.heap.size, 1, none⟩ = some (.int .i8 (-3)) := hrow2.cell 1 _ rfl; have f0 := C2.cell0 c0) | go_quiet (fail))
  go_region_law (go_simp; go_at_call 31; refine (hbe _ (by repeat (first | exact C2 | apply Ch.drewN | apply Ch.drew))).mono ?_; rintro e w3 ⟨rfl, hch3⟩; have C3 : Ch No w w3 := Ch.no_no (show Ch No w _ from (by repeat (first | exact C2 | apply Ch.drewN | apply Ch.drew))) hch3)
  all_goals
    go_wp2
    refine bodyPost_ret (v := .tuple #[.int .u64 (6 + q), .int .u64 (0), .nilIface]) ?_ rfl ?_
    · simp [results, Tryd.results53, go_sem]
      try (simp [IntKind.wrap, IntKind.bits, IntKind.signed]; omega)
    · exact ⟨rfl, (by repeat (first | exact C3 | apply Ch.drewN | apply Ch.drew))⟩
set_option maxRecDepth 100000 in
set_option maxHeartbeats 1000000 in
theorem gs_217 (A : Option Addr) (c : Nat) (r : List Int) (q : Int) (w : World) (hr : Rd u8 w A (217 :: r)) (hc : (217 :: r : List Int).length ≤ c) (hbt : Byt r) (hl : 2 ≤ (217 :: r : List Int).length) (hq : beN (r.take 1) = q) :
    Calls Tryd.prog 53 #[.slice A (217 :: r : List Int).length c] w (GsOk (2 + q) (0) w) := by
  have hbs := fun W => getBsE 217 W (by omega) (by omega)
  unfold BsE at hbs
  rw [show bspec 217 = (2, -1) by decide] at hbs
  have hrl : 1 ≤ r.length := by simp at hl; omega
  obtain ⟨M, hM⟩ : ∃ M, (217 :: r : List Int).length = M := ⟨_, rfl⟩
  have hMk : M - 1 = r.length := by rw [← hM]; simp
  rw [hM] at hc hl ⊢
  have hqr := beN_range 1 (r.take 1) (by rw [List.length_take]; omega) (hbt.take 1)
  rw [hq] at hqr
  have hq0 : 0 ≤ q := hqr.1
  have hq1 : q < 256 := hqr.2
  have hq2 : beN (r.take 1) = r[0] := by rw [beN_take r 0 (by omega)]; simp [beN]
  have c1 : World.cell? w ⟨0, 0, none⟩ = World.cell? w ⟨0, 0, none⟩ := rfl
  clear c1
  obtain ⟨bk0, o0, hA0, c1⟩ := hr.at_ 1 (by simp; omega)
  replace c1 : World.cell? _ ⟨bk0, o0 + 1, none⟩ = some (.int .u8 r[0]) := c1
  rw [← hq2, hq] at c1
  clear hq2
  obtain ⟨bk, o, rfl, c0⟩ := hr.at_ 0 (by simp)
  replace c0 : World.cell? _ ⟨bk, o, none⟩ = some (.int .u8 217) := c0
  injection hA0 with hA0
  injection hA0 with hA1 hA2
  subst hA1; subst hA2
  have hM0 : (0 : Int) < M := by omega
  have hM1 : (1 : Int) < M := by omega
  have e0 : ((M : Int) == 0) = false := beq_eq_false_iff_ne.2 (by omega)
  have e1 : decide (M = 0) = false := decide_eq_false (by omega)
  have e2 : decide ((M : Int) < 2) = false := decide_eq_false (by omega)
  clear hM hr hc hl hqr hq hrl hMk
  try clear hbt
  try generalize r.length = k0 at hb2 hb3 hbe
  go_enter Tryd.func53, Tryd.ntmps53
  go_wp2_with fail
  refine (hbs _).mono ?_
  rintro e w1 ⟨z, t, rfl, hch1⟩
  go_wp2_with (first | ((with_reducible refine gate (.store 118 (.tmp _) _) rfl ?_); refine wp_store rfl rfl 118 _ _ rfl w1.heap.size 0 118 [.int .u8 0, .int .i8 0, .int .u8 0, .int .u8 0] (.agg #[.int .u8 2, .int .i8 (-1), .int .u8 z, .int .u8 t]) rfl rfl [.int .u8 2, .int .i8 (-1), .int .u8 z, .int .u8 t] rfl size_bs (by simp [Value.oneCell']) (Row.alloc w1 [.int .u8 0, .int .i8 0, .int .u8 0, .int .u8 0] 118) (by simp) ?_; intro w2 hrow2 hch2; have C2 : Ch No w w2 := (hch1.alloc _).freshg hch2 hch1.size; have d0 : w2.cell? ⟨w1.heap.size, 0, none⟩ = some (.int .u8 2) := hrow2.cell 0 _ rfl; have d1 : w2.cell? ⟨w1.heap.size, 1, none⟩ = some (.int .i8 (-1)) := hrow2.cell 1 _ rfl; have f0 := C2.cell0 c0; have f1 := C2.cell0 c1) | go_quiet (fail))
  go_ret3
  exact ⟨rfl, (by repeat (first | exact C2 | apply Ch.drewN | apply Ch.drew))⟩
set_option maxRecDepth 100000 in
set_option maxHeartbeats 1000000 in
theorem gs_218 (A : Option Addr) (c : Nat) (r : List Int) (q : Int) (w : World) (hr : Rd u8 w A (218 :: r)) (hc : (218 :: r : List Int).length ≤ c) (hbt : Byt r) (hl : 3 ≤ (218 :: r : List Int).length) (hq : beN (r.take 2) = q) :
    Calls Tryd.prog 53 #[.slice A (218 :: r : List Int).length c] w (GsOk (3 + q) (0) w) := by
  have hbs := fun W => getBsE 218 W (by omega) (by omega)
  unfold BsE at hbs
  rw [show bspec 218 = (3, -2) by decide] at hbs
  have hrl : 2 ≤ r.length := by simp at hl; omega
  obtain ⟨M, hM⟩ : ∃ M, (218 :: r : List Int).length = M := ⟨_, rfl⟩
  have hMk : M - 1 = r.length := by rw [← hM]; simp
  rw [hM] at hc hl ⊢
  obtain ⟨A4, hb2, hb3, hcut4⟩ := Cut.ahead_l 24 5 Tryd.underlying24 size_u8 A M c 1 1 rfl .i64 (by omega)
  have hr4 : Rd u8 w A4 r := hcut4.drop hr hM hc
  have hbe := fun W (h : Ch No w W) => be16_calls A4 (c - 1) r W (hr4.keep0 h) hbt hrl
  rw [hq] at hbe
  rw [hMk] at hb2 hb3
  generalize c - 1 = c4 at hb2 hb3 hbe
  clear hcut4 hr4
  have hqr := beN_range 2 (r.take 2) (by rw [List.length_take]; omega) (hbt.take 2)
  rw [hq] at hqr
  have hq0 : 0 ≤ q := hqr.1
  have hq1 : q < 65536 := hqr.2
  obtain ⟨bk, o, rfl, c0⟩ := hr.at_ 0 (by simp)
  replace c0 : World.cell? _ ⟨bk, o, none⟩ = some (.int .u8 218) := c0
  have hM0 : (0 : Int) < M := by omega
  have hM1 : (1 : Int) < M := by omega
  have e0 : ((M : Int) == 0) = false := beq_eq_false_iff_ne.2 (by omega)
  have e1 : decide (M = 0) = false := decide_eq_false (by omega)
  have e2 : decide ((M : Int) < 3) = false := decide_eq_false (by omega)
  clear hM hr hc hl hqr hq hrl hMk
  try clear hbt
  try generalize r.length = k0 at hb2 hb3 hbe
  go_enter Tryd.func53, Tryd.ntmps53
  go_wp2_with fail
  refine (hbs _).mono ?_
  rintro e w1 ⟨z, t, rfl, hch1⟩
  go_wp2_with (first | ((with_reducible refine gate (.store 118 (.tmp _) _) rfl ?_); refine wp_store rfl rfl 118 _ _ rfl w1.heap.size 0 118 [.int .u8 0, .int .i8 0, .int .u8 0, .int .u8 0] (.agg #[.int .u8 3, .int .i8 (-2), .int .u8 z, .int .u8 t]) rfl rfl [.int .u8 3, .int .i8 (-2), .int .u8 z, .int .u8 t] rfl size_bs (by simp [Value.oneCell']) (Row.alloc w1 [.int .u8 0, .int .i8 0, .int .u8 0, .int .u8 0] 118) (by simp) ?_; intro w2 hrow2 hch2; have C2 : Ch No w w2 := (hch1.alloc _).freshg hch2 hch1.size; have d0 : w2.cell? ⟨w1.heap.size, 0, none⟩ = some (.int .u8 3) := hrow2.cell 0 _ rfl; have d1 : w2.cell? ⟨w1.heap.size, 1, none⟩ = some (.int .i8 (-2)) := hrow2.cell 1 _ rfl; have f0 := C2.cell0 c0) | go_quiet (fail))
  go_region_law (go_simp; go_at_call 30; refine (hbe _ (by repeat (first | exact C2 | apply Ch.drewN | apply Ch.drew))).mono ?_; rintro e w3 ⟨rfl, hch3⟩; have C3 : Ch No w w3 := Ch.no_no (show Ch No w _ from (by repeat (first | exact C2 | apply Ch.drewN | apply Ch.drew))) hch3)
  all_goals
    go_wp2
    refine bodyPost_ret (v := .tuple #[.int .u64 (3 + q), .int .u64 (0), .nilIface]) ?_ rfl ?_
    · simp [results, Tryd.results53, go_sem]
      try (simp [IntKind.wrap, IntKind.bits, IntKind.signed]; omega)
    · exact ⟨rfl, (by repeat (first | exact C3 | apply Ch.drewN | apply Ch.drew))⟩
set_option maxRecDepth 100000 in
set_option maxHeartbeats 1000000 in
theorem gs_219 (A : Option Addr) (c : Nat) (r : List Int) (q : Int) (w : World) (hr : Rd u8 w A (219 :: r)) (hc : (219 :: r : List Int).length ≤ c) (hbt : Byt r) (hl : 5 ≤ (219 :: r : List Int).length) (hq : beN (r.take 4) = q) :
    Calls Tryd.prog 53 #[.slice A (219 :: r : List Int).length c] w (GsOk (5 + q) (0) w) := by
  have hbs := fun W => getBsE 219 W (by omega) (by omega)
  unfold BsE at hbs
  rw [show bspec 219 = (5, -3) by decide] at hbs
  have hrl : 4 ≤ r.length := by simp at hl; omega
  obtain ⟨M, hM⟩ : ∃ M, (219 :: r : List Int).length = M := ⟨_, rfl⟩
  have hMk : M - 1 = r.length := by rw [← hM]; simp
  rw [hM] at hc hl ⊢
  obtain ⟨A4, hb2, hb3, hcut4⟩ := Cut.ahead_l 24 5 Tryd.underlying24 size_u8 A M c 1 1 rfl .i64 (by omega)
  have hr4 : Rd u8 w A4 r := hcut4.drop hr hM hc
  have hbe := fun W (h : Ch No w W) => be32_calls A4 (c - 1) r W (hr4.keep0 h) hbt hrl
  rw [hq] at hbe
  rw [hMk] at hb2 hb3
  generalize c - 1 = c4 at hb2 hb3 hbe
  clear hcut4 hr4
  have hqr := beN_range 4 (r.take 4) (by rw [List.length_take]; omega) (hbt.take 4)
  rw [hq] at hqr
  have hq0 : 0 ≤ q := hqr.1
  have hq1 : q < 4294967296 := hqr.2
  obtain ⟨bk, o, rfl, c0⟩ := hr.at_ 0 (by simp)
  replace c0 : World.cell? _ ⟨bk, o, none⟩ = some (.int .u8 219) := c0
  have hM0 : (0 : Int) < M := by omega
  have hM1 : (1 : Int) < M := by omega
  have e0 : ((M : Int) == 0) = false := beq_eq_false_iff_ne.2 (by omega)
  have e1 : decide (M = 0) = false := decide_eq_false (by omega)
  have e2 : decide ((M : Int) < 5) = false := decide_eq_false (by omega)
  clear hM hr hc hl hqr hq hrl hMk
  try clear hbt
  try generalize r.length = k0 at hb2 hb3 hbe
  go_enter Tryd.func53, Tryd.ntmps53
  go_wp2_with fail
  refine (hbs _).mono ?_
  rintro e w1 ⟨z, t, rfl, hch1⟩
  go_wp2_with (first | ((with_reducible refine gate (.store 118 (.tmp _) _) rfl ?_); refine wp_store rfl rfl 118 _ _ rfl w1.heap.size 0 118 [.int .u8 0, .int .i8 0, .int .u8 0, .int .u8 0] (.agg #[.int .u8 5, .int .i8 (-3), .int .u8 z, .int .u8 t]) rfl rfl [.int .u8 5, .int .i8 (-3), .int .u8 z, .int .u8 t] rfl size_bs (by simp [Value.oneCell']) (Row.alloc w1 [.int .u8 0, .int .i8 0, .int .u8 0, .int .u8 0] 118) (by simp) ?_; intro w2 hrow2 hch2; have C2 : Ch No w w2 := (hch1.alloc _).freshg hch2 hch1.size; have d0 : w2.cell? ⟨w1.heap.size, 0, none⟩ = some (.int .u8 5) := hrow2.cell 0 _ rfl; have d1 : w2.cell? ⟨w1.heap.size, 1, none⟩ = some (.int .i8 (-3)) := hrow2.cell 1 _ rfl; have f0 := C2.cell0 c0) | go_quiet (fail))
  go_region_law (go_simp; go_at_call 31; refine (hbe _ (by repeat (first | exact C2 | apply Ch.drewN | apply Ch.drew))).mono ?_; rintro e w3 ⟨rfl, hch3⟩; have C3 : Ch No w w3 := Ch.no_no (show Ch No w _ from (by repeat (first | exact C2 | apply Ch.drewN | apply Ch.drew))) hch3)
  all_goals
    go_wp2
    refine bodyPost_ret (v := .tuple #[.int .u64 (5 + q), .int .u64 (0), .nilIface]) ?_ rfl ?_
    · simp [results, Tryd.results53, go_sem]
      try (simp [IntKind.wrap, IntKind.bits, IntKind.signed]; omega)
    · exact ⟨rfl, (by repeat (first | exact C3 | apply Ch.drewN | apply Ch.drew))⟩
set_option maxRecDepth 100000 in
set_option maxHeartbeats 1000000 in
theorem gs_220 (A : Option Addr) (c : Nat) (r : List Int) (q : Int) (w : World) (hr : Rd u8 w A (220 :: r)) (hc : (220 :: r : List Int).length ≤ c) (hbt : Byt r) (hl : 3 ≤ (220 :: r : List Int).length) (hq : beN (r.take 2) = q) :
    Calls Tryd.prog 53 #[.slice A (220 :: r : List Int).length c] w (GsOk (3) (q) w) := by
  have hbs := fun W => getBsE 220 W (by omega) (by omega)
  unfold BsE at hbs
  rw [show bspec 220 = (3, -6) by decide] at hbs
  have hrl : 2 ≤ r.length := by simp at hl; omega
  obtain ⟨M, hM⟩ : ∃ M, (220 :: r : List Int).length = M := ⟨_, rfl⟩
  have hMk : M - 1 = r.length := by rw [← hM]; simp
  rw [hM] at hc hl ⊢
  obtain ⟨A4, hb2, hb3, hcut4⟩ := Cut.ahead_l 24 5 Tryd.underlying24 size_u8 A M c 1 1 rfl .i64 (by omega)
  have hr4 : Rd u8 w A4 r := hcut4.drop hr hM hc
  have hbe := fun W (h : Ch No w W) => be16_calls A4 (c - 1) r W (hr4.keep0 h) hbt hrl
  rw [hq] at hbe
  rw [hMk] at hb2 hb3
  generalize c - 1 = c4 at hb2 hb3 hbe
  clear hcut4 hr4
  have hqr := beN_range 2 (r.take 2) (by rw [List.length_take]; omega) (hbt.take 2)
  rw [hq] at hqr
  have hq0 : 0 ≤ q := hqr.1
  have hq1 : q < 65536 := hqr.2
  obtain ⟨bk, o, rfl, c0⟩ := hr.at_ 0 (by simp)
  replace c0 : World.cell? _ ⟨bk, o, none⟩ = some (.int .u8 220) := c0
  have hM0 : (0 : Int) < M := by omega
  have hM1 : (1 : Int) < M := by omega
  have e0 : ((M : Int) == 0) = false := beq_eq_false_iff_ne.2 (by omega)
  have e1 : decide (M = 0) = false := decide_eq_false (by omega)
  have e2 : decide ((M : Int) < 3) = false := decide_eq_false (by omega)
  clear hM hr hc hl hqr hq hrl hMk
  try clear hbt
  try generalize r.length = k0 at hb2 hb3 hbe
  go_enter Tryd.func53, Tryd.ntmps53
  go_wp2_with fail
  refine (hbs _).mono ?_
  rintro e w1 ⟨z, t, rfl, hch1⟩
  go_wp2_with (first | ((with_reducible refine gate (.store 118 (.tmp _) _) rfl ?_); refine wp_store rfl rfl 118 _ _ rfl w1.heap.size 0 118 [.int .u8 0, .int .i8 0, .int .u8 0, .int .u8 0] (.agg #[.int .u8 3, .int .i8 (-6), .int .u8 z, .int .u8 t]) rfl rfl [.int .u8 3, .int .i8 (-6), .int .u8 z, .int .u8 t] rfl size_bs (by simp [Value.oneCell']) (Row.alloc w1 [.int .u8 0, .int .i8 0, .int .u8 0, .int .u8 0] 118) (by simp) ?_; intro w2 hrow2 hch2; have C2 : Ch No w w2 := (hch1.alloc _).freshg hch2 hch1.size; have d0 : w2.cell? ⟨w1.heap.size, 0, none⟩ = some (.int .u8 3) := hrow2.cell 0 _ rfl; have d1 : w2.cell? ⟨w1.heap.size, 1, none⟩ = some (.int .i8 (-6)) := hrow2.cell 1 _ rfl; have f0 := C2.cell0 c0) | go_quiet (fail))
  go_region_law (go_simp; go_at_call 30; refine (hbe _ (by repeat (first | exact C2 | apply Ch.drewN | apply Ch.drew))).mono ?_; rintro e w3 ⟨rfl, hch3⟩; have C3 : Ch No w w3 := Ch.no_no (show Ch No w _ from (by repeat (first | exact C2 | apply Ch.drewN | apply Ch.drew))) hch3)
  all_goals
    go_wp2
    refine bodyPost_ret (v := .tuple #[.int .u64 (3), .int .u64 (q), .nilIface]) ?_ rfl ?_
    · simp [results, Tryd.results53, go_sem]
      try (simp [IntKind.wrap, IntKind.bits, IntKind.signed]; omega)
    · exact ⟨rfl, (by repeat (first | exact C3 | apply Ch.drewN | apply Ch.drew))⟩
set_option maxRecDepth 100000 in
set_option maxHeartbeats 1000000 in
theorem gs_221 (A : Option Addr) (c : Nat) (r : List Int) (q : Int) (w : World) (hr : Rd u8 w A (221 :: r)) (hc : (221 :: r : List Int).length ≤ c) (hbt : Byt r) (hl : 5 ≤ (221 :: r : List Int).length) (hq : beN (r.take 4) = q) :
    Calls Tryd.prog 53 #[.slice A (221 :: r : List Int).length c] w (GsOk (5) (q) w) := by
  have hbs := fun W => getBsE 221 W (by omega) (by omega)
  unfold BsE at hbs
  rw [show bspec 221 = (5, -7) by decide] at hbs
  have hrl : 4 ≤ r.length := by simp at hl; omega
  obtain ⟨M, hM⟩ : ∃ M, (221 :: r : List Int).length = M := ⟨_, rfl⟩
  have hMk : M - 1 = r.length := by rw [← hM]; simp
  rw [hM] at hc hl ⊢
  obtain ⟨A4, hb2, hb3, hcut4⟩ := Cut.ahead_l 24 5 Tryd.underlying24 size_u8 A M c 1 1 rfl .i64 (by omega)
  have hr4 : Rd u8 w A4 r := hcut4.drop hr hM hc
  have hbe := fun W (h : Ch No w W) => be32_calls A4 (c - 1) r W (hr4.keep0 h) hbt hrl
  rw [hq] at hbe
  rw [hMk] at hb2 hb3
  generalize c - 1 = c4 at hb2 hb3 hbe
  clear hcut4 hr4
  have hqr := beN_range 4 (r.take 4) (by rw [List.length_take]; omega) (hbt.take 4)
  rw [hq] at hqr
  have hq0 : 0 ≤ q := hqr.1
  have hq1 : q < 4294967296 := hqr.2
  obtain ⟨bk, o, rfl, c0⟩ := hr.at_ 0 (by simp)
  replace c0 : World.cell? _ ⟨bk, o, none⟩ = some (.int .u8 221) := c0
  have hM0 : (0 : Int) < M := by omega
  have hM1 : (1 : Int) < M := by omega
  have e0 : ((M : Int) == 0) = false := beq_eq_false_iff_ne.2 (by omega)
  have e1 : decide (M = 0) = false := decide_eq_false (by omega)
  have e2 : decide ((M : Int) < 5) = false := decide_eq_false (by omega)
  clear hM hr hc hl hqr hq hrl hMk
  try clear hbt
  try generalize r.length = k0 at hb2 hb3 hbe
  go_enter Tryd.func53, Tryd.ntmps53
  go_wp2_with fail
  refine (hbs _).mono ?_
  rintro e w1 ⟨z, t, rfl, hch1⟩
  go_wp2_with (first | ((with_reducible refine gate (.store 118 (.tmp _) _) rfl ?_); refine wp_store rfl rfl 118 _ _ rfl w1.heap.size 0 118 [.int .u8 0, .int .i8 0, .int .u8 0, .int .u8 0] (.agg #[.int .u8 5, .int .i8 (-7), .int .u8 z, .int .u8 t]) rfl rfl [.int .u8 5, .int .i8 (-7), .int .u8 z, .int .u8 t] rfl size_bs (by simp [Value.oneCell']) (Row.alloc w1 [.int .u8 0, .int .i8 0, .int .u8 0, .int .u8 0] 118) (by simp) ?_; intro w2 hrow2 hch2; have C2 : Ch No w w2 := (hch1.alloc _).freshg hch2 hch1.size; have d0 : w2.cell? ⟨w1.heap.size, 0, none⟩ = some (.int .u8 5) := hrow2.cell 0 _ rfl; have d1 : w2.cell? ⟨w1.heap.size, 1, none⟩ = some (.int .i8 (-7)) := hrow2.cell 1 _ rfl; have f0 := C2.cell0 c0) | go_quiet (fail))
  go_region_law (go_simp; go_at_call 31; refine (hbe _ (by repeat (first | exact C2 | apply Ch.drewN | apply Ch.drew))).mono ?_; rintro e w3 ⟨rfl, hch3⟩; have C3 : Ch No w w3 := Ch.no_no (show Ch No w _ from (by repeat (first | exact C2 | apply Ch.drewN | apply Ch.drew))) hch3)
  all_goals
    go_wp2
    refine bodyPost_ret (v := .tuple #[.int .u64 (5), .int .u64 (q), .nilIface]) ?_ rfl ?_
    · simp [results, Tryd.results53, go_sem]
      try (simp [IntKind.wrap, IntKind.bits, IntKind.signed]; omega)
    · exact ⟨rfl, (by repeat (first | exact C3 | apply Ch.drewN | apply Ch.drew))⟩
set_option maxRecDepth 100000 in
set_option maxHeartbeats 1000000 in
theorem gs_222 (A : Option Addr) (c : Nat) (r : List Int) (q : Int) (w : World) (hr : Rd u8 w A (222 :: r)) (hc : (222 :: r : List Int).length ≤ c) (hbt : Byt r) (hl : 3 ≤ (222 :: r : List Int).length) (hq : beN (r.take 2) = q) :
    Calls Tryd.prog 53 #[.slice A (222 :: r : List Int).length c] w (GsOk (3) (2 * q) w) := by
  have hbs := fun W => getBsE 222 W (by omega) (by omega)
  unfold BsE at hbs
  rw [show bspec 222 = (3, -4) by decide] at hbs
  have hrl : 2 ≤ r.length := by simp at hl; omega
  obtain ⟨M, hM⟩ : ∃ M, (222 :: r : List Int).length = M := ⟨_, rfl⟩
  have hMk : M - 1 = r.length := by rw [← hM]; simp
  rw [hM] at hc hl ⊢
  obtain ⟨A4, hb2, hb3, hcut4⟩ := Cut.ahead_l 24 5 Tryd.underlying24 size_u8 A M c 1 1 rfl .i64 (by omega)
  have hr4 : Rd u8 w A4 r := hcut4.drop hr hM hc
  have hbe := fun W (h : Ch No w W) => be16_calls A4 (c - 1) r W (hr4.keep0 h) hbt hrl
  rw [hq] at hbe
  rw [hMk] at hb2 hb3
  generalize c - 1 = c4 at hb2 hb3 hbe
  clear hcut4 hr4
  have hqr := beN_range 2 (r.take 2) (by rw [List.length_take]; omega) (hbt.take 2)
  rw [hq] at hqr
  have hq0 : 0 ≤ q := hqr.1
  have hq1 : q < 65536 := hqr.2
  obtain ⟨bk, o, rfl, c0⟩ := hr.at_ 0 (by simp)
  replace c0 : World.cell? _ ⟨bk, o, none⟩ = some (.int .u8 222) := c0
  have hM0 : (0 : Int) < M := by omega
  have hM1 : (1 : Int) < M := by omega
  have e0 : ((M : Int) == 0) = false := beq_eq_false_iff_ne.2 (by omega)
  have e1 : decide (M = 0) = false := decide_eq_false (by omega)
  have e2 : decide ((M : Int) < 3) = false := decide_eq_false (by omega)
  clear hM hr hc hl hqr hq hrl hMk
  try clear hbt
  try generalize r.length = k0 at hb2 hb3 hbe
  go_enter Tryd.func53, Tryd.ntmps53
  go_wp2_with fail
  refine (hbs _).mono ?_
  rintro e w1 ⟨z, t, rfl, hch1⟩
  go_wp2_with (first | ((with_reducible refine gate (.store 118 (.tmp _) _) rfl ?_); refine wp_store rfl rfl 118 _ _ rfl w1.heap.size 0 118 [.int .u8 0, .int .i8 0, .int .u8 0, .int .u8 0] (.agg #[.int .u8 3, .int .i8 (-4), .int .u8 z, .int .u8 t]) rfl rfl [.int .u8 3, .int .i8 (-4), .int .u8 z, .int .u8 t] rfl size_bs (by simp [Value.oneCell']) (Row.alloc w1 [.int .u8 0, .int .i8 0, .int .u8 0, .int .u8 0] 118) (by simp) ?_; intro w2 hrow2 hch2; have C2 : Ch No w w2 := (hch1.alloc _).freshg hch2 hch1.size; have d0 : w2.cell? ⟨w1.heap.size, 0, none⟩ = some (.int .u8 3) := hrow2.cell 0 _ rfl; have d1 : w2.cell? ⟨w1.heap.size, 1, none⟩ = some (.int .i8 (-4)) := hrow2.cell 1 _ rfl; have f0 := C2.cell0 c0) | go_quiet (fail))
  go_region_law (go_simp; go_at_call 30; refine (hbe _ (by repeat (first | exact C2 | apply Ch.drewN | apply Ch.drew))).mono ?_; rintro e w3 ⟨rfl, hch3⟩; have C3 : Ch No w w3 := Ch.no_no (show Ch No w _ from (by repeat (first | exact C2 | apply Ch.drewN | apply Ch.drew))) hch3)
  all_goals
    go_wp2
    refine bodyPost_ret (v := .tuple #[.int .u64 (3), .int .u64 (2 * q), .nilIface]) ?_ rfl ?_
    · simp [results, Tryd.results53, go_sem]
      try (simp [IntKind.wrap, IntKind.bits, IntKind.signed]; omega)
    · exact ⟨rfl, (by repeat (first | exact C3 | apply Ch.drewN | apply Ch.drew))⟩
set_option maxRecDepth 100000 in
set_option maxHeartbeats 1000000 in
theorem gs_223 (A : Option Addr) (c : Nat) (r : List Int) (q : Int) (w : World) (hr : Rd u8 w A (223 :: r)) (hc : (223 :: r : List Int).length ≤ c) (hbt : Byt r) (hl : 5 ≤ (223 :: r : List Int).length) (hq : beN (r.take 4) = q) :
    Calls Tryd.prog 53 #[.slice A (223 :: r : List Int).length c] w (GsOk (5) (2 * q) w) := by
  have hbs := fun W => getBsE 223 W (by omega) (by omega)
  unfold BsE at hbs
  rw [show bspec 223 = (5, -5) by decide] at hbs
  have hrl : 4 ≤ r.length := by simp at hl; omega
  obtain ⟨M, hM⟩ : ∃ M, (223 :: r : List Int).length = M := ⟨_, rfl⟩
  have hMk : M - 1 = r.length := by rw [← hM]; simp
  rw [hM] at hc hl ⊢
  obtain ⟨A4, hb2, hb3, hcut4⟩ := Cut.ahead_l 24 5 Tryd.underlying24 size_u8 A M c 1 1 rfl .i64 (by omega)
  have hr4 : Rd u8 w A4 r := hcut4.drop hr hM hc
  have hbe := fun W (h : Ch No w W) => be32_calls A4 (c - 1) r W (hr4.keep0 h) hbt hrl
  rw [hq] at hbe
  rw [hMk] at hb2 hb3
  generalize c - 1 = c4 at hb2 hb3 hbe
  clear hcut4 hr4
  have hqr := beN_range 4 (r.take 4) (by rw [List.length_take]; omega) (hbt.take 4)
  rw [hq] at hqr
  have hq0 : 0 ≤ q := hqr.1
  have hq1 : q < 4294967296 := hqr.2
  obtain ⟨bk, o, rfl, c0⟩ := hr.at_ 0 (by simp)
  replace c0 : World.cell? _ ⟨bk, o, none⟩ = some (.int .u8 223) := c0
  have hM0 : (0 : Int) < M := by omega
  have hM1 : (1 : Int) < M := by omega
  have e0 : ((M : Int) == 0) = false := beq_eq_false_iff_ne.2 (by omega)
  have e1 : decide (M = 0) = false := decide_eq_false (by omega)
  have e2 : decide ((M : Int) < 5) = false := decide_eq_false (by omega)
  clear hM hr hc hl hqr hq hrl hMk
  try clear hbt
  try generalize r.length = k0 at hb2 hb3 hbe
  go_enter Tryd.func53, Tryd.ntmps53
  go_wp2_with fail
  refine (hbs _).mono ?_
  rintro e w1 ⟨z, t, rfl, hch1⟩
  go_wp2_with (first | ((with_reducible refine gate (.store 118 (.tmp _) _) rfl ?_); refine wp_store rfl rfl 118 _ _ rfl w1.heap.size 0 118 [.int .u8 0, .int .i8 0, .int .u8 0, .int .u8 0] (.agg #[.int .u8 5, .int .i8 (-5), .int .u8 z, .int .u8 t]) rfl rfl [.int .u8 5, .int .i8 (-5), .int .u8 z, .int .u8 t] rfl size_bs (by simp [Value.oneCell']) (Row.alloc w1 [.int .u8 0, .int .i8 0, .int .u8 0, .int .u8 0] 118) (by simp) ?_; intro w2 hrow2 hch2; have C2 : Ch No w w2 := (hch1.alloc _).freshg hch2 hch1.size; have d0 : w2.cell? ⟨w1.heap.size, 0, none⟩ = some (.int .u8 5) := hrow2.cell 0 _ rfl; have d1 : w2.cell? ⟨w1.heap.size, 1, none⟩ = some (.int .i8 (-5)) := hrow2.cell 1 _ rfl; have f0 := C2.cell0 c0) | go_quiet (fail))
  go_region_law (go_simp; go_at_call 31; refine (hbe _ (by repeat (first | exact C2 | apply Ch.drewN | apply Ch.drew))).mono ?_; rintro e w3 ⟨rfl, hch3⟩; have C3 : Ch No w w3 := Ch.no_no (show Ch No w _ from (by repeat (first | exact C2 | apply Ch.drewN | apply Ch.drew))) hch3)
  all_goals
    go_wp2
    refine bodyPost_ret (v := .tuple #[.int .u64 (5), .int .u64 (2 * q), .nilIface]) ?_ rfl ?_
    · simp [results, Tryd.results53, go_sem]
      try (simp [IntKind.wrap, IntKind.bits, IntKind.signed]; omega)
    · exact ⟨rfl, (by repeat (first | exact C3 | apply Ch.drewN | apply Ch.drew))⟩

end Go.Proofs.YtooifcdkpddlmaaDoor
