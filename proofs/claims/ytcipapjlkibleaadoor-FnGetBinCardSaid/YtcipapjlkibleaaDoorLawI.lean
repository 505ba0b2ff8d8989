/- The laws' walks of MessagePack's readers of integers. No condition. -/
import Derived.Test.YtcipapjlkibleaaDoorImplI
import Derived.Test.YtcipapjlkibleaaDoorFitsO
namespace Go.Proofs.YtcipapjlkibleaaDoor
set_option linter.unusedVariables false
set_option linter.unusedSimpArgs false
open Go.RowKit

set_option maxRecDepth 100000 in
theorem zz_calls (v0 v1 v2 v3 v4 : Value) (f : Int) (sh : Bool) (A : Option Addr) (m cap : Nat) (cut : Int) (w : World) (b : Bool) (h : decide ((2147483647 : Int) < m) = !b) :
    Calls Tryd.prog 11 #[.agg #[v0, v1, v2, v3, v4, .int .u64 f, .bool sh, .slice A m cap, .int .i64 cut]] w (BoTo b w) := by
  have hB := Row.alloc w [v0, v1, v2, v3, v4, .int .u64 f, .bool sh, .slice A m cap, .int .i64 cut] 37
  have q0 := hB.cell 0 _ rfl
  have q1 := hB.cell 1 _ rfl
  have q2 := hB.cell 2 _ rfl
  have q3 := hB.cell 3 _ rfl
  have q4 := hB.cell 4 _ rfl
  have q5 := hB.cell 5 _ rfl
  have q6 := hB.cell 6 _ rfl
  have q7 := hB.cell 7 _ rfl
  have q8 := hB.cell 8 _ rfl

  cases b
  · replace h : decide ((2147483647 : Int) < m) = true := h
    go_enter Tryd.func11, Tryd.ntmps11
    go_wp2_with fail
    go_ret
    exact ⟨rfl, (Ch.refl No w).alloc _⟩
  · replace h : decide ((2147483647 : Int) < m) = false := h
    go_enter Tryd.func11, Tryd.ntmps11
    go_wp2_with fail
    go_ret
    exact ⟨rfl, (Ch.refl No w).alloc _⟩
theorem awake_GetInt (w : World) : Calls Tryd.prog 14 #[.slice (some ⟨w.heap.size, 0, none⟩) 1 1] (w.alloc (.cells #[.int .u8 5] 5)) (GetIntOk 5 [] (w.alloc (.cells #[.int .u8 5] 5))) := by
  have h := readI_fix (some ⟨w.heap.size, 0, none⟩) 1 5 [] (w.alloc (.cells #[.int .u8 5] 5)) (Ow.lit 5 u8 w [5] (by simp [maxLen])).rd (by simp) (by omega) (by omega)
  exact GetInt_ok _ 5 [] _ (by simp) h
set_option maxRecDepth 100000 in
set_option maxHeartbeats 4000000 in
theorem lawGetInt_yes (t : Pk) (n z : Int) (v0 v2 v3 v4 : Value) (f : Int) (sh : Bool) (A : Option Addr) (l : List Int) (cap : Nat) (cut : Int) (w : World) (hs : Sh w) (ht : TrP w t [v0, .int .u64 n, v2, v3, v4]) (hf0 : 0 ≤ f) (hf1 : f < 18446744073709551616) (hr : Rd u8 w A l) (hle : l.length ≤ cap)
    (hC : ∀ (d : List Int) (k : Nat) (A : Option Addr) (c : Nat) (W : World), FitP t 6 → PutD t d → (k < d.length ∨ d = []) → Rd u8 W A (d.take k) → (d.take k).length ≤ c → Sh W → Calls Tryd.prog 14 #[.slice A (d.take k).length c] W (GetIntNo W))
    (hG : ∀ (d : List Int) (A : Option Addr) (c : Nat) (W : World), FitP t 6 → PutD t d → l.length ≤ 100 → Rd u8 W A (d ++ l) → (d ++ l).length ≤ c → Sh W → Calls Tryd.prog 14 #[.slice A (d ++ l).length c] W (GetIntOk z l W))
    (hF : ∀ W : World, Calls Tryd.prog 15 #[.agg #[v0, .int .u64 n, v2, v3, v4], .int .i64 64] W (BoTo true W)) (hz : IntKind.i64.wrap n = z) :
    Calls Tryd.prog 5 #[.agg #[v0, .int .u64 n, v2, v3, v4, .int .u64 f, .bool sh, .slice A l.length cap, .int .i64 cut]] w fun e w' => e = .returned (.bool true) ∧ Ch No w w' := by
  have hB := Row.alloc w [v0, .int .u64 n, v2, v3, v4, .int .u64 f, .bool sh, .slice A l.length cap, .int .i64 cut] 37
  have q0 := hB.cell 0 _ rfl
  have q1 := hB.cell 1 _ rfl
  have q2 := hB.cell 2 _ rfl
  have q3 := hB.cell 3 _ rfl
  have q4 := hB.cell 4 _ rfl
  have q5 := hB.cell 5 _ rfl
  have q6 := hB.cell 6 _ rfl
  have q7 := hB.cell 7 _ rfl
  have q8 := hB.cell 8 _ rfl
  have C1 : Ch No w (w.alloc (.cells #[v0, .int .u64 n, v2, v3, v4, .int .u64 f, .bool sh, .slice A l.length cap, .int .i64 cut] 37)) := (Ch.refl No w).alloc _
  have HC := hid hC
  have HG := hid hG
  have HF := hid hF
  clear hC hG hF
  have HZ := hid hz
  clear hz
  by_cases hbig : 2147483647 < l.length
  · have hzz := fun W => zz_calls v0 (.int .u64 n) v2 v3 v4 f sh A l.length cap cut W false (by show _ = true; exact decide_eq_true (by omega))
    go_enter Tryd.func5, Tryd.ntmps5
    go_wp2_with fail
    refine (hzz _).mono ?_
    rintro e w1 ⟨rfl, hch1⟩
    go_wp2_with fail
    go_ret
    exact ⟨rfl, C1.no_no hch1⟩
  have hzz := fun W => zz_calls v0 (.int .u64 n) v2 v3 v4 f sh A l.length cap cut W true (by show _ = false; exact decide_eq_false (by omega))
  go_enter Tryd.func5, Tryd.ntmps5
  go_wp2_with fail
  refine (hzz _).mono ?_
  rintro e w1 ⟨rfl, hch1⟩
  have C2 := C1.no_no hch1
  have hB1 := hB.keep0 hch1
  clear hzz
  go_wp2_with fail
  refine (awake_GetInt w1).mono ?_
  rintro e w2 ⟨va, rfl, _, hch2⟩
  have C3 := (C2.alloc (.cells #[.int .u8 5] 5)).no_no hch2
  have hB2 := (hB1.keep0 ((Ch.refl No w1).alloc (.cells #[.int .u8 5] 5))).keep0 hch2
  have r0 := hB2.cell 0 _ rfl
  have r1 := hB2.cell 1 _ rfl
  have r2 := hB2.cell 2 _ rfl
  have r3 := hB2.cell 3 _ rfl
  have r4 := hB2.cell 4 _ rfl
  have r5 := hB2.cell 5 _ rfl
  have r6 := hB2.cell 6 _ rfl
  have r7 := hB2.cell 7 _ rfl
  have r8 := hB2.cell 8 _ rfl
  go_wp2_with fail
  refine (data_calls t v0 (.int .u64 n) v2 v3 v4 f sh A l cap cut w w2 C3 ht hf0 hf1 (hr.keep0 C3)).mono ?_
  rintro e w3 ⟨hch3, hdt⟩
  have C4 := C3.no_no hch3
  have hB3 := hB2.keep0 hch3
  have hs3 := hs.keep0 C4
  have s0 := hB3.cell 0 _ rfl
  have s1 := hB3.cell 1 _ rfl
  have s2 := hB3.cell 2 _ rfl
  have s3 := hB3.cell 3 _ rfl
  have s4 := hB3.cell 4 _ rfl
  have s5 := hB3.cell 5 _ rfl
  have s6 := hB3.cell 6 _ rfl
  have s7 := hB3.cell 7 _ rfl
  have s8 := hB3.cell 8 _ rfl
  rcases hdt with ⟨x, y, cc, rfl⟩ | ⟨hfit, hl100, Ad, cd, d, hd, hdl, ⟨k, hk, rfl, hrd, hcd⟩ | ⟨rfl, hrd, hcd⟩⟩
  · go_wp2_with fail
    go_ret
    exact ⟨rfl, C4⟩
  · have hno := HC.out d k Ad cd w3 hfit hd hk hrd hcd hs3
    generalize (d.take k).length = m at hno hcd ⊢
    clear hk hrd
    go_wp2_with fail
    refine hno.mono ?_
    rintro e w4 ⟨rfl, hch4⟩
    have C5 := C4.no_no hch4
    have hB4 := hB3.keep0 hch4
    have t0 := hB4.cell 0 _ rfl
    have t1 := hB4.cell 1 _ rfl
    have t2 := hB4.cell 2 _ rfl
    have t3 := hB4.cell 3 _ rfl
    have t4 := hB4.cell 4 _ rfl
    have t5 := hB4.cell 5 _ rfl
    have t6 := hB4.cell 6 _ rfl
    have t7 := hB4.cell 7 _ rfl
    have t8 := hB4.cell 8 _ rfl
    go_wp2_with (first | ((with_reducible refine gate (.store 35 (.tmp _) _) rfl ?_); refine wp_store rfl rfl 35 _ _ rfl w4.heap.size 0 35 ZL (.agg #[v0, .int .u64 n, v2, v3, v4]) rfl rfl [v0, .int .u64 n, v2, v3, v4] rfl size_pk ht.one (Row.alloc w4 ZL 35) (by simp) ?_; intro w5 hrow5 hch5; have u0 : w5.cell? ⟨w4.heap.size, 0, none⟩ = some (v0) := hrow5.cell 0 _ rfl; have u1 : w5.cell? ⟨w4.heap.size, 1, none⟩ = some (.int .u64 n) := hrow5.cell 1 _ rfl; have u2 : w5.cell? ⟨w4.heap.size, 2, none⟩ = some (v2) := hrow5.cell 2 _ rfl; have u3 : w5.cell? ⟨w4.heap.size, 3, none⟩ = some (v3) := hrow5.cell 3 _ rfl; have u4 : w5.cell? ⟨w4.heap.size, 4, none⟩ = some (v4) := hrow5.cell 4 _ rfl))
    go_ret
    exact ⟨rfl, (C5.alloc _).freshg hch5 C5.size⟩
  · have hget := HG.out d Ad cd w3 hfit hd hl100 hrd hcd hs3
    generalize (d ++ l).length = m at hget hcd ⊢
    clear hrd
    go_wp2_with fail
    refine hget.mono ?_
    rintro e w4 ⟨v4', rfl, ho4, hch4⟩
    have C5 := C4.no_no hch4
    have hB4 := hB3.keep0 hch4
    have t0 := hB4.cell 0 _ rfl
    have t1 := hB4.cell 1 _ rfl
    have t2 := hB4.cell 2 _ rfl
    have t3 := hB4.cell 3 _ rfl
    have t4 := hB4.cell 4 _ rfl
    have t5 := hB4.cell 5 _ rfl
    have t6 := hB4.cell 6 _ rfl
    have t7 := hB4.cell 7 _ rfl
    have t8 := hB4.cell 8 _ rfl
    obtain ⟨A4, c4, rfl, _, _⟩ := ho4.slice
    go_wp2_with (first | ((with_reducible refine gate (.store 35 (.tmp _) _) rfl ?_); refine wp_store rfl rfl 35 _ _ rfl w4.heap.size 0 35 ZL (.agg #[v0, .int .u64 n, v2, v3, v4]) rfl rfl [v0, .int .u64 n, v2, v3, v4] rfl size_pk ht.one (Row.alloc w4 ZL 35) (by simp) ?_; intro w5 hrow5 hch5; have u0 : w5.cell? ⟨w4.heap.size, 0, none⟩ = some (v0) := hrow5.cell 0 _ rfl; have u1 : w5.cell? ⟨w4.heap.size, 1, none⟩ = some (.int .u64 n) := hrow5.cell 1 _ rfl; have u2 : w5.cell? ⟨w4.heap.size, 2, none⟩ = some (v2) := hrow5.cell 2 _ rfl; have u3 : w5.cell? ⟨w4.heap.size, 3, none⟩ = some (v3) := hrow5.cell 3 _ rfl; have u4 : w5.cell? ⟨w4.heap.size, 4, none⟩ = some (v4) := hrow5.cell 4 _ rfl))
    have C6 := (C5.alloc (.cells ZL.toArray 35)).freshg hch5 C5.size
    refine (HF.out w5).mono ?_
    rintro e w6 ⟨rfl, hch6⟩
    have C7 := C6.no_no hch6
    have K6 : Ch No w4 w6 := (((Ch.refl No w4).alloc (.cells ZL.toArray 35)).freshg hch5 (Nat.le_refl _)).no_no hch6
    have x0 := hch6.cell0 u0
    have x1 := hch6.cell0 u1
    have x2 := hch6.cell0 u2
    have x3 := hch6.cell0 u3
    have x4 := hch6.cell0 u4
    have hleft := left_calls A4 A c4 cap l w6 (ho4.keep0 K6).rd (hr.keep0 C7)
    have hz := HZ.out
    generalize l.length = ml at hleft ⊢
    go_wp2_with fail
    refine hleft.mono ?_
    rintro e w7 ⟨rfl, hch7⟩
    go_wp2_with fail
    go_ret
    exact ⟨rfl, C7.no_no hch7⟩
set_option maxRecDepth 100000 in
set_option maxHeartbeats 4000000 in
theorem lawGetInt_no (t : Pk) (n z : Int) (v0 v2 v3 v4 : Value) (f : Int) (sh : Bool) (A : Option Addr) (l : List Int) (cap : Nat) (cut : Int) (w : World) (hs : Sh w) (ht : TrP w t [v0, .int .u64 n, v2, v3, v4]) (hf0 : 0 ≤ f) (hf1 : f < 18446744073709551616) (hr : Rd u8 w A l) (hle : l.length ≤ cap)
    (hC : ∀ (d : List Int) (k : Nat) (A : Option Addr) (c : Nat) (W : World), FitP t 6 → PutD t d → (k < d.length ∨ d = []) → Rd u8 W A (d.take k) → (d.take k).length ≤ c → Sh W → Calls Tryd.prog 14 #[.slice A (d.take k).length c] W (GetIntNo W))
    (hG : ∀ (d : List Int) (A : Option Addr) (c : Nat) (W : World), FitP t 6 → PutD t d → l.length ≤ 100 → Rd u8 W A (d ++ l) → (d ++ l).length ≤ c → Sh W → Calls Tryd.prog 14 #[.slice A (d ++ l).length c] W (GetIntNo W))
    (hF : ∀ W : World, Calls Tryd.prog 15 #[.agg #[v0, .int .u64 n, v2, v3, v4], .int .i64 64] W (BoTo false W)) :
    Calls Tryd.prog 5 #[.agg #[v0, .int .u64 n, v2, v3, v4, .int .u64 f, .bool sh, .slice A l.length cap, .int .i64 cut]] w fun e w' => e = .returned (.bool true) ∧ Ch No w w' := by
  have hB := Row.alloc w [v0, .int .u64 n, v2, v3, v4, .int .u64 f, .bool sh, .slice A l.length cap, .int .i64 cut] 37
  have q0 := hB.cell 0 _ rfl
  have q1 := hB.cell 1 _ rfl
  have q2 := hB.cell 2 _ rfl
  have q3 := hB.cell 3 _ rfl
  have q4 := hB.cell 4 _ rfl
  have q5 := hB.cell 5 _ rfl
  have q6 := hB.cell 6 _ rfl
  have q7 := hB.cell 7 _ rfl
  have q8 := hB.cell 8 _ rfl
  have C1 : Ch No w (w.alloc (.cells #[v0, .int .u64 n, v2, v3, v4, .int .u64 f, .bool sh, .slice A l.length cap, .int .i64 cut] 37)) := (Ch.refl No w).alloc _
  have HC := hid hC
  have HG := hid hG
  have HF := hid hF
  clear hC hG hF
  by_cases hbig : 2147483647 < l.length
  · have hzz := fun W => zz_calls v0 (.int .u64 n) v2 v3 v4 f sh A l.length cap cut W false (by show _ = true; exact decide_eq_true (by omega))
    go_enter Tryd.func5, Tryd.ntmps5
    go_wp2_with fail
    refine (hzz _).mono ?_
    rintro e w1 ⟨rfl, hch1⟩
    go_wp2_with fail
    go_ret
    exact ⟨rfl, C1.no_no hch1⟩
  have hzz := fun W => zz_calls v0 (.int .u64 n) v2 v3 v4 f sh A l.length cap cut W true (by show _ = false; exact decide_eq_false (by omega))
  go_enter Tryd.func5, Tryd.ntmps5
  go_wp2_with fail
  refine (hzz _).mono ?_
  rintro e w1 ⟨rfl, hch1⟩
  have C2 := C1.no_no hch1
  have hB1 := hB.keep0 hch1
  clear hzz
  go_wp2_with fail
  refine (awake_GetInt w1).mono ?_
  rintro e w2 ⟨va, rfl, _, hch2⟩
  have C3 := (C2.alloc (.cells #[.int .u8 5] 5)).no_no hch2
  have hB2 := (hB1.keep0 ((Ch.refl No w1).alloc (.cells #[.int .u8 5] 5))).keep0 hch2
  have r0 := hB2.cell 0 _ rfl
  have r1 := hB2.cell 1 _ rfl
  have r2 := hB2.cell 2 _ rfl
  have r3 := hB2.cell 3 _ rfl
  have r4 := hB2.cell 4 _ rfl
  have r5 := hB2.cell 5 _ rfl
  have r6 := hB2.cell 6 _ rfl
  have r7 := hB2.cell 7 _ rfl
  have r8 := hB2.cell 8 _ rfl
  go_wp2_with fail
  refine (data_calls t v0 (.int .u64 n) v2 v3 v4 f sh A l cap cut w w2 C3 ht hf0 hf1 (hr.keep0 C3)).mono ?_
  rintro e w3 ⟨hch3, hdt⟩
  have C4 := C3.no_no hch3
  have hB3 := hB2.keep0 hch3
  have hs3 := hs.keep0 C4
  have s0 := hB3.cell 0 _ rfl
  have s1 := hB3.cell 1 _ rfl
  have s2 := hB3.cell 2 _ rfl
  have s3 := hB3.cell 3 _ rfl
  have s4 := hB3.cell 4 _ rfl
  have s5 := hB3.cell 5 _ rfl
  have s6 := hB3.cell 6 _ rfl
  have s7 := hB3.cell 7 _ rfl
  have s8 := hB3.cell 8 _ rfl
  rcases hdt with ⟨x, y, cc, rfl⟩ | ⟨hfit, hl100, Ad, cd, d, hd, hdl, ⟨k, hk, rfl, hrd, hcd⟩ | ⟨rfl, hrd, hcd⟩⟩
  · go_wp2_with fail
    go_ret
    exact ⟨rfl, C4⟩
  · have hno := HC.out d k Ad cd w3 hfit hd hk hrd hcd hs3
    generalize (d.take k).length = m at hno hcd ⊢
    clear hk hrd
    go_wp2_with fail
    refine hno.mono ?_
    rintro e w4 ⟨rfl, hch4⟩
    have C5 := C4.no_no hch4
    have hB4 := hB3.keep0 hch4
    have t0 := hB4.cell 0 _ rfl
    have t1 := hB4.cell 1 _ rfl
    have t2 := hB4.cell 2 _ rfl
    have t3 := hB4.cell 3 _ rfl
    have t4 := hB4.cell 4 _ rfl
    have t5 := hB4.cell 5 _ rfl
    have t6 := hB4.cell 6 _ rfl
    have t7 := hB4.cell 7 _ rfl
    have t8 := hB4.cell 8 _ rfl
    go_wp2_with (first | ((with_reducible refine gate (.store 35 (.tmp _) _) rfl ?_); refine wp_store rfl rfl 35 _ _ rfl w4.heap.size 0 35 ZL (.agg #[v0, .int .u64 n, v2, v3, v4]) rfl rfl [v0, .int .u64 n, v2, v3, v4] rfl size_pk ht.one (Row.alloc w4 ZL 35) (by simp) ?_; intro w5 hrow5 hch5; have u0 : w5.cell? ⟨w4.heap.size, 0, none⟩ = some (v0) := hrow5.cell 0 _ rfl; have u1 : w5.cell? ⟨w4.heap.size, 1, none⟩ = some (.int .u64 n) := hrow5.cell 1 _ rfl; have u2 : w5.cell? ⟨w4.heap.size, 2, none⟩ = some (v2) := hrow5.cell 2 _ rfl; have u3 : w5.cell? ⟨w4.heap.size, 3, none⟩ = some (v3) := hrow5.cell 3 _ rfl; have u4 : w5.cell? ⟨w4.heap.size, 4, none⟩ = some (v4) := hrow5.cell 4 _ rfl))
    go_ret
    exact ⟨rfl, (C5.alloc _).freshg hch5 C5.size⟩
  · have hget := HG.out d Ad cd w3 hfit hd hl100 hrd hcd hs3
    generalize (d ++ l).length = m at hget hcd ⊢
    clear hrd
    go_wp2_with fail
    refine hget.mono ?_
    rintro e w4 ⟨rfl, hch4⟩
    have C5 := C4.no_no hch4
    have hB4 := hB3.keep0 hch4
    have t0 := hB4.cell 0 _ rfl
    have t1 := hB4.cell 1 _ rfl
    have t2 := hB4.cell 2 _ rfl
    have t3 := hB4.cell 3 _ rfl
    have t4 := hB4.cell 4 _ rfl
    have t5 := hB4.cell 5 _ rfl
    have t6 := hB4.cell 6 _ rfl
    have t7 := hB4.cell 7 _ rfl
    have t8 := hB4.cell 8 _ rfl
    go_wp2_with (first | ((with_reducible refine gate (.store 35 (.tmp _) _) rfl ?_); refine wp_store rfl rfl 35 _ _ rfl w4.heap.size 0 35 ZL (.agg #[v0, .int .u64 n, v2, v3, v4]) rfl rfl [v0, .int .u64 n, v2, v3, v4] rfl size_pk ht.one (Row.alloc w4 ZL 35) (by simp) ?_; intro w5 hrow5 hch5; have u0 : w5.cell? ⟨w4.heap.size, 0, none⟩ = some (v0) := hrow5.cell 0 _ rfl; have u1 : w5.cell? ⟨w4.heap.size, 1, none⟩ = some (.int .u64 n) := hrow5.cell 1 _ rfl; have u2 : w5.cell? ⟨w4.heap.size, 2, none⟩ = some (v2) := hrow5.cell 2 _ rfl; have u3 : w5.cell? ⟨w4.heap.size, 3, none⟩ = some (v3) := hrow5.cell 3 _ rfl; have u4 : w5.cell? ⟨w4.heap.size, 4, none⟩ = some (v4) := hrow5.cell 4 _ rfl))
    have C6 := (C5.alloc (.cells ZL.toArray 35)).freshg hch5 C5.size
    refine (HF.out w5).mono ?_
    rintro e w6 ⟨rfl, hch6⟩
    have C7 := C6.no_no hch6
    go_wp2_with fail
    go_ret
    exact ⟨rfl, C7⟩

end Go.Proofs.YtcipapjlkibleaaDoor
