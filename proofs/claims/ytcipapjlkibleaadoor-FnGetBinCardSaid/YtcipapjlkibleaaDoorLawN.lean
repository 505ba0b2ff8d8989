/- The law of MessagePack's reader of bytes. No condition. -/
import Derived.Test.YtcipapjlkibleaaDoorBinL
import Derived.Test.YtcipapjlkibleaaDoorLawI
import Derived.OpenShut
namespace Go.Proofs.YtcipapjlkibleaaDoor
set_option linter.unusedVariables false
set_option linter.unusedSimpArgs false
open Go.RowKit

theorem awake_bin (w : World) : Calls Tryd.prog 12 #[.slice (some ⟨w.heap.size, 0, none⟩) 3 3] (w.alloc (.cells #[.int .u8 196, .int .u8 1, .int .u8 97] 5)) (BinOk [97] [] (w.alloc (.cells #[.int .u8 196, .int .u8 1, .int .u8 97] 5))) := by
  have h := readN_some_1 (some ⟨w.heap.size, 0, none⟩) 3 196 [1, 97] (w.alloc (.cells #[.int .u8 196, .int .u8 1, .int .u8 97] 5)) (Ow.lit 5 u8 w [196, 1, 97] (by simp [maxLen])).rd (by simp) (fun x hx => by simp at hx; omega) (by simp) 1 (by omega) (by simp [beN]) (by simp) rfl
  exact getBin_ok _ [97] [] _ (by simp) (by simp) (readM_ok _ _ _ _ h)
theorem st97 : strOfNums [97] = ⟨#[97]⟩ := by decide
set_option maxRecDepth 100000 in
set_option maxHeartbeats 4000000 in
theorem lawBin_yes (t : Pk) (n : Int) (s : ByteArray) (v3 v4 : Value) (f : Int) (sh : Bool) (A : Option Addr) (l : List Int) (cap : Nat) (cut : Int) (w : World) (hs : Sh w) (ht : TrP w t [.int .i64 7, .int .u64 n, .string s, v3, v4]) (hf0 : 0 ≤ f) (hf1 : f < 18446744073709551616) (hr : Rd u8 w A l) (hle : l.length ≤ cap)
    (hC : ∀ (d : List Int) (k : Nat) (A : Option Addr) (c : Nat) (W : World), FitP t 6 → PutD t d → (k < d.length ∨ d = []) → Rd u8 W A (d.take k) → (d.take k).length ≤ c → Sh W → Calls Tryd.prog 12 #[.slice A (d.take k).length c] W (BinNo W))
    (hG : ∀ (d : List Int) (A : Option Addr) (c : Nat) (W : World), FitP t 6 → PutD t d → l.length ≤ 100 → Rd u8 W A (d ++ l) → (d ++ l).length ≤ c → Sh W → Calls Tryd.prog 12 #[.slice A (d ++ l).length c] W (BinOk (bys s) l W)) :
    Calls Tryd.prog 4 #[.agg #[.int .i64 7, .int .u64 n, .string s, v3, v4, .int .u64 f, .bool sh, .slice A l.length cap, .int .i64 cut]] w fun e w' => e = .returned (.bool true) ∧ Ch No w w' := by
  have hB := Row.alloc w [.int .i64 7, .int .u64 n, .string s, v3, v4, .int .u64 f, .bool sh, .slice A l.length cap, .int .i64 cut] 37
  have q0 := hB.cell 0 _ rfl
  have q1 := hB.cell 1 _ rfl
  have q2 := hB.cell 2 _ rfl
  have q3 := hB.cell 3 _ rfl
  have q4 := hB.cell 4 _ rfl
  have q5 := hB.cell 5 _ rfl
  have q6 := hB.cell 6 _ rfl
  have q7 := hB.cell 7 _ rfl
  have q8 := hB.cell 8 _ rfl
  have C1 : Ch No w (w.alloc (.cells #[.int .i64 7, .int .u64 n, .string s, v3, v4, .int .u64 f, .bool sh, .slice A l.length cap, .int .i64 cut] 37)) := (Ch.refl No w).alloc _
  have HC := hid hC
  have HG := hid hG
  clear hC hG
  by_cases hbig : 2147483647 < l.length
  · have hzz := fun W => zz_calls (.int .i64 7) (.int .u64 n) (.string s) v3 v4 f sh A l.length cap cut W false (by show _ = true; exact decide_eq_true (by omega))
    go_enter Tryd.func4, Tryd.ntmps4
    go_wp2_with fail
    refine (hzz _).mono ?_
    rintro e w1 ⟨rfl, hch1⟩
    go_wp2_with fail
    go_ret
    exact ⟨rfl, C1.no_no hch1⟩
  have hzz := fun W => zz_calls (.int .i64 7) (.int .u64 n) (.string s) v3 v4 f sh A l.length cap cut W true (by show _ = false; exact decide_eq_false (by omega))
  go_enter Tryd.func4, Tryd.ntmps4
  go_wp2_with fail
  refine (hzz _).mono ?_
  rintro e w1 ⟨rfl, hch1⟩
  have C2 := C1.no_no hch1
  have hB1 := hB.keep0 hch1
  clear hzz
  go_wp2_with fail
  refine (awake_bin w1).mono ?_
  rintro e w2 ⟨va, vb, rfl, hoa, _, hch2⟩
  obtain ⟨Aa, ca, rfl, _, _⟩ := hoa.slice
  have hcona := conv_rd (c := ca) hoa.rd w2 (Ch.refl _ _)
  rw [st97] at hcona
  replace hcona : (convert 24 9 (.slice Aa 1 ca)).run Tryd.prog w2 = .ok (.string ⟨#[97]⟩) w2 := hcona
  have C3 := (C2.alloc (.cells #[.int .u8 196, .int .u8 1, .int .u8 97] 5)).no_no hch2
  have hB2 := (hB1.keep0 ((Ch.refl No w1).alloc (.cells #[.int .u8 196, .int .u8 1, .int .u8 97] 5))).keep0 hch2
  have r0 := hB2.cell 0 _ rfl
  have r1 := hB2.cell 1 _ rfl
  have r2 := hB2.cell 2 _ rfl
  have r3 := hB2.cell 3 _ rfl
  have r4 := hB2.cell 4 _ rfl
  have r5 := hB2.cell 5 _ rfl
  have r6 := hB2.cell 6 _ rfl
  have r7 := hB2.cell 7 _ rfl
  have r8 := hB2.cell 8 _ rfl
  go_wp2_with fail
  refine (data_calls t (.int .i64 7) (.int .u64 n) (.string s) v3 v4 f sh A l cap cut w w2 C3 ht hf0 hf1 (hr.keep0 C3)).mono ?_
  rintro e w3 ⟨hch3, hdt⟩
  have C4 := C3.no_no hch3
  have hB3 := hB2.keep0 hch3
  have hs3 := hs.keep0 C4
  have s0 := hB3.cell 0 _ rfl
  have s1 := hB3.cell 1 _ rfl
  have s2 := hB3.cell 2 _ rfl
  have s3 := hB3.cell 3 _ rfl
  have s4 := hB3.cell 4 _ rfl
  have s5 := hB3.cell 5 _ rfl
  have s6 := hB3.cell 6 _ rfl
  have s7 := hB3.cell 7 _ rfl
  have s8 := hB3.cell 8 _ rfl
  rcases hdt with ⟨x, y, cc, rfl⟩ | ⟨hfit, hl100, Ad, cd, d, hd, hdl, ⟨kk, hk, rfl, hrd, hcd⟩ | ⟨rfl, hrd, hcd⟩⟩
  · go_wp2_with fail
    go_ret
    exact ⟨rfl, C4⟩
  · have hno := HC.out d kk Ad cd w3 hfit hd hk hrd hcd hs3
    generalize (d.take kk).length = m at hno hcd ⊢
    clear hk hrd
    go_wp2_with fail
    refine hno.mono ?_
    rintro e w4 ⟨rfl, hch4⟩
    have C5 := C4.no_no hch4
    have hB4 := hB3.keep0 hch4
    have t0 := hB4.cell 0 _ rfl
    have t1 := hB4.cell 1 _ rfl
    have t2 := hB4.cell 2 _ rfl
    have t3 := hB4.cell 3 _ rfl
    have t4 := hB4.cell 4 _ rfl
    have t5 := hB4.cell 5 _ rfl
    have t6 := hB4.cell 6 _ rfl
    have t7 := hB4.cell 7 _ rfl
    have t8 := hB4.cell 8 _ rfl
    go_wp2_with (first | ((with_reducible refine gate (.store 35 (.tmp _) _) rfl ?_); refine wp_store rfl rfl 35 _ _ rfl w4.heap.size 0 35 ZL (.agg #[.int .i64 7, .int .u64 n, .string s, v3, v4]) rfl rfl [.int .i64 7, .int .u64 n, .string s, v3, v4] rfl size_pk ht.one (Row.alloc w4 ZL 35) (by simp) ?_; intro w5 hrow5 hch5; have u0 : w5.cell? ⟨w4.heap.size, 0, none⟩ = some (.int .i64 7) := hrow5.cell 0 _ rfl; have u1 : w5.cell? ⟨w4.heap.size, 1, none⟩ = some (.int .u64 n) := hrow5.cell 1 _ rfl; have u2 : w5.cell? ⟨w4.heap.size, 2, none⟩ = some (.string s) := hrow5.cell 2 _ rfl; have u3 : w5.cell? ⟨w4.heap.size, 3, none⟩ = some (v3) := hrow5.cell 3 _ rfl; have u4 : w5.cell? ⟨w4.heap.size, 4, none⟩ = some (v4) := hrow5.cell 4 _ rfl))
    go_ret
    exact ⟨rfl, (C5.alloc _).freshg hch5 C5.size⟩
  · have hget := HG.out d Ad cd w3 hfit hd hl100 hrd hcd hs3
    generalize (d ++ l).length = m at hget hcd ⊢
    clear hrd
    go_wp2_with fail
    refine hget.mono ?_
    rintro e w4 ⟨v4', v5', rfl, ho4, ho5, hch4⟩
    have C5 := C4.no_no hch4
    have hB4 := hB3.keep0 hch4
    have t0 := hB4.cell 0 _ rfl
    have t1 := hB4.cell 1 _ rfl
    have t2 := hB4.cell 2 _ rfl
    have t3 := hB4.cell 3 _ rfl
    have t4 := hB4.cell 4 _ rfl
    have t5 := hB4.cell 5 _ rfl
    have t6 := hB4.cell 6 _ rfl
    have t7 := hB4.cell 7 _ rfl
    have t8 := hB4.cell 8 _ rfl
    obtain ⟨A4, c4, rfl, _, _⟩ := ho4.slice
    obtain ⟨A5, c5, rfl, _, _⟩ := ho5.slice
    have hrd4 := ho4.rd
    have hcv := fun W h => conv_rd (c := c4) hrd4 W h
    rw [str_bys] at hcv
    have HCV := hid hcv
    clear hcv
    have hlf := fun W (h : Ch No w4 W) => left_calls A5 A c5 cap l W (ho5.keep0 h).rd (hr.keep0 (C5.no_no h))
    have HLF := hid hlf
    clear hlf
    go_wp2_with (first | ((with_reducible refine gate (.store 35 (.tmp _) _) rfl ?_); refine wp_store rfl rfl 35 _ _ rfl w4.heap.size 0 35 ZL (.agg #[.int .i64 7, .int .u64 n, .string s, v3, v4]) rfl rfl [.int .i64 7, .int .u64 n, .string s, v3, v4] rfl size_pk ht.one (Row.alloc w4 ZL 35) (by simp) ?_; intro w5 hrow5 hch5; have u0 : w5.cell? ⟨w4.heap.size, 0, none⟩ = some (.int .i64 7) := hrow5.cell 0 _ rfl; have u1 : w5.cell? ⟨w4.heap.size, 1, none⟩ = some (.int .u64 n) := hrow5.cell 1 _ rfl; have u2 : w5.cell? ⟨w4.heap.size, 2, none⟩ = some (.string s) := hrow5.cell 2 _ rfl; have u3 : w5.cell? ⟨w4.heap.size, 3, none⟩ = some (v3) := hrow5.cell 3 _ rfl; have u4 : w5.cell? ⟨w4.heap.size, 4, none⟩ = some (v4) := hrow5.cell 4 _ rfl; have K6 : Ch No w4 w5 := ((Ch.refl No w4).alloc (.cells ZL.toArray 35)).freshg hch5 (Nat.le_refl _); have hcb := HCV.out w5 K6))
    have C6 := (C5.alloc (.cells ZL.toArray 35)).freshg hch5 C5.size
    refine (HLF.out w5 K6).mono ?_
    rintro e w6 ⟨rfl, hch6⟩
    go_wp2_with fail
    go_ret
    exact ⟨rfl, C6.no_no hch6⟩
set_option maxRecDepth 100000 in
set_option maxHeartbeats 4000000 in
theorem lawBin_no (t : Pk) (n : Int) (k : Int) (k7 : k ≠ 7) (v2 : Value) (v3 v4 : Value) (f : Int) (sh : Bool) (A : Option Addr) (l : List Int) (cap : Nat) (cut : Int) (w : World) (hs : Sh w) (ht : TrP w t [.int .i64 k, .int .u64 n, v2, v3, v4]) (hf0 : 0 ≤ f) (hf1 : f < 18446744073709551616) (hr : Rd u8 w A l) (hle : l.length ≤ cap)
    (hC : ∀ (d : List Int) (k : Nat) (A : Option Addr) (c : Nat) (W : World), FitP t 6 → PutD t d → (k < d.length ∨ d = []) → Rd u8 W A (d.take k) → (d.take k).length ≤ c → Sh W → Calls Tryd.prog 12 #[.slice A (d.take k).length c] W (BinNo W))
    (hG : ∀ (d : List Int) (A : Option Addr) (c : Nat) (W : World), FitP t 6 → PutD t d → l.length ≤ 100 → Rd u8 W A (d ++ l) → (d ++ l).length ≤ c → Sh W → Calls Tryd.prog 12 #[.slice A (d ++ l).length c] W (BinNo W)) :
    Calls Tryd.prog 4 #[.agg #[.int .i64 k, .int .u64 n, v2, v3, v4, .int .u64 f, .bool sh, .slice A l.length cap, .int .i64 cut]] w fun e w' => e = .returned (.bool true) ∧ Ch No w w' := by
  have hB := Row.alloc w [.int .i64 k, .int .u64 n, v2, v3, v4, .int .u64 f, .bool sh, .slice A l.length cap, .int .i64 cut] 37
  have q0 := hB.cell 0 _ rfl
  have q1 := hB.cell 1 _ rfl
  have q2 := hB.cell 2 _ rfl
  have q3 := hB.cell 3 _ rfl
  have q4 := hB.cell 4 _ rfl
  have q5 := hB.cell 5 _ rfl
  have q6 := hB.cell 6 _ rfl
  have q7 := hB.cell 7 _ rfl
  have q8 := hB.cell 8 _ rfl
  have e7 : (k == 7) = false := beq_eq_false_iff_ne.2 k7
  have f7 : (k != 7) = true := bne_iff_ne.2 k7
  have g7 : decide (k = 7) = false := decide_eq_false k7
  have C1 : Ch No w (w.alloc (.cells #[.int .i64 k, .int .u64 n, v2, v3, v4, .int .u64 f, .bool sh, .slice A l.length cap, .int .i64 cut] 37)) := (Ch.refl No w).alloc _
  have HC := hid hC
  have HG := hid hG
  clear hC hG
  by_cases hbig : 2147483647 < l.length
  · have hzz := fun W => zz_calls (.int .i64 k) (.int .u64 n) v2 v3 v4 f sh A l.length cap cut W false (by show _ = true; exact decide_eq_true (by omega))
    go_enter Tryd.func4, Tryd.ntmps4
    go_wp2_with fail
    refine (hzz _).mono ?_
    rintro e w1 ⟨rfl, hch1⟩
    go_wp2_with fail
    go_ret
    exact ⟨rfl, C1.no_no hch1⟩
  have hzz := fun W => zz_calls (.int .i64 k) (.int .u64 n) v2 v3 v4 f sh A l.length cap cut W true (by show _ = false; exact decide_eq_false (by omega))
  go_enter Tryd.func4, Tryd.ntmps4
  go_wp2_with fail
  refine (hzz _).mono ?_
  rintro e w1 ⟨rfl, hch1⟩
  have C2 := C1.no_no hch1
  have hB1 := hB.keep0 hch1
  clear hzz
  go_wp2_with fail
  refine (awake_bin w1).mono ?_
  rintro e w2 ⟨va, vb, rfl, hoa, _, hch2⟩
  obtain ⟨Aa, ca, rfl, _, _⟩ := hoa.slice
  have hcona := conv_rd (c := ca) hoa.rd w2 (Ch.refl _ _)
  rw [st97] at hcona
  replace hcona : (convert 24 9 (.slice Aa 1 ca)).run Tryd.prog w2 = .ok (.string ⟨#[97]⟩) w2 := hcona
  have C3 := (C2.alloc (.cells #[.int .u8 196, .int .u8 1, .int .u8 97] 5)).no_no hch2
  have hB2 := (hB1.keep0 ((Ch.refl No w1).alloc (.cells #[.int .u8 196, .int .u8 1, .int .u8 97] 5))).keep0 hch2
  have r0 := hB2.cell 0 _ rfl
  have r1 := hB2.cell 1 _ rfl
  have r2 := hB2.cell 2 _ rfl
  have r3 := hB2.cell 3 _ rfl
  have r4 := hB2.cell 4 _ rfl
  have r5 := hB2.cell 5 _ rfl
  have r6 := hB2.cell 6 _ rfl
  have r7 := hB2.cell 7 _ rfl
  have r8 := hB2.cell 8 _ rfl
  go_wp2_with fail
  refine (data_calls t (.int .i64 k) (.int .u64 n) v2 v3 v4 f sh A l cap cut w w2 C3 ht hf0 hf1 (hr.keep0 C3)).mono ?_
  rintro e w3 ⟨hch3, hdt⟩
  have C4 := C3.no_no hch3
  have hB3 := hB2.keep0 hch3
  have hs3 := hs.keep0 C4
  have s0 := hB3.cell 0 _ rfl
  have s1 := hB3.cell 1 _ rfl
  have s2 := hB3.cell 2 _ rfl
  have s3 := hB3.cell 3 _ rfl
  have s4 := hB3.cell 4 _ rfl
  have s5 := hB3.cell 5 _ rfl
  have s6 := hB3.cell 6 _ rfl
  have s7 := hB3.cell 7 _ rfl
  have s8 := hB3.cell 8 _ rfl
  rcases hdt with ⟨x, y, cc, rfl⟩ | ⟨hfit, hl100, Ad, cd, d, hd, hdl, ⟨kk, hk, rfl, hrd, hcd⟩ | ⟨rfl, hrd, hcd⟩⟩
  · go_wp2_with fail
    go_ret
    exact ⟨rfl, C4⟩
  · have hno := HC.out d kk Ad cd w3 hfit hd hk hrd hcd hs3
    generalize (d.take kk).length = m at hno hcd ⊢
    clear hk hrd
    go_wp2_with fail
    refine hno.mono ?_
    rintro e w4 ⟨rfl, hch4⟩
    have C5 := C4.no_no hch4
    have hB4 := hB3.keep0 hch4
    have t0 := hB4.cell 0 _ rfl
    have t1 := hB4.cell 1 _ rfl
    have t2 := hB4.cell 2 _ rfl
    have t3 := hB4.cell 3 _ rfl
    have t4 := hB4.cell 4 _ rfl
    have t5 := hB4.cell 5 _ rfl
    have t6 := hB4.cell 6 _ rfl
    have t7 := hB4.cell 7 _ rfl
    have t8 := hB4.cell 8 _ rfl
    go_wp2_with (first | ((with_reducible refine gate (.store 35 (.tmp _) _) rfl ?_); refine wp_store rfl rfl 35 _ _ rfl w4.heap.size 0 35 ZL (.agg #[.int .i64 k, .int .u64 n, v2, v3, v4]) rfl rfl [.int .i64 k, .int .u64 n, v2, v3, v4] rfl size_pk ht.one (Row.alloc w4 ZL 35) (by simp) ?_; intro w5 hrow5 hch5; have u0 : w5.cell? ⟨w4.heap.size, 0, none⟩ = some (.int .i64 k) := hrow5.cell 0 _ rfl; have u1 : w5.cell? ⟨w4.heap.size, 1, none⟩ = some (.int .u64 n) := hrow5.cell 1 _ rfl; have u2 : w5.cell? ⟨w4.heap.size, 2, none⟩ = some (v2) := hrow5.cell 2 _ rfl; have u3 : w5.cell? ⟨w4.heap.size, 3, none⟩ = some (v3) := hrow5.cell 3 _ rfl; have u4 : w5.cell? ⟨w4.heap.size, 4, none⟩ = some (v4) := hrow5.cell 4 _ rfl))
    go_ret
    exact ⟨rfl, (C5.alloc _).freshg hch5 C5.size⟩
  · have hget := HG.out d Ad cd w3 hfit hd hl100 hrd hcd hs3
    generalize (d ++ l).length = m at hget hcd ⊢
    clear hrd
    go_wp2_with fail
    refine hget.mono ?_
    rintro e w4 ⟨rfl, hch4⟩
    have C5 := C4.no_no hch4
    have hB4 := hB3.keep0 hch4
    have t0 := hB4.cell 0 _ rfl
    have t1 := hB4.cell 1 _ rfl
    have t2 := hB4.cell 2 _ rfl
    have t3 := hB4.cell 3 _ rfl
    have t4 := hB4.cell 4 _ rfl
    have t5 := hB4.cell 5 _ rfl
    have t6 := hB4.cell 6 _ rfl
    have t7 := hB4.cell 7 _ rfl
    have t8 := hB4.cell 8 _ rfl
    go_wp2_with (first | ((with_reducible refine gate (.store 35 (.tmp _) _) rfl ?_); refine wp_store rfl rfl 35 _ _ rfl w4.heap.size 0 35 ZL (.agg #[.int .i64 k, .int .u64 n, v2, v3, v4]) rfl rfl [.int .i64 k, .int .u64 n, v2, v3, v4] rfl size_pk ht.one (Row.alloc w4 ZL 35) (by simp) ?_; intro w5 hrow5 hch5; have u0 : w5.cell? ⟨w4.heap.size, 0, none⟩ = some (.int .i64 k) := hrow5.cell 0 _ rfl; have u1 : w5.cell? ⟨w4.heap.size, 1, none⟩ = some (.int .u64 n) := hrow5.cell 1 _ rfl; have u2 : w5.cell? ⟨w4.heap.size, 2, none⟩ = some (v2) := hrow5.cell 2 _ rfl; have u3 : w5.cell? ⟨w4.heap.size, 3, none⟩ = some (v3) := hrow5.cell 3 _ rfl; have u4 : w5.cell? ⟨w4.heap.size, 4, none⟩ = some (v4) := hrow5.cell 4 _ rfl))
    have C6 := (C5.alloc (.cells ZL.toArray 35)).freshg hch5 C5.size
    go_ret
    exact ⟨rfl, C6⟩

def Nbin (d : List Int) : Prop := ∃ b r, d = b :: r ∧ 0 ≤ b ∧ b < 256 ∧ b ≠ 196 ∧ b ≠ 197 ∧ b ≠ 198
theorem pos_nbin {u : Int} {d : List Int} (h : PosD u d) (h0 : 0 ≤ u) : Nbin d := by
  rcases h with ⟨h2, rfl⟩ | ⟨f, hf, h2, rfl⟩ | ⟨f, hf, h2, rfl⟩
  · exact ⟨u, [], rfl, by omega⟩
  · exact ⟨f.1, _, rfl, by simp only [List.mem_cons, List.not_mem_nil, or_false] at hf; rcases hf with rfl | rfl | rfl | rfl <;> simp⟩
  · exact ⟨f.1, _, rfl, by simp only [List.mem_cons, List.not_mem_nil, or_false] at hf; rcases hf with rfl | rfl | rfl | rfl <;> simp⟩
theorem neg_nbin {u : Int} {d : List Int} (h : NegD u d) (h1 : u < 18446744073709551616) : Nbin d := by
  rcases h with ⟨h2, rfl⟩ | ⟨f, hf, h2, rfl⟩
  · exact ⟨u % 256, [], rfl, by omega⟩
  · exact ⟨f.1, _, rfl, by simp only [List.mem_cons, List.not_mem_nil, or_false] at hf; rcases hf with rfl | rfl | rfl | rfl <;> simp⟩
theorem nbin_form {k n x : Int} {s : ByteArray} {m : Nat} {K : Fin m → Pk} {d : List Int} (h : PutD (.mk k n s x m K) d) (hn0 : 0 ≤ n) (hn1 : n < 18446744073709551616) (h1 : k = 1 → n ≤ 1) (k7 : k ≠ 7) : Nbin d := by
  unfold PutD at h
  have hd : ∀ (fx un : Int) (fs : List (Int × Nat)) (q : Int) (hd l : List Int), HdB fx un fs q hd → 0 ≤ q → ((0 ≤ fx ∧ q < un → 0 ≤ fx + q ∧ fx + q < 256 ∧ fx + q ≠ 196 ∧ fx + q ≠ 197 ∧ fx + q ≠ 198) ∧ ∀ f ∈ fs, 0 ≤ f.1 ∧ f.1 < 256 ∧ f.1 ≠ 196 ∧ f.1 ≠ 197 ∧ f.1 ≠ 198) → Nbin (hd ++ l) := fun fx un fs q hd l h hq ⟨a, b⟩ => by
    rcases h with ⟨h1, h2, rfl⟩ | ⟨f, hf, _, rfl⟩
    · exact ⟨_, l, rfl, a ⟨h1, h2⟩⟩
    · exact ⟨f.1, _, rfl, b f hf⟩
  rcases h with ⟨_, rfl⟩ | ⟨e, rfl⟩ | ⟨_, _, h⟩ | ⟨_, _, h⟩ | ⟨_, h⟩ | ⟨_, rfl⟩ | ⟨_, rfl⟩ | ⟨_, hd', hh, rfl⟩ | ⟨e, _⟩ | ⟨_, hd', hh, rfl⟩ | ⟨_, hd', ds, hh, rfl, _⟩ | ⟨_, hd', ds, hh, rfl, _⟩
  · exact ⟨192, [], rfl, by omega⟩
  · exact ⟨194 + n, [], rfl, by have := h1 e; omega⟩
  · exact neg_nbin h hn1
  · exact pos_nbin h hn0
  · exact pos_nbin h hn0
  · exact ⟨202, _, rfl, by omega⟩
  · exact ⟨203, _, rfl, by omega⟩
  · exact hd 160 32 _ _ _ _ hh (by omega) ⟨fun h => by omega, by simp⟩
  · exact absurd e k7
  · rcases hh with ⟨p, hp, _, rfl⟩ | ⟨f, hf, _, rfl⟩
    · exact ⟨p.1, _, rfl, by simp only [List.mem_cons, List.not_mem_nil, or_false] at hp; rcases hp with rfl | rfl | rfl | rfl | rfl <;> simp⟩
    · exact ⟨f.1, _, rfl, by simp only [List.mem_cons, List.not_mem_nil, or_false] at hf; rcases hf with rfl | rfl | rfl <;> simp⟩
  · exact hd 144 16 _ _ _ _ hh (by omega) ⟨fun h => by omega, by simp⟩
  · exact hd 128 16 _ _ _ _ hh (by omega) ⟨fun h => by omega, by simp⟩
theorem FnGetBinLaw (t : Pk) (v0 v1 v2 v3 v4 : Value) (f : Int) (sh : Bool) (A : Option Addr) (l : List Int) (cap : Nat) (cut : Int) (w : World) (hs : Sh w) (ht : TrP w t [v0, v1, v2, v3, v4]) (hf0 : 0 ≤ f) (hf1 : f < 18446744073709551616) (hr : Rd u8 w A l) (hle : l.length ≤ cap) (hb : Byt l) :
    Calls Tryd.prog 4 #[.agg #[v0, v1, v2, v3, v4, .int .u64 f, .bool sh, .slice A l.length cap, .int .i64 cut]] w fun e w' => e = .returned (.bool true) ∧ Ch No w w' := by
  obtain ⟨k, n, s, x, m, K⟩ := t
  have ht' := ht
  obtain ⟨Ak, ck, he, _, hwn, _⟩ := ht'
  simp only [List.cons.injEq, and_true] at he
  obtain ⟨rfl, rfl, rfl, rfl, rfl⟩ := he
  by_cases k7 : k = 7
  · subst k7
    have hsz : FitP (.mk 7 n s x m K) 6 → s.size ≤ 131072 := fun h => by unfold FitP at h; exact h.2.2.2.2.2.2.2.2.2.2.2.2.2.1
    exact lawBin_yes _ n s _ _ f sh A l cap cut w hs ht hf0 hf1 hr hle (fun d k A c W _ hd hk hr hc hs => readN_refused A c _ W hr hc hs (bin_cut hd k hk)) (fun d A c W hf hd hl hr hc hs => getBin_good hd (hsz hf) A c l W hl hb hr hc)
  · have hn := bounds_u64 hwn
    have hoth : ∀ d, FitP (.mk k n s x m K) 6 → PutD (.mk k n s x m K) d → Nbin d := fun d hf hd =>
      nbin_form hd hn.1 (by omega) (by unfold FitP at hf; exact hf.2.2.2.2.2.2.2.2.2.1) k7
    exact lawBin_no _ n k k7 _ _ _ f sh A l cap cut w hs ht hf0 hf1 hr hle (fun d k' A c W hf hd _ hr hc hs => readN_refused A c _ W hr hc hs (bin_oth l (hoth d hf hd) k').1) (fun d A c W hf hd hl hr hc hs => readN_refused A c _ W hr hc hs (bin_oth l (hoth d hf hd) 0).2)
end Go.Proofs.YtcipapjlkibleaaDoor
