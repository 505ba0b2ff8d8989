/- The law of MessagePack's reader of extensions. No condition. -/
import Derived.Test.YtfelmhfdklakpaaDoorExtL
namespace Go.Proofs.YtfelmhfdklakpaaDoor
set_option linter.unusedVariables false
set_option linter.unusedSimpArgs false
open Go.RowKit

def BoTo (b : Bool) (w : World) (e : Ending) (w' : World) : Prop := e = .returned (.bool b) ∧ Ch No w w'
set_option maxRecDepth 100000 in
theorem zz_calls (v0 v1 v2 v3 v4 : Value) (f : Int) (sh : Bool) (A : Option Addr) (m cap : Nat) (cut : Int) (w : World) (b : Bool) (h : decide ((2147483647 : Int) < m) = !b) :
    Calls Tryd.prog 9 #[.agg #[v0, v1, v2, v3, v4, .int .u64 f, .bool sh, .slice A m cap, .int .i64 cut]] w (BoTo b w) := by
  have hB := Row.alloc w [v0, v1, v2, v3, v4, .int .u64 f, .bool sh, .slice A m cap, .int .i64 cut] 37
  have q0 := hB.cell 0 _ rfl
  have q1 := hB.cell 1 _ rfl
  have q2 := hB.cell 2 _ rfl
  have q3 := hB.cell 3 _ rfl
  have q4 := hB.cell 4 _ rfl
  have q5 := hB.cell 5 _ rfl
  have q6 := hB.cell 6 _ rfl
  have q7 := hB.cell 7 _ rfl
  have q8 := hB.cell 8 _ rfl

  cases b
  · replace h : decide ((2147483647 : Int) < m) = true := h
    go_enter Tryd.func9, Tryd.ntmps9
    go_wp2_with fail
    go_ret
    exact ⟨rfl, (Ch.refl No w).alloc _⟩
  · replace h : decide ((2147483647 : Int) < m) = false := h
    go_enter Tryd.func9, Tryd.ntmps9
    go_wp2_with fail
    go_ret
    exact ⟨rfl, (Ch.refl No w).alloc _⟩
theorem st97 : strOfNums [97] = ⟨#[97]⟩ := by decide
theorem awake_ext (w : World) : Calls Tryd.prog 10 #[.slice (some ⟨w.heap.size, 0, none⟩) 3 3, .int .i8 10] (w.alloc (.cells #[.int .u8 212, .int .u8 10, .int .u8 97] 5)) (GeOk [97] [] (w.alloc (.cells #[.int .u8 212, .int .u8 10, .int .u8 97] 5))) := by
  have hrd := (Ow.lit 5 u8 w [212, 10, 97] (by simp [maxLen])).rd
  refine getExt_ok _ 10 [97] [] _ (by simp) (by simp) (reb_ok _ _ 10 [97] [] _ (Row.alloc _ [.slice none 0 0, .int .i8 10] 65) (by simp) ?_)
  exact rx_ok_212 (some ⟨w.heap.size, 0, none⟩) 3 10 10 [97] _ (hrd.keep0 ((Ch.refl No _).alloc _)) (by simp) (by decide) (by simp)
set_option maxRecDepth 100000 in
set_option maxHeartbeats 4000000 in
theorem lawExt_yes (t : Pk) (n kd : Int) (hk0 : -128 ≤ kd) (hk1 : kd ≤ 127) (s : ByteArray) (v4 : Value) (f : Int) (sh : Bool) (A : Option Addr) (l : List Int) (cap : Nat) (cut : Int) (w : World) (hs : Sh w) (ht : TrP w t [.int .i64 10, .int .u64 n, .string s, .int .i64 kd, v4]) (hf0 : 0 ≤ f) (hf1 : f < 18446744073709551616) (hr : Rd u8 w A l) (hle : l.length ≤ cap)
    (hC : ∀ (d : List Int) (k : Nat) (A : Option Addr) (c : Nat) (W : World), FitP t 6 → PutD t d → (k < d.length ∨ d = []) → Rd u8 W A (d.take k) → (d.take k).length ≤ c → Sh W → Calls Tryd.prog 10 #[.slice A (d.take k).length c, .int .i8 kd] W (GeNo W))
    (hG : ∀ (d : List Int) (A : Option Addr) (c : Nat) (W : World), FitP t 6 → PutD t d → l.length ≤ 100 → Rd u8 W A (d ++ l) → (d ++ l).length ≤ c → Sh W → Calls Tryd.prog 10 #[.slice A (d ++ l).length c, .int .i8 kd] W (GeOk (bys s) l W)) :
    Calls Tryd.prog 4 #[.agg #[.int .i64 10, .int .u64 n, .string s, .int .i64 kd, v4, .int .u64 f, .bool sh, .slice A l.length cap, .int .i64 cut], .int .i8 kd] w fun e w' => e = .returned (.bool true) ∧ Ch No w w' := by
  have hB := Row.alloc w [.int .i64 10, .int .u64 n, .string s, .int .i64 kd, v4, .int .u64 f, .bool sh, .slice A l.length cap, .int .i64 cut] 37
  have q0 := hB.cell 0 _ rfl
  have q1 := hB.cell 1 _ rfl
  have q2 := hB.cell 2 _ rfl
  have q3 := hB.cell 3 _ rfl
  have q4 := hB.cell 4 _ rfl
  have q5 := hB.cell 5 _ rfl
  have q6 := hB.cell 6 _ rfl
  have q7 := hB.cell 7 _ rfl
  have q8 := hB.cell 8 _ rfl
  have C1 : Ch No w (w.alloc (.cells #[.int .i64 10, .int .u64 n, .string s, .int .i64 kd, v4, .int .u64 f, .bool sh, .slice A l.length cap, .int .i64 cut] 37)) := (Ch.refl No w).alloc _
  have HC := hid hC
  have HG := hid hG
  clear hC hG
  by_cases hbig : 2147483647 < l.length
  · have hzz := fun W => zz_calls (.int .i64 10) (.int .u64 n) (.string s) (.int .i64 kd) v4 f sh A l.length cap cut W false (by show _ = true; exact decide_eq_true (by omega))
    go_enter Tryd.func4, Tryd.ntmps4
    go_wp2_with fail
    refine (hzz _).mono ?_
    rintro e w1 ⟨rfl, hch1⟩
    go_wp2_with fail
    go_ret
    exact ⟨rfl, C1.no_no hch1⟩
  have hzz := fun W => zz_calls (.int .i64 10) (.int .u64 n) (.string s) (.int .i64 kd) v4 f sh A l.length cap cut W true (by show _ = false; exact decide_eq_false (by omega))
  go_enter Tryd.func4, Tryd.ntmps4
  go_wp2_with fail
  refine (hzz _).mono ?_
  rintro e w1 ⟨rfl, hch1⟩
  have C2 := C1.no_no hch1
  have hB1 := hB.keep0 hch1
  clear hzz
  go_wp2_with fail
  refine (awake_ext w1).mono ?_
  rintro e w2 ⟨va, vb, rfl, hoa, _, hch2⟩
  obtain ⟨Aa, ca, rfl, _, _⟩ := hoa.slice
  have hcona := conv_rd (c := ca) hoa.rd w2 (Ch.refl _ _)
  rw [st97] at hcona
  replace hcona : (convert 24 9 (.slice Aa 1 ca)).run Tryd.prog w2 = .ok (.string ⟨#[97]⟩) w2 := hcona
  have C3 := (C2.alloc (.cells #[.int .u8 212, .int .u8 10, .int .u8 97] 5)).no_no hch2
  have hB2 := (hB1.keep0 ((Ch.refl No w1).alloc (.cells #[.int .u8 212, .int .u8 10, .int .u8 97] 5))).keep0 hch2
  have r0 := hB2.cell 0 _ rfl
  have r1 := hB2.cell 1 _ rfl
  have r2 := hB2.cell 2 _ rfl
  have r3 := hB2.cell 3 _ rfl
  have r4 := hB2.cell 4 _ rfl
  have r5 := hB2.cell 5 _ rfl
  have r6 := hB2.cell 6 _ rfl
  have r7 := hB2.cell 7 _ rfl
  have r8 := hB2.cell 8 _ rfl
  go_wp2_with fail
  refine (data_calls t (.int .i64 10) (.int .u64 n) (.string s) (.int .i64 kd) v4 f sh A l cap cut w w2 C3 ht hf0 hf1 (hr.keep0 C3)).mono ?_
  rintro e w3 ⟨hch3, hdt⟩
  have C4 := C3.no_no hch3
  have hB3 := hB2.keep0 hch3
  have hs3 := hs.keep0 C4
  have s0 := hB3.cell 0 _ rfl
  have s1 := hB3.cell 1 _ rfl
  have s2 := hB3.cell 2 _ rfl
  have s3 := hB3.cell 3 _ rfl
  have s4 := hB3.cell 4 _ rfl
  have s5 := hB3.cell 5 _ rfl
  have s6 := hB3.cell 6 _ rfl
  have s7 := hB3.cell 7 _ rfl
  have s8 := hB3.cell 8 _ rfl
  rcases hdt with ⟨x9, y9, cc, rfl⟩ | ⟨hfit, hl100, Ad, cd, d, hd, hdl, ⟨kk, hk, rfl, hrd, hcd⟩ | ⟨rfl, hrd, hcd⟩⟩
  · go_wp2_with fail
    go_ret
    exact ⟨rfl, C4⟩
  · have hno := HC.out d kk Ad cd w3 hfit hd hk hrd hcd hs3
    generalize (d.take kk).length = m at hno hcd ⊢
    clear hk hrd
    go_wp2_with fail
    refine hno.mono ?_
    rintro e w4 ⟨rfl, hch4⟩
    have C5 := C4.no_no hch4
    have hB4 := hB3.keep0 hch4
    have t0 := hB4.cell 0 _ rfl
    have t1 := hB4.cell 1 _ rfl
    have t2 := hB4.cell 2 _ rfl
    have t3 := hB4.cell 3 _ rfl
    have t4 := hB4.cell 4 _ rfl
    have t5 := hB4.cell 5 _ rfl
    have t6 := hB4.cell 6 _ rfl
    have t7 := hB4.cell 7 _ rfl
    have t8 := hB4.cell 8 _ rfl
    go_wp2_with fail
    go_ret
    exact ⟨rfl, C5⟩
  · have hget := HG.out d Ad cd w3 hfit hd hl100 hrd hcd hs3
    generalize (d ++ l).length = m at hget hcd ⊢
    clear hrd
    go_wp2_with fail
    refine hget.mono ?_
    rintro e w4 ⟨v4', v5', rfl, ho4, ho5, hch4⟩
    have C5 := C4.no_no hch4
    have hB4 := hB3.keep0 hch4
    have t0 := hB4.cell 0 _ rfl
    have t1 := hB4.cell 1 _ rfl
    have t2 := hB4.cell 2 _ rfl
    have t3 := hB4.cell 3 _ rfl
    have t4 := hB4.cell 4 _ rfl
    have t5 := hB4.cell 5 _ rfl
    have t6 := hB4.cell 6 _ rfl
    have t7 := hB4.cell 7 _ rfl
    have t8 := hB4.cell 8 _ rfl
    obtain ⟨A4, c4, rfl, _, _⟩ := ho4.slice
    obtain ⟨A5, c5, rfl, _, _⟩ := ho5.slice
    have hcv := conv_rd (c := c4) ho4.rd w4 (Ch.refl _ _)
    rw [str_bys] at hcv
    have hlf := left_calls A5 A c5 cap l w4 ho5.rd (hr.keep0 C5)
    have HLF := hid hlf
    clear hlf
    go_wp2_with fail
    refine HLF.out.mono ?_
    rintro e w6 ⟨rfl, hch6⟩
    go_wp2_with fail
    go_ret
    exact ⟨rfl, C5.no_no hch6⟩
set_option maxRecDepth 100000 in
set_option maxHeartbeats 4000000 in
theorem lawExt_kind (t : Pk) (n kd : Int) (hk0 : -128 ≤ kd) (hk1 : kd ≤ 127) (k : Int) (k10 : k ≠ 10) (v2 v3 : Value) (v4 : Value) (f : Int) (sh : Bool) (A : Option Addr) (l : List Int) (cap : Nat) (cut : Int) (w : World) (hs : Sh w) (ht : TrP w t [.int .i64 k, .int .u64 n, v2, v3, v4]) (hf0 : 0 ≤ f) (hf1 : f < 18446744073709551616) (hr : Rd u8 w A l) (hle : l.length ≤ cap)
    (hC : ∀ (d : List Int) (k : Nat) (A : Option Addr) (c : Nat) (W : World), FitP t 6 → PutD t d → (k < d.length ∨ d = []) → Rd u8 W A (d.take k) → (d.take k).length ≤ c → Sh W → Calls Tryd.prog 10 #[.slice A (d.take k).length c, .int .i8 kd] W (GeNo W))
    (hG : ∀ (d : List Int) (A : Option Addr) (c : Nat) (W : World), FitP t 6 → PutD t d → l.length ≤ 100 → Rd u8 W A (d ++ l) → (d ++ l).length ≤ c → Sh W → Calls Tryd.prog 10 #[.slice A (d ++ l).length c, .int .i8 kd] W (GeNo W)) :
    Calls Tryd.prog 4 #[.agg #[.int .i64 k, .int .u64 n, v2, v3, v4, .int .u64 f, .bool sh, .slice A l.length cap, .int .i64 cut], .int .i8 kd] w fun e w' => e = .returned (.bool true) ∧ Ch No w w' := by
  have hB := Row.alloc w [.int .i64 k, .int .u64 n, v2, v3, v4, .int .u64 f, .bool sh, .slice A l.length cap, .int .i64 cut] 37
  have q0 := hB.cell 0 _ rfl
  have q1 := hB.cell 1 _ rfl
  have q2 := hB.cell 2 _ rfl
  have q3 := hB.cell 3 _ rfl
  have q4 := hB.cell 4 _ rfl
  have q5 := hB.cell 5 _ rfl
  have q6 := hB.cell 6 _ rfl
  have q7 := hB.cell 7 _ rfl
  have q8 := hB.cell 8 _ rfl
  have e7 : (k == 10) = false := beq_eq_false_iff_ne.2 k10
  have f7 : (k != 10) = true := bne_iff_ne.2 k10
  have g7 : decide (k = 10) = false := decide_eq_false k10
  have C1 : Ch No w (w.alloc (.cells #[.int .i64 k, .int .u64 n, v2, v3, v4, .int .u64 f, .bool sh, .slice A l.length cap, .int .i64 cut] 37)) := (Ch.refl No w).alloc _
  have HC := hid hC
  have HG := hid hG
  clear hC hG
  by_cases hbig : 2147483647 < l.length
  · have hzz := fun W => zz_calls (.int .i64 k) (.int .u64 n) v2 v3 v4 f sh A l.length cap cut W false (by show _ = true; exact decide_eq_true (by omega))
    go_enter Tryd.func4, Tryd.ntmps4
    go_wp2_with fail
    refine (hzz _).mono ?_
    rintro e w1 ⟨rfl, hch1⟩
    go_wp2_with fail
    go_ret
    exact ⟨rfl, C1.no_no hch1⟩
  have hzz := fun W => zz_calls (.int .i64 k) (.int .u64 n) v2 v3 v4 f sh A l.length cap cut W true (by show _ = false; exact decide_eq_false (by omega))
  go_enter Tryd.func4, Tryd.ntmps4
  go_wp2_with fail
  refine (hzz _).mono ?_
  rintro e w1 ⟨rfl, hch1⟩
  have C2 := C1.no_no hch1
  have hB1 := hB.keep0 hch1
  clear hzz
  go_wp2_with fail
  refine (awake_ext w1).mono ?_
  rintro e w2 ⟨va, vb, rfl, hoa, _, hch2⟩
  obtain ⟨Aa, ca, rfl, _, _⟩ := hoa.slice
  have hcona := conv_rd (c := ca) hoa.rd w2 (Ch.refl _ _)
  rw [st97] at hcona
  replace hcona : (convert 24 9 (.slice Aa 1 ca)).run Tryd.prog w2 = .ok (.string ⟨#[97]⟩) w2 := hcona
  have C3 := (C2.alloc (.cells #[.int .u8 212, .int .u8 10, .int .u8 97] 5)).no_no hch2
  have hB2 := (hB1.keep0 ((Ch.refl No w1).alloc (.cells #[.int .u8 212, .int .u8 10, .int .u8 97] 5))).keep0 hch2
  have r0 := hB2.cell 0 _ rfl
  have r1 := hB2.cell 1 _ rfl
  have r2 := hB2.cell 2 _ rfl
  have r3 := hB2.cell 3 _ rfl
  have r4 := hB2.cell 4 _ rfl
  have r5 := hB2.cell 5 _ rfl
  have r6 := hB2.cell 6 _ rfl
  have r7 := hB2.cell 7 _ rfl
  have r8 := hB2.cell 8 _ rfl
  go_wp2_with fail
  refine (data_calls t (.int .i64 k) (.int .u64 n) v2 v3 v4 f sh A l cap cut w w2 C3 ht hf0 hf1 (hr.keep0 C3)).mono ?_
  rintro e w3 ⟨hch3, hdt⟩
  have C4 := C3.no_no hch3
  have hB3 := hB2.keep0 hch3
  have hs3 := hs.keep0 C4
  have s0 := hB3.cell 0 _ rfl
  have s1 := hB3.cell 1 _ rfl
  have s2 := hB3.cell 2 _ rfl
  have s3 := hB3.cell 3 _ rfl
  have s4 := hB3.cell 4 _ rfl
  have s5 := hB3.cell 5 _ rfl
  have s6 := hB3.cell 6 _ rfl
  have s7 := hB3.cell 7 _ rfl
  have s8 := hB3.cell 8 _ rfl
  rcases hdt with ⟨x9, y9, cc, rfl⟩ | ⟨hfit, hl100, Ad, cd, d, hd, hdl, ⟨kk, hk, rfl, hrd, hcd⟩ | ⟨rfl, hrd, hcd⟩⟩
  · go_wp2_with fail
    go_ret
    exact ⟨rfl, C4⟩
  · have hno := HC.out d kk Ad cd w3 hfit hd hk hrd hcd hs3
    generalize (d.take kk).length = m at hno hcd ⊢
    clear hk hrd
    go_wp2_with fail
    refine hno.mono ?_
    rintro e w4 ⟨rfl, hch4⟩
    have C5 := C4.no_no hch4
    have hB4 := hB3.keep0 hch4
    have t0 := hB4.cell 0 _ rfl
    have t1 := hB4.cell 1 _ rfl
    have t2 := hB4.cell 2 _ rfl
    have t3 := hB4.cell 3 _ rfl
    have t4 := hB4.cell 4 _ rfl
    have t5 := hB4.cell 5 _ rfl
    have t6 := hB4.cell 6 _ rfl
    have t7 := hB4.cell 7 _ rfl
    have t8 := hB4.cell 8 _ rfl
    go_wp2_with fail
    go_ret
    exact ⟨rfl, C5⟩
  · have hget := HG.out d Ad cd w3 hfit hd hl100 hrd hcd hs3
    generalize (d ++ l).length = m at hget hcd ⊢
    clear hrd
    go_wp2_with fail
    refine hget.mono ?_
    rintro e w4 ⟨rfl, hch4⟩
    have C5 := C4.no_no hch4
    have hB4 := hB3.keep0 hch4
    have t0 := hB4.cell 0 _ rfl
    have t1 := hB4.cell 1 _ rfl
    have t2 := hB4.cell 2 _ rfl
    have t3 := hB4.cell 3 _ rfl
    have t4 := hB4.cell 4 _ rfl
    have t5 := hB4.cell 5 _ rfl
    have t6 := hB4.cell 6 _ rfl
    have t7 := hB4.cell 7 _ rfl
    have t8 := hB4.cell 8 _ rfl
    go_wp2_with fail
    go_ret
    exact ⟨rfl, C5⟩
set_option maxRecDepth 100000 in
set_option maxHeartbeats 4000000 in
theorem lawExt_type (t : Pk) (n kd : Int) (hk0 : -128 ≤ kd) (hk1 : kd ≤ 127) (x : Int) (xk : x ≠ kd) (v2 : Value) (v4 : Value) (f : Int) (sh : Bool) (A : Option Addr) (l : List Int) (cap : Nat) (cut : Int) (w : World) (hs : Sh w) (ht : TrP w t [.int .i64 10, .int .u64 n, v2, .int .i64 x, v4]) (hf0 : 0 ≤ f) (hf1 : f < 18446744073709551616) (hr : Rd u8 w A l) (hle : l.length ≤ cap)
    (hC : ∀ (d : List Int) (k : Nat) (A : Option Addr) (c : Nat) (W : World), FitP t 6 → PutD t d → (k < d.length ∨ d = []) → Rd u8 W A (d.take k) → (d.take k).length ≤ c → Sh W → Calls Tryd.prog 10 #[.slice A (d.take k).length c, .int .i8 kd] W (GeNo W))
    (hG : ∀ (d : List Int) (A : Option Addr) (c : Nat) (W : World), FitP t 6 → PutD t d → l.length ≤ 100 → Rd u8 W A (d ++ l) → (d ++ l).length ≤ c → Sh W → Calls Tryd.prog 10 #[.slice A (d ++ l).length c, .int .i8 kd] W (GeNo W)) :
    Calls Tryd.prog 4 #[.agg #[.int .i64 10, .int .u64 n, v2, .int .i64 x, v4, .int .u64 f, .bool sh, .slice A l.length cap, .int .i64 cut], .int .i8 kd] w fun e w' => e = .returned (.bool true) ∧ Ch No w w' := by
  have hB := Row.alloc w [.int .i64 10, .int .u64 n, v2, .int .i64 x, v4, .int .u64 f, .bool sh, .slice A l.length cap, .int .i64 cut] 37
  have q0 := hB.cell 0 _ rfl
  have q1 := hB.cell 1 _ rfl
  have q2 := hB.cell 2 _ rfl
  have q3 := hB.cell 3 _ rfl
  have q4 := hB.cell 4 _ rfl
  have q5 := hB.cell 5 _ rfl
  have q6 := hB.cell 6 _ rfl
  have q7 := hB.cell 7 _ rfl
  have q8 := hB.cell 8 _ rfl
  have e7 : (x == kd) = false := beq_eq_false_iff_ne.2 xk
  have f7 : (x != kd) = true := bne_iff_ne.2 xk
  have g7 : decide (x = kd) = false := decide_eq_false xk
  have C1 : Ch No w (w.alloc (.cells #[.int .i64 10, .int .u64 n, v2, .int .i64 x, v4, .int .u64 f, .bool sh, .slice A l.length cap, .int .i64 cut] 37)) := (Ch.refl No w).alloc _
  have HC := hid hC
  have HG := hid hG
  clear hC hG
  by_cases hbig : 2147483647 < l.length
  · have hzz := fun W => zz_calls (.int .i64 10) (.int .u64 n) v2 (.int .i64 x) v4 f sh A l.length cap cut W false (by show _ = true; exact decide_eq_true (by omega))
    go_enter Tryd.func4, Tryd.ntmps4
    go_wp2_with fail
    refine (hzz _).mono ?_
    rintro e w1 ⟨rfl, hch1⟩
    go_wp2_with fail
    go_ret
    exact ⟨rfl, C1.no_no hch1⟩
  have hzz := fun W => zz_calls (.int .i64 10) (.int .u64 n) v2 (.int .i64 x) v4 f sh A l.length cap cut W true (by show _ = false; exact decide_eq_false (by omega))
  go_enter Tryd.func4, Tryd.ntmps4
  go_wp2_with fail
  refine (hzz _).mono ?_
  rintro e w1 ⟨rfl, hch1⟩
  have C2 := C1.no_no hch1
  have hB1 := hB.keep0 hch1
  clear hzz
  go_wp2_with fail
  refine (awake_ext w1).mono ?_
  rintro e w2 ⟨va, vb, rfl, hoa, _, hch2⟩
  obtain ⟨Aa, ca, rfl, _, _⟩ := hoa.slice
  have hcona := conv_rd (c := ca) hoa.rd w2 (Ch.refl _ _)
  rw [st97] at hcona
  replace hcona : (convert 24 9 (.slice Aa 1 ca)).run Tryd.prog w2 = .ok (.string ⟨#[97]⟩) w2 := hcona
  have C3 := (C2.alloc (.cells #[.int .u8 212, .int .u8 10, .int .u8 97] 5)).no_no hch2
  have hB2 := (hB1.keep0 ((Ch.refl No w1).alloc (.cells #[.int .u8 212, .int .u8 10, .int .u8 97] 5))).keep0 hch2
  have r0 := hB2.cell 0 _ rfl
  have r1 := hB2.cell 1 _ rfl
  have r2 := hB2.cell 2 _ rfl
  have r3 := hB2.cell 3 _ rfl
  have r4 := hB2.cell 4 _ rfl
  have r5 := hB2.cell 5 _ rfl
  have r6 := hB2.cell 6 _ rfl
  have r7 := hB2.cell 7 _ rfl
  have r8 := hB2.cell 8 _ rfl
  go_wp2_with fail
  refine (data_calls t (.int .i64 10) (.int .u64 n) v2 (.int .i64 x) v4 f sh A l cap cut w w2 C3 ht hf0 hf1 (hr.keep0 C3)).mono ?_
  rintro e w3 ⟨hch3, hdt⟩
  have C4 := C3.no_no hch3
  have hB3 := hB2.keep0 hch3
  have hs3 := hs.keep0 C4
  have s0 := hB3.cell 0 _ rfl
  have s1 := hB3.cell 1 _ rfl
  have s2 := hB3.cell 2 _ rfl
  have s3 := hB3.cell 3 _ rfl
  have s4 := hB3.cell 4 _ rfl
  have s5 := hB3.cell 5 _ rfl
  have s6 := hB3.cell 6 _ rfl
  have s7 := hB3.cell 7 _ rfl
  have s8 := hB3.cell 8 _ rfl
  rcases hdt with ⟨x9, y9, cc, rfl⟩ | ⟨hfit, hl100, Ad, cd, d, hd, hdl, ⟨kk, hk, rfl, hrd, hcd⟩ | ⟨rfl, hrd, hcd⟩⟩
  · go_wp2_with fail
    go_ret
    exact ⟨rfl, C4⟩
  · have hno := HC.out d kk Ad cd w3 hfit hd hk hrd hcd hs3
    generalize (d.take kk).length = m at hno hcd ⊢
    clear hk hrd
    go_wp2_with fail
    refine hno.mono ?_
    rintro e w4 ⟨rfl, hch4⟩
    have C5 := C4.no_no hch4
    have hB4 := hB3.keep0 hch4
    have t0 := hB4.cell 0 _ rfl
    have t1 := hB4.cell 1 _ rfl
    have t2 := hB4.cell 2 _ rfl
    have t3 := hB4.cell 3 _ rfl
    have t4 := hB4.cell 4 _ rfl
    have t5 := hB4.cell 5 _ rfl
    have t6 := hB4.cell 6 _ rfl
    have t7 := hB4.cell 7 _ rfl
    have t8 := hB4.cell 8 _ rfl
    go_wp2_with fail
    go_ret
    exact ⟨rfl, C5⟩
  · have hget := HG.out d Ad cd w3 hfit hd hl100 hrd hcd hs3
    generalize (d ++ l).length = m at hget hcd ⊢
    clear hrd
    go_wp2_with fail
    refine hget.mono ?_
    rintro e w4 ⟨rfl, hch4⟩
    have C5 := C4.no_no hch4
    have hB4 := hB3.keep0 hch4
    have t0 := hB4.cell 0 _ rfl
    have t1 := hB4.cell 1 _ rfl
    have t2 := hB4.cell 2 _ rfl
    have t3 := hB4.cell 3 _ rfl
    have t4 := hB4.cell 4 _ rfl
    have t5 := hB4.cell 5 _ rfl
    have t6 := hB4.cell 6 _ rfl
    have t7 := hB4.cell 7 _ rfl
    have t8 := hB4.cell 8 _ rfl
    go_wp2_with fail
    go_ret
    exact ⟨rfl, C5⟩

theorem FnGetExtLaw (t : Pk) (v0 v1 v2 v3 v4 : Value) (f : Int) (sh : Bool) (A : Option Addr) (l : List Int) (cap : Nat) (cut kd : Int) (w : World) (hs : Sh w) (ht : TrP w t [v0, v1, v2, v3, v4]) (hf0 : 0 ≤ f) (hf1 : f < 18446744073709551616) (hr : Rd u8 w A l) (hle : l.length ≤ cap) (hb : Byt l) (hk0 : -128 ≤ kd) (hk1 : kd ≤ 127) :
    Calls Tryd.prog 4 #[.agg #[v0, v1, v2, v3, v4, .int .u64 f, .bool sh, .slice A l.length cap, .int .i64 cut], .int .i8 kd] w fun e w' => e = .returned (.bool true) ∧ Ch No w w' := by
  obtain ⟨k, n, s, x, m, K⟩ := t
  have ht' := ht
  obtain ⟨Ak, ck, he, _, hwn, _⟩ := ht'
  simp only [List.cons.injEq, and_true] at he
  obtain ⟨rfl, rfl, rfl, rfl, rfl⟩ := he
  have hn := bounds_u64 hwn
  have hno : ∀ (L : List Int) (A : Option Addr) (c : Nat) (W : World), (∀ W', Ch No W W' → Calls Tryd.prog 36 #[.slice A L.length c] W' (RxNo W')) → Calls Tryd.prog 10 #[.slice A L.length c, .int .i8 kd] W (GeNo W) := fun L A c W h =>
    getExt_no _ kd W (reb_no _ _ _ (h _ ((Ch.refl No W).alloc _)))
  by_cases k10 : k = 10
  · subst k10
    have hfx : FitP (.mk 10 n s x m K) 6 → -128 ≤ x ∧ x ≤ 127 ∧ s.size ≤ 131072 := fun h => by unfold FitP at h; exact ⟨h.2.2.2.2.2.2.2.1, h.2.2.2.2.2.2.2.2.1, h.2.2.2.2.2.2.2.2.2.2.2.2.2.1⟩
    have hC : ∀ (d : List Int) (k : Nat) (A : Option Addr) (c : Nat) (W : World), FitP (.mk 10 n s x m K) 6 → PutD (.mk 10 n s x m K) d → (k < d.length ∨ d = []) → Rd u8 W A (d.take k) → (d.take k).length ≤ c → Sh W → Calls Tryd.prog 10 #[.slice A (d.take k).length c, .int .i8 kd] W (GeNo W) := fun d k A c W hf hd hk hr hc hs =>
      hno _ A c W (fun W' h => rx_cutoff hd (hfx hf).1 (hfx hf).2.1 k hk A c W' (hs.keep0 h) (hr.keep0 h) hc)
    by_cases xk : x = kd
    · subst xk
      exact lawExt_yes _ n x hk0 hk1 s _ f sh A l cap cut w hs ht hf0 hf1 hr hle hC (fun d A c W hf hd hl hr hc hs => getExt_ok _ x (bys s) l W (by have := bys_len s; have := (hfx hf).2.2; omega) (by omega) (reb_ok _ _ x (bys s) l _ (Row.alloc W [.slice none 0 0, .int .i8 x] 65) (by have := bys_len s; have := (hfx hf).2.2; omega) (rx_good hd hk0 hk1 A c l _ hb (hr.keep0 ((Ch.refl No W).alloc _)) hc)))
    · exact lawExt_type _ n kd hk0 hk1 x xk _ _ f sh A l cap cut w hs ht hf0 hf1 hr hle hC (fun d A c W hf hd hl hr hc hs => getExt_no _ kd W (reb_bad _ _ kd x (bys s) l _ (Row.alloc W [.slice none 0 0, .int .i8 kd] 65) xk (rx_good hd (hfx hf).1 (hfx hf).2.1 A c l _ hb (hr.keep0 ((Ch.refl No W).alloc _)) hc)))
  · have hnx : ∀ d, FitP (.mk k n s x m K) 6 → PutD (.mk k n s x m K) d → Next d := fun d hf hd =>
      next_form hd hn.1 (by omega) (by unfold FitP at hf; exact hf.2.2.2.2.2.2.2.2.2.1) k10
    refine lawExt_kind _ n kd hk0 hk1 k k10 _ _ _ f sh A l cap cut w hs ht hf0 hf1 hr hle (fun d k' A c W hf hd _ hr hc hs => ?_) (fun d A c W hf hd hl hr hc hs => ?_)
    · refine hno _ A c W (fun W' h => ?_)
      rcases next_take (hnx d hf hd) k' with h9 | h9
      · exact rx_tiny A c _ W' (hs.keep0 h) (by rw [h9]; simp)
      · exact rx_next h9 A c W' (hs.keep0 h) (hr.keep0 h)
    · refine hno _ A c W (fun W' h => ?_)
      obtain ⟨b, r, rfl, h0, h1, h2⟩ := hnx d hf hd
      exact rx_next ⟨b, r ++ l, rfl, h0, h1, h2⟩ A c W' (hs.keep0 h) (hr.keep0 h)
end Go.Proofs.YtfelmhfdklakpaaDoor
