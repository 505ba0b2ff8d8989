/- The law of AMQP's reader of doubles, whole. No condition. -/
import Derived.Test.YtbdgkikipekmlaaDoorLawDb
namespace Go.Proofs.YtbdgkikipekmlaaDoor
set_option linter.unusedVariables false
set_option linter.unusedSimpArgs false
open Go.RowKit

def L5 : List Int := [130, 0, 0, 0, 0, 0, 0, 0, 5]
theorem awake_dw (w : World) : Calls Tryd.prog 11 #[.int .u64 5] w fun e w' => ∃ A c, e = .returned (.tuple #[.slice A 9 c, .bool true]) ∧ Rd u8 w' A L5 ∧ 9 ≤ c ∧ Ch No w w' :=
  (implWriteDouble 5 w (by omega)).mono fun e w' ⟨A, c, h1, h2, h3, h4⟩ => ⟨A, c, h1, h2, h3, h4⟩
theorem awake_dr (A : Option Addr) (c : Nat) (w : World) (hr : Rd u8 w A L5) : Calls Tryd.prog 12 #[.slice A 9 c] w (RvT (.int .u64 5) [] w) :=
  (implReadDouble_ok A c L5 w hr (by simp [L5]) rfl (fun x hx => by simp [L5] at hx; omega) (by simp [L5])).mono fun e w' ⟨A', c', h1, h2, h3, h4⟩ => ⟨A', c', h1, h2, h3, h4⟩
theorem double_taken (A : Option Addr) (c : Nat) (n : Int) (l : List Int) (w : World) (hr : Rd u8 w A (130 :: bg n 8 ++ l)) (h0 : 0 ≤ n) (h1 : n < 18446744073709551616) (hb : Byt l) (hl : l.length ≤ 1000) :
    Calls Tryd.prog 12 #[.slice A (130 :: bg n 8 ++ l).length c] w (RvT (.int .u64 n) l w) := by
  have h8 := bg_len n 8
  have h := implReadDouble_ok A c (130 :: bg n 8 ++ l) w hr (by simp [h8]) rfl (byt_cons (by omega) ((byt_bg n 8).append hb)) (by simp [h8]; omega)
  have e1 : ((130 :: bg n 8 ++ l).drop 1).take 8 = bg n 8 := by
    simp only [List.cons_append, List.drop_succ_cons, List.drop_zero]
    rw [List.take_append_of_le_length (by omega), List.take_of_length_le (by omega)]
  have e2 : (130 :: bg n 8 ++ l).drop 9 = l := by
    simp only [List.cons_append, List.drop_succ_cons]
    rw [List.drop_append_of_le_length (by omega), List.drop_of_length_le (by omega), List.nil_append]
  rw [e1, e2, beN_bgr8 n h0 h1] at h
  exact h
set_option maxRecDepth 100000 in
set_option maxHeartbeats 4000000 in
theorem lawDb_db (n o : Int) (s : ByteArray) (m d : Nat) (K : Fin m → Va) (D : Fin d → Va) (Ak Bk : Option Addr) (ck cb : Nat) (f : Int) (A : Option Addr) (l : List Int) (cap : Nat) (cut : Int) (w : World) (hT : Lds w) (ht : VaP w (.mk 11 n s m K o d D) [.int .i64 11, .int .u64 n, .string s, .slice Ak m ck, .int .i64 o, .slice Bk d cb]) (hf0 : 0 ≤ f) (hf1 : f < 18446744073709551616) (hr : Rd u8 w A l) (hle : l.length ≤ cap) (hb : Byt l)  :
    Calls Tryd.prog 3 #[.agg #[.int .i64 11, .int .u64 n, .string s, .slice Ak m ck, .int .i64 o, .slice Bk d cb, .int .u64 f, .slice A l.length cap, .int .i64 cut]] w fun e w' => e = .returned (.bool true) ∧ Ch No w w' := by
  have hB := Row.alloc w [.int .i64 11, .int .u64 n, .string s, .slice Ak m ck, .int .i64 o, .slice Bk d cb, .int .u64 f, .slice A l.length cap, .int .i64 cut] 28
  have q0 := hB.cell 0 _ rfl
  have q1 := hB.cell 1 _ rfl
  have q2 := hB.cell 2 _ rfl
  have q3 := hB.cell 3 _ rfl
  have q4 := hB.cell 4 _ rfl
  have q5 := hB.cell 5 _ rfl
  have q6 := hB.cell 6 _ rfl
  have q7 := hB.cell 7 _ rfl
  have q8 := hB.cell 8 _ rfl
  have C1 : Ch No w (w.alloc (.cells #[.int .i64 11, .int .u64 n, .string s, .slice Ak m ck, .int .i64 o, .slice Bk d cb, .int .u64 f, .slice A l.length cap, .int .i64 cut] 28)) := (Ch.refl No w).alloc _
  by_cases hbig : 2147483647 < l.length
  · have hzz := fun W => zz_calls (.int .i64 11) (.int .u64 n) (.string s) (.slice Ak m ck) (.int .i64 o) (.slice Bk d cb) f A l.length cap cut W false (by show _ = true; exact decide_eq_true (by omega))
    go_enter Tryd.func3, Tryd.ntmps3
    go_wp2_with fail
    refine (hzz _).mono ?_
    rintro e w1 ⟨rfl, hch1⟩
    go_wp2_with fail
    go_ret
    exact ⟨rfl, C1.no_no hch1⟩
  have hzz := fun W => zz_calls (.int .i64 11) (.int .u64 n) (.string s) (.slice Ak m ck) (.int .i64 o) (.slice Bk d cb) f A l.length cap cut W true (by show _ = false; exact decide_eq_false (by omega))
  go_enter Tryd.func3, Tryd.ntmps3
  go_wp2_with fail
  refine (hzz _).mono ?_
  rintro e w1 ⟨rfl, hch1⟩
  have C2 := C1.no_no hch1
  have hB1 := hB.keep0 hch1
  have hT1 := hT.keep0 C2
  clear hzz
  have qa0 := hB1.cell 0 _ rfl
  have qa1 := hB1.cell 1 _ rfl
  have qa2 := hB1.cell 2 _ rfl
  have qa3 := hB1.cell 3 _ rfl
  have qa4 := hB1.cell 4 _ rfl
  have qa5 := hB1.cell 5 _ rfl
  have qa6 := hB1.cell 6 _ rfl
  have qa7 := hB1.cell 7 _ rfl
  have qa8 := hB1.cell 8 _ rfl
  go_wp2_with fail
  refine (awake_dw w1).mono ?_
  rintro e w1a ⟨Aa, ca, rfl, hra, _, hch1a⟩
  go_wp2_with fail
  refine (awake_dr Aa ca w1a hra).mono ?_
  rintro e w2 ⟨Ab, cb2, rfl, hrb, _, hch2⟩
  have C3 := (C2.no_no hch1a).no_no hch2
  have hB2 := (hB1.keep0 hch1a).keep0 hch2
  have r0 := hB2.cell 0 _ rfl
  have r1 := hB2.cell 1 _ rfl
  have r2 := hB2.cell 2 _ rfl
  have r3 := hB2.cell 3 _ rfl
  have r4 := hB2.cell 4 _ rfl
  have r5 := hB2.cell 5 _ rfl
  have r6 := hB2.cell 6 _ rfl
  have r7 := hB2.cell 7 _ rfl
  have r8 := hB2.cell 8 _ rfl
  have hT2 := hT.keep0 C3
  go_wp2_with fail
  refine (data_calls 11 n o s m d K D (.int .i64 11) (.int .u64 n) (.string s) (.slice Ak m ck) (.int .i64 o) Bk cb f A l cap cut w w2 C3 hT2 ht hf0 hf1 (hr.keep0 C3)).mono ?_
  rintro e w3 ⟨hch3, hdt⟩
  have C4 := C3.no_no hch3
  have hB3 := hB2.keep0 hch3
  have hT3 := hT.keep0 C4
  have s0 := hB3.cell 0 _ rfl
  have s1 := hB3.cell 1 _ rfl
  have s2 := hB3.cell 2 _ rfl
  have s3 := hB3.cell 3 _ rfl
  have s4 := hB3.cell 4 _ rfl
  have s5 := hB3.cell 5 _ rfl
  have s6 := hB3.cell 6 _ rfl
  have s7 := hB3.cell 7 _ rfl
  have s8 := hB3.cell 8 _ rfl
  rcases hdt with ⟨x, y, cc, rfl⟩ | ⟨hask, Ad, cd, dd, hd, hdl, ⟨kk, hk, rfl, hrd, hcd⟩ | ⟨rfl, hrd, hcd⟩⟩
  · go_wp2_with fail
    go_ret
    exact ⟨rfl, C4⟩
  · have hno := hid (double_refused Ad cd (dd.take kk) w3 hrd (by have := hask.bl; simp only [List.length_take, List.length_append]; omega) hT3.2 (refDb_cut (.inl ⟨n, db_form hask.ds hd⟩) kk hk))
    generalize (dd.take kk).length = M at hno hcd ⊢
    clear hk hrd
    go_wp2_with fail
    refine hno.out.mono ?_
    rintro e w6 ⟨rfl, hch6⟩
    have hB6 := hB3.keep0 hch6
    have z0 := hB6.cell 0 _ rfl
    go_wp2_with fail
    go_ret
    exact ⟨rfl, C4.no_no hch6⟩
  · have hff := fit_parts hask.fit
    have hpl := fit_plain hask.fit
    obtain rfl : m = 0 := hpl.1 (by omega) (by omega) (by omega)
    obtain rfl : s = ⟨#[]⟩ := bytes_nil (hpl.2.1 (by omega) (.inl (by omega)))
    obtain rfl : d = 0 := hask.ds
    obtain rfl := db_form rfl hd
    have hok := hid (double_taken Ad cd n l w3 hrd hff.2.2.2.2.1 hff.2.2.2.2.2.1 hb (by have := hask.bl; omega))
    have hlf := hid (fun (A5 : Option Addr) (c5 : Nat) W (h5 : Rd u8 W A5 l) (h : Ch No w W) => left_calls A5 A c5 cap l W h5 (hr.keep0 h))
    have hsm := hid (fun W => same_true 11 n o 0 ⟨#[]⟩ Ak Bk none none ck cb 0 0 W)
    generalize (130 :: bg n 8 ++ l).length = M at hok hcd ⊢
    clear hrd hd hdl hask hff hpl
    go_wp2_with fail
    refine hok.out.mono ?_
    rintro e w6 ⟨A6, c6, rfl, hr6, hc6, hch6⟩
    have hB6 := hB3.keep0 hch6
    have z0 := hB6.cell 0 _ rfl
    have z1 := hB6.cell 1 _ rfl
    have z2 := hB6.cell 2 _ rfl
    have z3 := hB6.cell 3 _ rfl
    have z4 := hB6.cell 4 _ rfl
    have z5 := hB6.cell 5 _ rfl
    have C6 := C4.no_no hch6
    go_wp2_with fail
    refine (hsm.out w6).mono ?_
    rintro e w7 ⟨rfl, hch7⟩
    go_wp2_with fail
    refine (hlf.out A6 c6 w7 (hr6.keep0 hch7) (C6.no_no hch7)).mono ?_
    rintro e w8 ⟨rfl, hch8⟩
    go_wp2_with fail
    go_ret
    exact ⟨rfl, (C6.no_no hch7).no_no hch8⟩
set_option maxRecDepth 100000 in
set_option maxHeartbeats 4000000 in
theorem lawDb_oth (k n o : Int) (s : ByteArray) (m d : Nat) (K : Fin m → Va) (D : Fin d → Va) (Ak Bk : Option Addr) (ck cb : Nat) (f : Int) (A : Option Addr) (l : List Int) (cap : Nat) (cut : Int) (w : World) (hT : Lds w) (ht : VaP w (.mk k n s m K o d D) [.int .i64 k, .int .u64 n, .string s, .slice Ak m ck, .int .i64 o, .slice Bk d cb]) (hf0 : 0 ≤ f) (hf1 : f < 18446744073709551616) (hr : Rd u8 w A l) (hle : l.length ≤ cap) (hb : Byt l) (hk : k ≠ 11) :
    Calls Tryd.prog 3 #[.agg #[.int .i64 k, .int .u64 n, .string s, .slice Ak m ck, .int .i64 o, .slice Bk d cb, .int .u64 f, .slice A l.length cap, .int .i64 cut]] w fun e w' => e = .returned (.bool true) ∧ Ch No w w' := by
  have e11 : (k == 11) = false := beq_eq_false_iff_ne.2 hk
  have f11 : (k != 11) = true := bne_iff_ne.2 hk
  have g11 : decide (k = 11) = false := decide_eq_false hk
  have HKN := hid hk
  clear hk
  have hB := Row.alloc w [.int .i64 k, .int .u64 n, .string s, .slice Ak m ck, .int .i64 o, .slice Bk d cb, .int .u64 f, .slice A l.length cap, .int .i64 cut] 28
  have q0 := hB.cell 0 _ rfl
  have q1 := hB.cell 1 _ rfl
  have q2 := hB.cell 2 _ rfl
  have q3 := hB.cell 3 _ rfl
  have q4 := hB.cell 4 _ rfl
  have q5 := hB.cell 5 _ rfl
  have q6 := hB.cell 6 _ rfl
  have q7 := hB.cell 7 _ rfl
  have q8 := hB.cell 8 _ rfl
  have C1 : Ch No w (w.alloc (.cells #[.int .i64 k, .int .u64 n, .string s, .slice Ak m ck, .int .i64 o, .slice Bk d cb, .int .u64 f, .slice A l.length cap, .int .i64 cut] 28)) := (Ch.refl No w).alloc _
  by_cases hbig : 2147483647 < l.length
  · have hzz := fun W => zz_calls (.int .i64 k) (.int .u64 n) (.string s) (.slice Ak m ck) (.int .i64 o) (.slice Bk d cb) f A l.length cap cut W false (by show _ = true; exact decide_eq_true (by omega))
    go_enter Tryd.func3, Tryd.ntmps3
    go_wp2_with fail
    refine (hzz _).mono ?_
    rintro e w1 ⟨rfl, hch1⟩
    go_wp2_with fail
    go_ret
    exact ⟨rfl, C1.no_no hch1⟩
  have hzz := fun W => zz_calls (.int .i64 k) (.int .u64 n) (.string s) (.slice Ak m ck) (.int .i64 o) (.slice Bk d cb) f A l.length cap cut W true (by show _ = false; exact decide_eq_false (by omega))
  go_enter Tryd.func3, Tryd.ntmps3
  go_wp2_with fail
  refine (hzz _).mono ?_
  rintro e w1 ⟨rfl, hch1⟩
  have C2 := C1.no_no hch1
  have hB1 := hB.keep0 hch1
  have hT1 := hT.keep0 C2
  clear hzz
  have qa0 := hB1.cell 0 _ rfl
  have qa1 := hB1.cell 1 _ rfl
  have qa2 := hB1.cell 2 _ rfl
  have qa3 := hB1.cell 3 _ rfl
  have qa4 := hB1.cell 4 _ rfl
  have qa5 := hB1.cell 5 _ rfl
  have qa6 := hB1.cell 6 _ rfl
  have qa7 := hB1.cell 7 _ rfl
  have qa8 := hB1.cell 8 _ rfl
  go_wp2_with fail
  refine (awake_dw w1).mono ?_
  rintro e w1a ⟨Aa, ca, rfl, hra, _, hch1a⟩
  go_wp2_with fail
  refine (awake_dr Aa ca w1a hra).mono ?_
  rintro e w2 ⟨Ab, cb2, rfl, hrb, _, hch2⟩
  have C3 := (C2.no_no hch1a).no_no hch2
  have hB2 := (hB1.keep0 hch1a).keep0 hch2
  have r0 := hB2.cell 0 _ rfl
  have r1 := hB2.cell 1 _ rfl
  have r2 := hB2.cell 2 _ rfl
  have r3 := hB2.cell 3 _ rfl
  have r4 := hB2.cell 4 _ rfl
  have r5 := hB2.cell 5 _ rfl
  have r6 := hB2.cell 6 _ rfl
  have r7 := hB2.cell 7 _ rfl
  have r8 := hB2.cell 8 _ rfl
  have hT2 := hT.keep0 C3
  go_wp2_with fail
  refine (data_calls k n o s m d K D (.int .i64 k) (.int .u64 n) (.string s) (.slice Ak m ck) (.int .i64 o) Bk cb f A l cap cut w w2 C3 hT2 ht hf0 hf1 (hr.keep0 C3)).mono ?_
  rintro e w3 ⟨hch3, hdt⟩
  have C4 := C3.no_no hch3
  have hB3 := hB2.keep0 hch3
  have hT3 := hT.keep0 C4
  have s0 := hB3.cell 0 _ rfl
  have s1 := hB3.cell 1 _ rfl
  have s2 := hB3.cell 2 _ rfl
  have s3 := hB3.cell 3 _ rfl
  have s4 := hB3.cell 4 _ rfl
  have s5 := hB3.cell 5 _ rfl
  have s6 := hB3.cell 6 _ rfl
  have s7 := hB3.cell 7 _ rfl
  have s8 := hB3.cell 8 _ rfl
  rcases hdt with ⟨x, y, cc, rfl⟩ | ⟨hask, Ad, cd, dd, hd, hdl, ⟨kk, hk, rfl, hrd, hcd⟩ | ⟨rfl, hrd, hcd⟩⟩
  · go_wp2_with fail
    go_ret
    exact ⟨rfl, C4⟩
  · have hno := hid (double_refused Ad cd (dd.take kk) w3 hrd (by have := hask.bl; simp only [List.length_take, List.length_append]; omega) hT3.2 (refDb_cut (.inr (db_other HKN.out hask.ds hask.fit hd)) kk hk))
    generalize (dd.take kk).length = M at hno hcd ⊢
    clear hk hrd
    go_wp2_with fail
    refine hno.out.mono ?_
    rintro e w6 ⟨rfl, hch6⟩
    have hB6 := hB3.keep0 hch6
    have z0 := hB6.cell 0 _ rfl
    go_wp2_with fail
    go_ret
    exact ⟨rfl, C4.no_no hch6⟩
  · have hno := hid (double_refused Ad cd (dd ++ l) w3 hrd (by have := hask.bl; simp only [List.length_take, List.length_append]; omega) hT3.2 (by
      obtain ⟨c, x, rfl, hc⟩ := db_other HKN.out hask.ds hask.fit hd
      exact .inr ⟨c, x ++ l, rfl, .inl hc⟩))
    generalize (dd ++ l).length = M at hno hcd ⊢
    clear hrd
    go_wp2_with fail
    refine hno.out.mono ?_
    rintro e w6 ⟨rfl, hch6⟩
    have hB6 := hB3.keep0 hch6
    have z0 := hB6.cell 0 _ rfl
    go_wp2_with fail
    go_ret
    exact ⟨rfl, C4.no_no hch6⟩
theorem FnReadDoubleLaw (t : Va) (v0 v1 v2 v3 v4 v5 : Value) (f : Int) (A : Option Addr) (l : List Int) (cap : Nat) (cut : Int) (w : World) (hT : Lds w) (ht : VaP w t [v0, v1, v2, v3, v4, v5]) (hf0 : 0 ≤ f) (hf1 : f < 18446744073709551616) (hr : Rd u8 w A l) (hle : l.length ≤ cap) (hb : Byt l) :
    Calls Tryd.prog 3 #[.agg #[v0, v1, v2, v3, v4, v5, .int .u64 f, .slice A l.length cap, .int .i64 cut]] w fun e w' => e = .returned (.bool true) ∧ Ch No w w' := by
  obtain ⟨k, n, s, m, K, o, d, D⟩ := t
  have ht' := ht
  obtain ⟨Ak, ck, Bk, cb, he, _⟩ := ht'
  simp only [List.cons.injEq, and_true] at he
  obtain ⟨rfl, rfl, rfl, rfl, rfl, rfl⟩ := he
  by_cases h2 : k = 11
  · subst h2
    exact lawDb_db n o s m d K D Ak Bk ck cb f A l cap cut w hT ht hf0 hf1 hr hle hb
  · exact lawDb_oth k n o s m d K D Ak Bk ck cb f A l cap cut w hT ht hf0 hf1 hr hle hb h2

end Go.Proofs.YtbdgkikipekmlaaDoor
