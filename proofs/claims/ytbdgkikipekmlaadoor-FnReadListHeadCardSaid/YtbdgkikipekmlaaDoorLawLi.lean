/- The law of AMQP's reader of the heads of lists, whole. No condition. -/
import Derived.Test.YtbdgkikipekmlaaDoorLawLh
namespace Go.Proofs.YtbdgkikipekmlaaDoor
set_option linter.unusedVariables false
set_option linter.unusedSimpArgs false
open Go.RowKit

set_option maxRecDepth 100000 in
set_option maxHeartbeats 4000000 in
theorem lawLh_list (n o : Int) (s : ByteArray) (m d : Nat) (K : Fin m → Va) (D : Fin d → Va) (Ak Bk : Option Addr) (ck cb : Nat) (f : Int) (A : Option Addr) (l : List Int) (cap : Nat) (cut : Int) (w : World) (hT : Lds w) (ht : VaP w (.mk 21 n s m K o d D) [.int .i64 21, .int .u64 n, .string s, .slice Ak m ck, .int .i64 o, .slice Bk d cb]) (hf0 : 0 ≤ f) (hf1 : f < 18446744073709551616) (hr : Rd u8 w A l) (hle : l.length ≤ cap) (hb : Byt l)  :
    Calls Tryd.prog 5 #[.agg #[.int .i64 21, .int .u64 n, .string s, .slice Ak m ck, .int .i64 o, .slice Bk d cb, .int .u64 f, .slice A l.length cap, .int .i64 cut]] w fun e w' => e = .returned (.bool true) ∧ Ch No w w' := by
  have hB := Row.alloc w [.int .i64 21, .int .u64 n, .string s, .slice Ak m ck, .int .i64 o, .slice Bk d cb, .int .u64 f, .slice A l.length cap, .int .i64 cut] 28
  have q0 := hB.cell 0 _ rfl
  have q1 := hB.cell 1 _ rfl
  have q2 := hB.cell 2 _ rfl
  have q3 := hB.cell 3 _ rfl
  have q4 := hB.cell 4 _ rfl
  have q5 := hB.cell 5 _ rfl
  have q6 := hB.cell 6 _ rfl
  have q7 := hB.cell 7 _ rfl
  have q8 := hB.cell 8 _ rfl
  have C1 : Ch No w (w.alloc (.cells #[.int .i64 21, .int .u64 n, .string s, .slice Ak m ck, .int .i64 o, .slice Bk d cb, .int .u64 f, .slice A l.length cap, .int .i64 cut] 28)) := (Ch.refl No w).alloc _
  by_cases hbig : 2147483647 < l.length
  · have hzz := fun W => zz_calls (.int .i64 21) (.int .u64 n) (.string s) (.slice Ak m ck) (.int .i64 o) (.slice Bk d cb) f A l.length cap cut W false (by show _ = true; exact decide_eq_true (by omega))
    go_enter Tryd.func5, Tryd.ntmps5
    go_wp2_with fail
    refine (hzz _).mono ?_
    rintro e w1 ⟨rfl, hch1⟩
    go_wp2_with fail
    go_ret
    exact ⟨rfl, C1.no_no hch1⟩
  have hzz := fun W => zz_calls (.int .i64 21) (.int .u64 n) (.string s) (.slice Ak m ck) (.int .i64 o) (.slice Bk d cb) f A l.length cap cut W true (by show _ = false; exact decide_eq_false (by omega))
  go_enter Tryd.func5, Tryd.ntmps5
  go_wp2_with fail
  refine (hzz _).mono ?_
  rintro e w1 ⟨rfl, hch1⟩
  have C2 := C1.no_no hch1
  have hB1 := hB.keep0 hch1
  have hT1 := hT.keep0 C2
  clear hzz
  have qa0 := hB1.cell 0 _ rfl
  have qa1 := hB1.cell 1 _ rfl
  have qa2 := hB1.cell 2 _ rfl
  have qa3 := hB1.cell 3 _ rfl
  have qa4 := hB1.cell 4 _ rfl
  have qa5 := hB1.cell 5 _ rfl
  have qa6 := hB1.cell 6 _ rfl
  have qa7 := hB1.cell 7 _ rfl
  have qa8 := hB1.cell 8 _ rfl
  go_wp2_with fail
  refine (awake_lh w1).mono ?_
  rintro e w2 ⟨Aa, ca, rfl, hra, _, hch2⟩
  have C3 := (C2.alloc (.cells #[.int .u8 192, .int .u8 2, .int .u8 1, .int .u8 64] 5)).no_no hch2
  have hB2 := (hB1.keep0 ((Ch.refl No w1).alloc (.cells #[.int .u8 192, .int .u8 2, .int .u8 1, .int .u8 64] 5))).keep0 hch2
  have r0 := hB2.cell 0 _ rfl
  have r1 := hB2.cell 1 _ rfl
  have r2 := hB2.cell 2 _ rfl
  have r3 := hB2.cell 3 _ rfl
  have r4 := hB2.cell 4 _ rfl
  have r5 := hB2.cell 5 _ rfl
  have r6 := hB2.cell 6 _ rfl
  have r7 := hB2.cell 7 _ rfl
  have r8 := hB2.cell 8 _ rfl
  have hT2 := hT.keep0 C3
  go_wp2_with fail
  refine (data_calls 21 n o s m d K D (.int .i64 21) (.int .u64 n) (.string s) (.slice Ak m ck) (.int .i64 o) Bk cb f A l cap cut w w2 C3 hT2 ht hf0 hf1 (hr.keep0 C3)).mono ?_
  rintro e w3 ⟨hch3, hdt⟩
  have C4 := C3.no_no hch3
  have hB3 := hB2.keep0 hch3
  have hT3 := hT.keep0 C4
  have s0 := hB3.cell 0 _ rfl
  have s1 := hB3.cell 1 _ rfl
  have s2 := hB3.cell 2 _ rfl
  have s3 := hB3.cell 3 _ rfl
  have s4 := hB3.cell 4 _ rfl
  have s5 := hB3.cell 5 _ rfl
  have s6 := hB3.cell 6 _ rfl
  have s7 := hB3.cell 7 _ rfl
  have s8 := hB3.cell 8 _ rfl
  rcases hdt with ⟨x, y, cc, rfl⟩ | ⟨hask, Ad, cd, dd, hd, hdl, ⟨kk, hk, rfl, hrd, hcd⟩ | ⟨rfl, hrd, hcd⟩⟩
  · go_wp2_with fail
    go_ret
    exact ⟨rfl, C4⟩
  · generalize (dd.take kk).length = M at hcd ⊢
    clear hrd hk
    go_wp2_with fail
    go_ret
    exact ⟨rfl, C4⟩
  · obtain ⟨c, j, ⟨x, hx⟩, hcj, hjl, hread⟩ := lh_form hask.ds hask.fit hask.cn hd
    have hok := hid (fun W (hW : Ch No w3 W) => implListHead_ok Ad cd (dd ++ l) W (hrd.keep0 hW) (by have := hask.bl; simp only [List.length_append]; omega) j m fun p A cc W' hR => hread l p A cc W' hask.bl hR ((wr_byt _ 6 hask.fit).2.2 dd hd |>.append hb))
    have hm1 : m ≤ 1000 := (fit_parts hask.fit).2.2.1
    obtain ⟨X, hX⟩ : ∃ X, dd ++ l = X := ⟨_, rfl⟩
    have hXl : j ≤ X.length := by rw [← hX, List.length_append]; omega
    have hX0 : ∃ r, X = c :: r := ⟨x ++ l, by rw [← hX, hx]; rfl⟩
    rw [hX] at hok hrd hcd ⊢
    obtain ⟨A2, hk2, hk3, hcut⟩ := Cut.ahead_l 26 5 Tryd.underlying26 size_u8' Ad X.length cd j j rfl .i64 hXl
    have hdr := hid (fun W (hW : Ch No w3 W) => hcut.drop (hrd.keep0 hW) rfl hcd)
    have hc0 : ∃ b o, Ad = some ⟨b, o, none⟩ ∧ w3.cell? ⟨b, o, none⟩ = some (.int .u8 c) := by
      obtain ⟨r, rfl⟩ := hX0
      obtain ⟨b, o, h1, h2⟩ := hrd.at_ 0 (by simp)
      exact ⟨b, o, h1, h2⟩
    obtain ⟨b, o2, rfl, cz⟩ := hc0
    have hq : (X.drop j).length = X.length - j := List.length_drop
    have hMp : (0 : Int) < X.length := by obtain ⟨r, rfl⟩ := hX0; simp only [List.length_cons]; omega
    have hlf := hid (fun (A5 : Option Addr) (c5 c6 : Nat) W (h5 : Rd u8 W A5 (X.drop j)) (h : Ch No w3 W) => left_calls A5 A2 c5 c6 (X.drop j) W h5 (hdr.out W h))
    rw [hq] at hlf
    have HHL := hid (fun W => headLen_calls c j W (by omega))
    have HQ := hid hq
    generalize X.drop j = Y at hok hlf hdr HQ
    have hjM : (j : Int) ≤ X.length := by omega
    have hj0 : (0 : Int) ≤ j := by omega
    generalize X.length = M at hok hcd hk2 hk3 hlf hMp hjM HQ ⊢
    generalize M - j = Q at hk2 hk3 hlf HQ
    generalize cd - j = cq at hk2 hk3
    clear hrd hX hX0 hXl hq hx hread
    go_wp2_with fail
    refine (hok.out w3 (Ch.refl _ _)).mono ?_
    rintro e w6 ⟨A6, c6, rfl, hr6, hc6, hch6⟩
    have hB6 := hB3.keep0 hch6
    have z0 := hB6.cell 0 _ rfl
    have z3 := hB6.cell 3 _ rfl
    have cz6 := hch6.cell0 cz
    have C6 := C4.no_no hch6
    rw [HQ.out]
    go_wp2_with fail
    refine (HHL.out _).mono ?_
    rintro e w7 ⟨rfl, hch7⟩
    go_wp2_with fail
    refine (hlf.out A6 c6 _ w7 (hr6.keep0 hch7) (hch6.no_no hch7)).mono ?_
    rintro e w8 ⟨rfl, hch8⟩
    go_wp2_with fail
    go_ret
    exact ⟨rfl, (C6.no_no hch7).no_no hch8⟩
set_option maxRecDepth 100000 in
set_option maxHeartbeats 4000000 in
theorem lawLh_oth (k n o : Int) (s : ByteArray) (m d : Nat) (K : Fin m → Va) (D : Fin d → Va) (Ak Bk : Option Addr) (ck cb : Nat) (f : Int) (A : Option Addr) (l : List Int) (cap : Nat) (cut : Int) (w : World) (hT : Lds w) (ht : VaP w (.mk k n s m K o d D) [.int .i64 k, .int .u64 n, .string s, .slice Ak m ck, .int .i64 o, .slice Bk d cb]) (hf0 : 0 ≤ f) (hf1 : f < 18446744073709551616) (hr : Rd u8 w A l) (hle : l.length ≤ cap) (hb : Byt l) (hk : k ≠ 21) :
    Calls Tryd.prog 5 #[.agg #[.int .i64 k, .int .u64 n, .string s, .slice Ak m ck, .int .i64 o, .slice Bk d cb, .int .u64 f, .slice A l.length cap, .int .i64 cut]] w fun e w' => e = .returned (.bool true) ∧ Ch No w w' := by
  have e21 : (k == 21) = false := beq_eq_false_iff_ne.2 hk
  have f21 : (k != 21) = true := bne_iff_ne.2 hk
  have g21 : decide (k = 21) = false := decide_eq_false hk
  have HKN := hid hk
  clear hk
  have hB := Row.alloc w [.int .i64 k, .int .u64 n, .string s, .slice Ak m ck, .int .i64 o, .slice Bk d cb, .int .u64 f, .slice A l.length cap, .int .i64 cut] 28
  have q0 := hB.cell 0 _ rfl
  have q1 := hB.cell 1 _ rfl
  have q2 := hB.cell 2 _ rfl
  have q3 := hB.cell 3 _ rfl
  have q4 := hB.cell 4 _ rfl
  have q5 := hB.cell 5 _ rfl
  have q6 := hB.cell 6 _ rfl
  have q7 := hB.cell 7 _ rfl
  have q8 := hB.cell 8 _ rfl
  have C1 : Ch No w (w.alloc (.cells #[.int .i64 k, .int .u64 n, .string s, .slice Ak m ck, .int .i64 o, .slice Bk d cb, .int .u64 f, .slice A l.length cap, .int .i64 cut] 28)) := (Ch.refl No w).alloc _
  by_cases hbig : 2147483647 < l.length
  · have hzz := fun W => zz_calls (.int .i64 k) (.int .u64 n) (.string s) (.slice Ak m ck) (.int .i64 o) (.slice Bk d cb) f A l.length cap cut W false (by show _ = true; exact decide_eq_true (by omega))
    go_enter Tryd.func5, Tryd.ntmps5
    go_wp2_with fail
    refine (hzz _).mono ?_
    rintro e w1 ⟨rfl, hch1⟩
    go_wp2_with fail
    go_ret
    exact ⟨rfl, C1.no_no hch1⟩
  have hzz := fun W => zz_calls (.int .i64 k) (.int .u64 n) (.string s) (.slice Ak m ck) (.int .i64 o) (.slice Bk d cb) f A l.length cap cut W true (by show _ = false; exact decide_eq_false (by omega))
  go_enter Tryd.func5, Tryd.ntmps5
  go_wp2_with fail
  refine (hzz _).mono ?_
  rintro e w1 ⟨rfl, hch1⟩
  have C2 := C1.no_no hch1
  have hB1 := hB.keep0 hch1
  have hT1 := hT.keep0 C2
  clear hzz
  have qa0 := hB1.cell 0 _ rfl
  have qa1 := hB1.cell 1 _ rfl
  have qa2 := hB1.cell 2 _ rfl
  have qa3 := hB1.cell 3 _ rfl
  have qa4 := hB1.cell 4 _ rfl
  have qa5 := hB1.cell 5 _ rfl
  have qa6 := hB1.cell 6 _ rfl
  have qa7 := hB1.cell 7 _ rfl
  have qa8 := hB1.cell 8 _ rfl
  go_wp2_with fail
  refine (awake_lh w1).mono ?_
  rintro e w2 ⟨Aa, ca, rfl, hra, _, hch2⟩
  have C3 := (C2.alloc (.cells #[.int .u8 192, .int .u8 2, .int .u8 1, .int .u8 64] 5)).no_no hch2
  have hB2 := (hB1.keep0 ((Ch.refl No w1).alloc (.cells #[.int .u8 192, .int .u8 2, .int .u8 1, .int .u8 64] 5))).keep0 hch2
  have r0 := hB2.cell 0 _ rfl
  have r1 := hB2.cell 1 _ rfl
  have r2 := hB2.cell 2 _ rfl
  have r3 := hB2.cell 3 _ rfl
  have r4 := hB2.cell 4 _ rfl
  have r5 := hB2.cell 5 _ rfl
  have r6 := hB2.cell 6 _ rfl
  have r7 := hB2.cell 7 _ rfl
  have r8 := hB2.cell 8 _ rfl
  have hT2 := hT.keep0 C3
  go_wp2_with fail
  refine (data_calls k n o s m d K D (.int .i64 k) (.int .u64 n) (.string s) (.slice Ak m ck) (.int .i64 o) Bk cb f A l cap cut w w2 C3 hT2 ht hf0 hf1 (hr.keep0 C3)).mono ?_
  rintro e w3 ⟨hch3, hdt⟩
  have C4 := C3.no_no hch3
  have hB3 := hB2.keep0 hch3
  have hT3 := hT.keep0 C4
  have s0 := hB3.cell 0 _ rfl
  have s1 := hB3.cell 1 _ rfl
  have s2 := hB3.cell 2 _ rfl
  have s3 := hB3.cell 3 _ rfl
  have s4 := hB3.cell 4 _ rfl
  have s5 := hB3.cell 5 _ rfl
  have s6 := hB3.cell 6 _ rfl
  have s7 := hB3.cell 7 _ rfl
  have s8 := hB3.cell 8 _ rfl
  rcases hdt with ⟨x, y, cc, rfl⟩ | ⟨hask, Ad, cd, dd, hd, hdl, ⟨kk, hk, rfl, hrd, hcd⟩ | ⟨rfl, hrd, hcd⟩⟩
  · go_wp2_with fail
    go_ret
    exact ⟨rfl, C4⟩
  · generalize (dd.take kk).length = M at hcd ⊢
    clear hrd hk
    go_wp2_with fail
    go_ret
    exact ⟨rfl, C4⟩
  · have hno := hid (fun W (hW : Ch No w3 W) => implListHead_no Ad cd (dd ++ l) W (hrd.keep0 hW) (by have := hask.bl; simp only [List.length_append]; omega) fun p A c W' _ _ hR => (by
      obtain ⟨c, x, rfl, hc⟩ := lh_other HKN.out hask.ds hask.fit hd
      exact rlist_other hR (by simp) hc))
    generalize (dd ++ l).length = M at hno hcd ⊢
    clear hrd
    go_wp2_with fail
    refine (hno.out w3 (Ch.refl _ _)).mono ?_
    rintro e w6 ⟨rfl, hch6⟩
    have hB6 := hB3.keep0 hch6
    have z0 := hB6.cell 0 _ rfl
    go_wp2_with fail
    go_ret
    exact ⟨rfl, C4.no_no hch6⟩
theorem FnReadListHeadLaw (t : Va) (v0 v1 v2 v3 v4 v5 : Value) (f : Int) (A : Option Addr) (l : List Int) (cap : Nat) (cut : Int) (w : World) (hT : Lds w) (ht : VaP w t [v0, v1, v2, v3, v4, v5]) (hf0 : 0 ≤ f) (hf1 : f < 18446744073709551616) (hr : Rd u8 w A l) (hle : l.length ≤ cap) (hb : Byt l) :
    Calls Tryd.prog 5 #[.agg #[v0, v1, v2, v3, v4, v5, .int .u64 f, .slice A l.length cap, .int .i64 cut]] w fun e w' => e = .returned (.bool true) ∧ Ch No w w' := by
  obtain ⟨k, n, s, m, K, o, d, D⟩ := t
  have ht' := ht
  obtain ⟨Ak, ck, Bk, cb, he, _⟩ := ht'
  simp only [List.cons.injEq, and_true] at he
  obtain ⟨rfl, rfl, rfl, rfl, rfl, rfl⟩ := he
  by_cases h2 : k = 21
  · subst h2
    exact lawLh_list n o s m d K D Ak Bk ck cb f A l cap cut w hT ht hf0 hf1 hr hle hb
  · exact lawLh_oth k n o s m d K D Ak Bk ck cb f A l cap cut w hT ht hf0 hf1 hr hle hb h2

end Go.Proofs.YtbdgkikipekmlaaDoor
