/- The law of AMQP's reader of bytes, whole. No condition. -/
import Derived.Test.YtbdgkikipekmlaaDoorLawBn
import Derived.Lib.LazyBuf
import Derived.Lib.SlBytesConst
namespace Go.Proofs.YtbdgkikipekmlaaDoor
set_option linter.unusedVariables false
set_option linter.unusedSimpArgs false
open Go.RowKit

theorem str_bys (s : ByteArray) : strOfNums (bys s) = s := by
  have h := Lib.Lz.strOfNums_map s.data.toList
  unfold bys
  rw [h]
theorem st97 : strOfNums [97] = ⟨#[97]⟩ := by decide
theorem lit97 (w : World) : Rd u8 (w.alloc (.cells #[.int .u8 97] 5 (1, 2))) (some ⟨w.heap.size, 0, none⟩) [97] := fun _ => ⟨_, _, rfl, fun j x hj => by
  have hj0 : j = 0 := by
    have := (List.getElem?_eq_some_iff.1 hj).1
    simp at this
    exact this
  subst hj0
  simp at hj
  subst hj
  have h : (w.alloc (.cells #[.int .u8 97] 5 (1, 2))).heap[w.heap.size]? = some (.cells #[.int .u8 97] 5 (1, 2)) := by
    show (w.heap.push _)[w.heap.size]? = _
    simp
  unfold World.cell?
  simp only [Nat.add_zero]
  rw [h]
  rfl⟩
theorem awake_bw (w : World) : Calls Tryd.prog 19 #[.slice (some ⟨w.heap.size, 0, none⟩) 1 1] (w.alloc (.cells #[.int .u8 97] 5 (1, 2))) fun e w' => ∃ A c, e = .returned (.tuple #[.slice A 3 c, .bool true]) ∧ Rd u8 w' A [160, 1, 97] ∧ 3 ≤ c ∧ Ch No (w.alloc (.cells #[.int .u8 97] 5 (1, 2))) w' :=
  (implWriteBin (some ⟨w.heap.size, 0, none⟩) 1 _ (lit97 w) (fun ad h => by injection h with h; subst h; simp)).mono fun e w' ⟨A, c, h1, h2, h3, h4⟩ => ⟨A, c, h1, h2, h3, h4⟩
theorem awake_br (A : Option Addr) (c : Nat) (w : World) (hr : Rd u8 w A [160, 1, 97]) : Calls Tryd.prog 20 #[.slice A 3 c] w (RsT u8 [97] [] w) :=
  implBinary_ok A c [160, 1, 97] w hr (by simp) 3 [97] (by simp) fun p A' c' W hR => bin_read (d := [160, 1, 97]) (bh := []) (es := [97]) (.inl ⟨by simp, rfl⟩) (by simp) hR (fun x hx => by simp at hx; omega)
theorem bin_taken (A : Option Addr) (c : Nat) (es dd l : List Int) (w : World) (hr : Rd u8 w A (dd ++ l)) (hd : BinW es dd) (hes : es.length ≤ 131072) (hby : Byt (dd ++ l)) (hl : (dd ++ l).length ≤ 1099511627776) :
    Calls Tryd.prog 20 #[.slice A (dd ++ l).length c] w (RsT u8 es l w) := by
  have h := implBinary_ok A c (dd ++ l) w hr hl dd.length es (by omega) fun p A' c' W hR => bin_read hd hes hR hby
  rwa [List.drop_left] at h
set_option maxRecDepth 100000 in
set_option maxHeartbeats 4000000 in
theorem lawBn_bn (n o : Int) (s : ByteArray) (m d : Nat) (K : Fin m → Va) (D : Fin d → Va) (Ak Bk : Option Addr) (ck cb : Nat) (f : Int) (A : Option Addr) (l : List Int) (cap : Nat) (cut : Int) (w : World) (hT : Lds w) (ht : VaP w (.mk 18 n s m K o d D) [.int .i64 18, .int .u64 n, .string s, .slice Ak m ck, .int .i64 o, .slice Bk d cb]) (hf0 : 0 ≤ f) (hf1 : f < 18446744073709551616) (hr : Rd u8 w A l) (hle : l.length ≤ cap) (hb : Byt l)  :
    Calls Tryd.prog 6 #[.agg #[.int .i64 18, .int .u64 n, .string s, .slice Ak m ck, .int .i64 o, .slice Bk d cb, .int .u64 f, .slice A l.length cap, .int .i64 cut]] w fun e w' => e = .returned (.bool true) ∧ Ch No w w' := by
  have hB := Row.alloc w [.int .i64 18, .int .u64 n, .string s, .slice Ak m ck, .int .i64 o, .slice Bk d cb, .int .u64 f, .slice A l.length cap, .int .i64 cut] 28
  have q0 := hB.cell 0 _ rfl
  have q1 := hB.cell 1 _ rfl
  have q2 := hB.cell 2 _ rfl
  have q3 := hB.cell 3 _ rfl
  have q4 := hB.cell 4 _ rfl
  have q5 := hB.cell 5 _ rfl
  have q6 := hB.cell 6 _ rfl
  have q7 := hB.cell 7 _ rfl
  have q8 := hB.cell 8 _ rfl
  have C1 : Ch No w (w.alloc (.cells #[.int .i64 18, .int .u64 n, .string s, .slice Ak m ck, .int .i64 o, .slice Bk d cb, .int .u64 f, .slice A l.length cap, .int .i64 cut] 28)) := (Ch.refl No w).alloc _
  by_cases hbig : 2147483647 < l.length
  · have hzz := fun W => zz_calls (.int .i64 18) (.int .u64 n) (.string s) (.slice Ak m ck) (.int .i64 o) (.slice Bk d cb) f A l.length cap cut W false (by show _ = true; exact decide_eq_true (by omega))
    go_enter Tryd.func6, Tryd.ntmps6
    go_wp2_with fail
    refine (hzz _).mono ?_
    rintro e w1 ⟨rfl, hch1⟩
    go_wp2_with fail
    go_ret
    exact ⟨rfl, C1.no_no hch1⟩
  have hzz := fun W => zz_calls (.int .i64 18) (.int .u64 n) (.string s) (.slice Ak m ck) (.int .i64 o) (.slice Bk d cb) f A l.length cap cut W true (by show _ = false; exact decide_eq_false (by omega))
  go_enter Tryd.func6, Tryd.ntmps6
  go_wp2_with fail
  refine (hzz _).mono ?_
  rintro e w1 ⟨rfl, hch1⟩
  have C2 := C1.no_no hch1
  have hB1 := hB.keep0 hch1
  have hT1 := hT.keep0 C2
  clear hzz
  have qa0 := hB1.cell 0 _ rfl
  have qa1 := hB1.cell 1 _ rfl
  have qa2 := hB1.cell 2 _ rfl
  have qa3 := hB1.cell 3 _ rfl
  have qa4 := hB1.cell 4 _ rfl
  have qa5 := hB1.cell 5 _ rfl
  have qa6 := hB1.cell 6 _ rfl
  have qa7 := hB1.cell 7 _ rfl
  have qa8 := hB1.cell 8 _ rfl
  have kc := Lib.run_convert_bytes_const (P := Tryd.prog) w1 26 5 #[.int .u8 97] 1 1 Tryd.underlying26 Tryd.underlying5
  go_wp2_with fail
  refine (awake_bw w1).mono ?_
  rintro e w1a ⟨Aa, ca, rfl, hra, _, hch1a⟩
  go_wp2_with fail
  refine (awake_br Aa ca w1a hra).mono ?_
  rintro e w2 ⟨Ab, cb2, Ac, cc2, rfl, hrb, _, _, _, hch2⟩
  have hcona := conv_rd (c := cb2) hrb w2 (Ch.refl _ _)
  rw [st97] at hcona
  replace hcona : (convert 26 9 (.slice Ab 1 cb2)).run Tryd.prog w2 = .ok (.string ⟨#[97]⟩) w2 := hcona
  have C3 := ((C2.alloc (.cells #[.int .u8 97] 5 (1, 2))).no_no hch1a).no_no hch2
  have hB2 := ((hB1.keep0 ((Ch.refl No w1).alloc (.cells #[.int .u8 97] 5 (1, 2)))).keep0 hch1a).keep0 hch2
  have r0 := hB2.cell 0 _ rfl
  have r1 := hB2.cell 1 _ rfl
  have r2 := hB2.cell 2 _ rfl
  have r3 := hB2.cell 3 _ rfl
  have r4 := hB2.cell 4 _ rfl
  have r5 := hB2.cell 5 _ rfl
  have r6 := hB2.cell 6 _ rfl
  have r7 := hB2.cell 7 _ rfl
  have r8 := hB2.cell 8 _ rfl
  have hT2 := hT.keep0 C3
  go_wp2_with fail
  refine (data_calls 18 n o s m d K D (.int .i64 18) (.int .u64 n) (.string s) (.slice Ak m ck) (.int .i64 o) Bk cb f A l cap cut w w2 C3 hT2 ht hf0 hf1 (hr.keep0 C3)).mono ?_
  rintro e w3 ⟨hch3, hdt⟩
  have C4 := C3.no_no hch3
  have hB3 := hB2.keep0 hch3
  have hT3 := hT.keep0 C4
  have s0 := hB3.cell 0 _ rfl
  have s1 := hB3.cell 1 _ rfl
  have s2 := hB3.cell 2 _ rfl
  have s3 := hB3.cell 3 _ rfl
  have s4 := hB3.cell 4 _ rfl
  have s5 := hB3.cell 5 _ rfl
  have s6 := hB3.cell 6 _ rfl
  have s7 := hB3.cell 7 _ rfl
  have s8 := hB3.cell 8 _ rfl
  rcases hdt with ⟨x, y, cc, rfl⟩ | ⟨hask, Ad, cd, dd, hd, hdl, ⟨kk, hk, rfl, hrd, hcd⟩ | ⟨rfl, hrd, hcd⟩⟩
  · go_wp2_with fail
    go_ret
    exact ⟨rfl, C4⟩
  · have hno := hid (bin_refused Ad cd (dd.take kk) w3 hrd (by have := hask.bl; simp only [List.length_take, List.length_append]; omega) (((wr_byt _ 6 hask.fit).2.2 dd hd).take kk) hT3.2 (bin_cut (bn_form hask.ds hask.fit hd).1 (bn_form hask.ds hask.fit hd).2 kk hk))
    generalize (dd.take kk).length = M at hno hcd ⊢
    clear hk hrd
    go_wp2_with fail
    refine hno.out.mono ?_
    rintro e w6 ⟨rfl, hch6⟩
    have hB6 := hB3.keep0 hch6
    have z0 := hB6.cell 0 _ rfl
    go_wp2_with fail
    go_ret
    exact ⟨rfl, C4.no_no hch6⟩
  · have hpl := fit_plain hask.fit
    obtain ⟨hbw, hbl⟩ := bn_form hask.ds hask.fit hd
    obtain rfl : m = 0 := hpl.1 (by omega) (by omega) (by omega)
    obtain rfl : n = 0 := hpl.2.2 (.inr (.inl (by omega)))
    obtain rfl : d = 0 := hask.ds
    have hok := hid (bin_taken Ad cd (bys s) dd l w3 hrd hbw hbl (((wr_byt _ 6 hask.fit).2.2 dd hd).append hb) (by have := hask.bl; simp only [List.length_take, List.length_append]; omega))
    have hlf := hid (fun (A5 : Option Addr) (c5 : Nat) W (h5 : Rd u8 W A5 l) (h : Ch No w W) => left_calls A5 A c5 cap l W h5 (hr.keep0 h))
    have hsm := hid (fun W => same_true 18 0 o 0 s Ak Bk none none ck cb 0 0 W)
    generalize (dd ++ l).length = M at hok hcd ⊢
    clear hrd hd hdl hask hpl hbw hbl
    go_wp2_with fail
    refine hok.out.mono ?_
    rintro e w6 ⟨A9, c9, A6, c6, rfl, hr9, hc9, hr6, hc6, hch6⟩
    have hB6 := hB3.keep0 hch6
    have z0 := hB6.cell 0 _ rfl
    have z1 := hB6.cell 1 _ rfl
    have z2 := hB6.cell 2 _ rfl
    have z3 := hB6.cell 3 _ rfl
    have z4 := hB6.cell 4 _ rfl
    have z5 := hB6.cell 5 _ rfl
    have hcv := conv_rd (c := c9) hr9 w6 (Ch.refl _ _)
    rw [str_bys] at hcv
    obtain ⟨NB, hNB⟩ : ∃ NB, (bys s).length = NB := ⟨_, rfl⟩
    rw [hNB] at hcv hc9 ⊢
    clear hNB
    have C6 := C4.no_no hch6
    go_wp2_with fail
    refine (hsm.out w6).mono ?_
    rintro e w7 ⟨rfl, hch7⟩
    go_wp2_with fail
    refine (hlf.out A6 c6 w7 (hr6.keep0 hch7) (C6.no_no hch7)).mono ?_
    rintro e w8 ⟨rfl, hch8⟩
    go_wp2_with fail
    go_ret
    exact ⟨rfl, (C6.no_no hch7).no_no hch8⟩
set_option maxRecDepth 100000 in
set_option maxHeartbeats 4000000 in
theorem lawBn_oth (k n o : Int) (s : ByteArray) (m d : Nat) (K : Fin m → Va) (D : Fin d → Va) (Ak Bk : Option Addr) (ck cb : Nat) (f : Int) (A : Option Addr) (l : List Int) (cap : Nat) (cut : Int) (w : World) (hT : Lds w) (ht : VaP w (.mk k n s m K o d D) [.int .i64 k, .int .u64 n, .string s, .slice Ak m ck, .int .i64 o, .slice Bk d cb]) (hf0 : 0 ≤ f) (hf1 : f < 18446744073709551616) (hr : Rd u8 w A l) (hle : l.length ≤ cap) (hb : Byt l) (hk : k ≠ 18) :
    Calls Tryd.prog 6 #[.agg #[.int .i64 k, .int .u64 n, .string s, .slice Ak m ck, .int .i64 o, .slice Bk d cb, .int .u64 f, .slice A l.length cap, .int .i64 cut]] w fun e w' => e = .returned (.bool true) ∧ Ch No w w' := by
  have e18 : (k == 18) = false := beq_eq_false_iff_ne.2 hk
  have f18 : (k != 18) = true := bne_iff_ne.2 hk
  have g18 : decide (k = 18) = false := decide_eq_false hk
  have HKN := hid hk
  clear hk
  have hB := Row.alloc w [.int .i64 k, .int .u64 n, .string s, .slice Ak m ck, .int .i64 o, .slice Bk d cb, .int .u64 f, .slice A l.length cap, .int .i64 cut] 28
  have q0 := hB.cell 0 _ rfl
  have q1 := hB.cell 1 _ rfl
  have q2 := hB.cell 2 _ rfl
  have q3 := hB.cell 3 _ rfl
  have q4 := hB.cell 4 _ rfl
  have q5 := hB.cell 5 _ rfl
  have q6 := hB.cell 6 _ rfl
  have q7 := hB.cell 7 _ rfl
  have q8 := hB.cell 8 _ rfl
  have C1 : Ch No w (w.alloc (.cells #[.int .i64 k, .int .u64 n, .string s, .slice Ak m ck, .int .i64 o, .slice Bk d cb, .int .u64 f, .slice A l.length cap, .int .i64 cut] 28)) := (Ch.refl No w).alloc _
  by_cases hbig : 2147483647 < l.length
  · have hzz := fun W => zz_calls (.int .i64 k) (.int .u64 n) (.string s) (.slice Ak m ck) (.int .i64 o) (.slice Bk d cb) f A l.length cap cut W false (by show _ = true; exact decide_eq_true (by omega))
    go_enter Tryd.func6, Tryd.ntmps6
    go_wp2_with fail
    refine (hzz _).mono ?_
    rintro e w1 ⟨rfl, hch1⟩
    go_wp2_with fail
    go_ret
    exact ⟨rfl, C1.no_no hch1⟩
  have hzz := fun W => zz_calls (.int .i64 k) (.int .u64 n) (.string s) (.slice Ak m ck) (.int .i64 o) (.slice Bk d cb) f A l.length cap cut W true (by show _ = false; exact decide_eq_false (by omega))
  go_enter Tryd.func6, Tryd.ntmps6
  go_wp2_with fail
  refine (hzz _).mono ?_
  rintro e w1 ⟨rfl, hch1⟩
  have C2 := C1.no_no hch1
  have hB1 := hB.keep0 hch1
  have hT1 := hT.keep0 C2
  clear hzz
  have qa0 := hB1.cell 0 _ rfl
  have qa1 := hB1.cell 1 _ rfl
  have qa2 := hB1.cell 2 _ rfl
  have qa3 := hB1.cell 3 _ rfl
  have qa4 := hB1.cell 4 _ rfl
  have qa5 := hB1.cell 5 _ rfl
  have qa6 := hB1.cell 6 _ rfl
  have qa7 := hB1.cell 7 _ rfl
  have qa8 := hB1.cell 8 _ rfl
  have kc := Lib.run_convert_bytes_const (P := Tryd.prog) w1 26 5 #[.int .u8 97] 1 1 Tryd.underlying26 Tryd.underlying5
  go_wp2_with fail
  refine (awake_bw w1).mono ?_
  rintro e w1a ⟨Aa, ca, rfl, hra, _, hch1a⟩
  go_wp2_with fail
  refine (awake_br Aa ca w1a hra).mono ?_
  rintro e w2 ⟨Ab, cb2, Ac, cc2, rfl, hrb, _, _, _, hch2⟩
  have hcona := conv_rd (c := cb2) hrb w2 (Ch.refl _ _)
  rw [st97] at hcona
  replace hcona : (convert 26 9 (.slice Ab 1 cb2)).run Tryd.prog w2 = .ok (.string ⟨#[97]⟩) w2 := hcona
  have C3 := ((C2.alloc (.cells #[.int .u8 97] 5 (1, 2))).no_no hch1a).no_no hch2
  have hB2 := ((hB1.keep0 ((Ch.refl No w1).alloc (.cells #[.int .u8 97] 5 (1, 2)))).keep0 hch1a).keep0 hch2
  have r0 := hB2.cell 0 _ rfl
  have r1 := hB2.cell 1 _ rfl
  have r2 := hB2.cell 2 _ rfl
  have r3 := hB2.cell 3 _ rfl
  have r4 := hB2.cell 4 _ rfl
  have r5 := hB2.cell 5 _ rfl
  have r6 := hB2.cell 6 _ rfl
  have r7 := hB2.cell 7 _ rfl
  have r8 := hB2.cell 8 _ rfl
  have hT2 := hT.keep0 C3
  go_wp2_with fail
  refine (data_calls k n o s m d K D (.int .i64 k) (.int .u64 n) (.string s) (.slice Ak m ck) (.int .i64 o) Bk cb f A l cap cut w w2 C3 hT2 ht hf0 hf1 (hr.keep0 C3)).mono ?_
  rintro e w3 ⟨hch3, hdt⟩
  have C4 := C3.no_no hch3
  have hB3 := hB2.keep0 hch3
  have hT3 := hT.keep0 C4
  have s0 := hB3.cell 0 _ rfl
  have s1 := hB3.cell 1 _ rfl
  have s2 := hB3.cell 2 _ rfl
  have s3 := hB3.cell 3 _ rfl
  have s4 := hB3.cell 4 _ rfl
  have s5 := hB3.cell 5 _ rfl
  have s6 := hB3.cell 6 _ rfl
  have s7 := hB3.cell 7 _ rfl
  have s8 := hB3.cell 8 _ rfl
  rcases hdt with ⟨x, y, cc, rfl⟩ | ⟨hask, Ad, cd, dd, hd, hdl, ⟨kk, hk, rfl, hrd, hcd⟩ | ⟨rfl, hrd, hcd⟩⟩
  · go_wp2_with fail
    go_ret
    exact ⟨rfl, C4⟩
  · have hno := hid (bin_refused Ad cd (dd.take kk) w3 hrd (by have := hask.bl; simp only [List.length_take, List.length_append]; omega) (((wr_byt _ 6 hask.fit).2.2 dd hd).take kk) hT3.2 ((refBn_other (bn_other HKN.out hask.ds hask.fit hd)).1 kk))
    generalize (dd.take kk).length = M at hno hcd ⊢
    clear hk hrd
    go_wp2_with fail
    refine hno.out.mono ?_
    rintro e w6 ⟨rfl, hch6⟩
    have hB6 := hB3.keep0 hch6
    have z0 := hB6.cell 0 _ rfl
    go_wp2_with fail
    go_ret
    exact ⟨rfl, C4.no_no hch6⟩
  · have hno := hid (bin_refused Ad cd (dd ++ l) w3 hrd (by have := hask.bl; simp only [List.length_take, List.length_append]; omega) (((wr_byt _ 6 hask.fit).2.2 dd hd).append hb) hT3.2 ((refBn_other (bn_other HKN.out hask.ds hask.fit hd)).2 l))
    generalize (dd ++ l).length = M at hno hcd ⊢
    clear hrd
    go_wp2_with fail
    refine hno.out.mono ?_
    rintro e w6 ⟨rfl, hch6⟩
    have hB6 := hB3.keep0 hch6
    have z0 := hB6.cell 0 _ rfl
    go_wp2_with fail
    go_ret
    exact ⟨rfl, C4.no_no hch6⟩
theorem FnReadBinaryLaw (t : Va) (v0 v1 v2 v3 v4 v5 : Value) (f : Int) (A : Option Addr) (l : List Int) (cap : Nat) (cut : Int) (w : World) (hT : Lds w) (ht : VaP w t [v0, v1, v2, v3, v4, v5]) (hf0 : 0 ≤ f) (hf1 : f < 18446744073709551616) (hr : Rd u8 w A l) (hle : l.length ≤ cap) (hb : Byt l) :
    Calls Tryd.prog 6 #[.agg #[v0, v1, v2, v3, v4, v5, .int .u64 f, .slice A l.length cap, .int .i64 cut]] w fun e w' => e = .returned (.bool true) ∧ Ch No w w' := by
  obtain ⟨k, n, s, m, K, o, d, D⟩ := t
  have ht' := ht
  obtain ⟨Ak, ck, Bk, cb, he, _⟩ := ht'
  simp only [List.cons.injEq, and_true] at he
  obtain ⟨rfl, rfl, rfl, rfl, rfl, rfl⟩ := he
  by_cases h2 : k = 18
  · subst h2
    exact lawBn_bn n o s m d K D Ak Bk ck cb f A l cap cut w hT ht hf0 hf1 hr hle hb
  · exact lawBn_oth k n o s m d K D Ak Bk ck cb f A l cap cut w hT ht hf0 hf1 hr hle hb h2

end Go.Proofs.YtbdgkikipekmlaaDoor
