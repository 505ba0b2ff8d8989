/- The plain law of arrays of integers, and what their reader does with them. The law of AMQP's reader of arrays of integers, whole. No condition. -/
import Derived.Test.YtbdgkikipekmlaaDoorLawAw
import Derived.Test.YtbdgkikipekmlaaDoorAri
import Derived.Test.YtbdgkikipekmlaaDoorArb
import Derived.Test.YtbdgkikipekmlaaDoorWrI
import Derived.Test.YtbdgkikipekmlaaDoorLws
namespace Go.Proofs.YtbdgkikipekmlaaDoor
set_option linter.unusedVariables false
set_option linter.unusedSimpArgs false
open Go.RowKit

/-- A number of 64 bits, as it stands with its sign. -/
def s32 (n : Int) : Int := if n < 2147483648 then n else n - 18446744073709551616
theorem code_ai : ∀ q : Fin 24, (q.val : Int) ≠ 8 → shOf q.val % 256 ∉ [(84 : Int), 113] ∧ cdOf q.val % 256 ∉ [(84 : Int), 113] := by decide
theorem s32_wraps {n : Int} (h0 : 0 ≤ n) (h1 : n < 18446744073709551616) (h : sgn 2147483648 n) : IntKind.i64.wrap (s32 n) = s32 n ∧ IntKind.u64.wrap (s32 n) = n ∧ IntKind.i32.wrap (s32 n) = s32 n := by
  unfold s32 sgn at *
  split <;> (simp [IntKind.wrap, IntKind.bits, IntKind.signed]; omega)
theorem s32_b4 {n : Int} (h0 : 0 ≤ n) (h1 : n < 18446744073709551616) (h : sgn 2147483648 n) : IntKind.i32.wrap (beN (bg n 4)) = s32 n := by
  have hb : beN (bg n 4) = n % 4294967296 := by
    simp [bg, beN, List.range, List.range.loop]
    omega
  rw [hb]
  unfold s32 sgn at *
  split <;> (simp [IntKind.wrap, IntKind.bits, IntKind.signed]; omega)
theorem s32_b1 {n : Int} (h0 : 0 ≤ n) (h1 : n < 18446744073709551616) (h : sgn 128 n) : IntKind.i8.wrap (n % 256) = s32 n := by
  unfold s32 sgn at *
  split <;> (simp [IntKind.wrap, IntKind.bits, IntKind.signed]; omega)
theorem sgn_up {n : Int} (h : sgn 128 n) : sgn 2147483648 n := by
  unfold sgn at *
  omega
theorem ai_form {n o : Int} {s : ByteArray} {m d : Nat} {K : Fin m → Va} {D : Fin d → Va} {dd : List Int} (hd0 : d = 0) (hf : FitV (.mk 23 n s m K o d D) 6) (hcn : cntV (.mk 23 n s m K o d D) ≤ 500) (h : (Wr (.mk 23 n s m K o d D)).pv dd) (hr : Right 23 o K 8) :
    (∃ (es : Nat → List Int) (j : Nat), (ArrD dd (84 :: cat es m) m j ∧ ∀ i, i < m → es i = bg (numAt K i) 1 ∧ sgn 128 (numAt K i)) ∨ (ArrD dd (113 :: cat es m) m j ∧ ∀ i, i < m → es i = bg (numAt K i) 4)) ∧ (∀ i, i < m → 0 ≤ numAt K i ∧ numAt K i < 18446744073709551616 ∧ sgn 2147483648 (numAt K i)) ∧ ∀ i, i < m → IntKind.i64.wrap (s32 (numAt K i)) = s32 (numAt K i) ∧ IntKind.u64.wrap (s32 (numAt K i)) = numAt K i := by
  obtain ⟨code, es, j, hA, h2, h3, h4⟩ := ar_right hd0 hf hcn h hr
  have hkk : ∀ i, i < m → (0 ≤ numAt K i ∧ numAt K i < 18446744073709551616 ∧ sgn 2147483648 (numAt K i)) ∧ NumW 8 (numAt K i) code (es i) := fun i hi => by
    obtain ⟨o0, K0, D0, hk, hfk⟩ := kid_num (by omega) (by omega) hf hr i hi
    have h9 := h4 ⟨i, hi⟩
    rw [hk] at h9 hfk
    obtain ⟨_, _, _, _, hn0, hn1, hcf⟩ := fit_parts hfk
    exact ⟨⟨hn0, hn1, hcf.2.2.2.2.2.2.1 rfl⟩, wr_num (by omega) (by omega) (by omega) h9⟩
  have c1 : shOf 8 = 84 := by decide
  have c2 : cdOf 8 = 113 := by decide
  have c3 : (fsz 8).toNat = 4 := by decide
  refine ⟨⟨es, j, ?_⟩, fun i hi => (hkk i hi).1, fun i hi => ⟨(s32_wraps (hkk i hi).1.1 (hkk i hi).1.2.1 (hkk i hi).1.2.2).1, (s32_wraps (hkk i hi).1.1 (hkk i hi).1.2.1 (hkk i hi).1.2.2).2.1⟩⟩
  rw [c1, c2] at h2
  rcases h2 with rfl | rfl
  · refine .inl ⟨hA, fun i hi => ?_⟩
    rcases (hkk i hi).2 with ⟨h, _⟩ | ⟨h, _⟩ | ⟨h, _⟩ | ⟨_, _, h1, h2⟩ | ⟨h, _⟩
    · rw [c2] at h; omega
    · omega
    · omega
    · exact ⟨h2, h1⟩
    · omega
  · refine .inr ⟨hA, fun i hi => ?_⟩
    rcases (hkk i hi).2 with ⟨_, h⟩ | ⟨h, _⟩ | ⟨h, _⟩ | ⟨_, h, _⟩ | ⟨h, _⟩
    · rw [c3] at h
      exact h
    all_goals omega
theorem ai_yes4 (A : Option Addr) (c : Nat) (dd l : List Int) (w : World) (hr : Rd u8 w A (dd ++ l)) (hby : Byt (dd ++ l)) (hl : (dd ++ l).length ≤ 1099511627776) {es : Nat → List Int} {m j : Nat} (us ns : Nat → Int) (hA : ArrD dd (113 :: cat es m) m j) (hes : ∀ i, i < m → es i = bg (ns i) 4) (hus : ∀ i, i < m → IntKind.i32.wrap (beN (bg (ns i) 4)) = us i) :
    Calls Tryd.prog 27 #[.slice A (dd ++ l).length c] w (RsT (Value.int .i32) ((List.range m).map us) l w) := by
  have hel : ∀ i, i < m → (es i).length = 4 := fun i hi => by rw [hes i hi, bg_len]
  have hcl := cat_same_len 4 es m hel
  obtain ⟨hj, h1, h2, h3⟩ := getE (bh := l) hA
  have hdl : dd.length = j + 1 + 4 * m := by
    have := hA.len.1
    rw [List.length_cons] at this
    omega
  have h := implArrI32_ok A c (dd ++ l) w hr hl dd.length ((List.range m).map us) (by have := hA.hm; simpa using this) fun p q A' c' W hR hq hpq hp hrq => by
    have hh := hA.head hR hby
    simp only [List.length_cons, show m ≤ (cat es m).length + 1 by omega, if_true] at hh
    rcases Nat.eq_zero_or_pos m with hz | hz
    · subst hz
      rw [hdl]
      exact arI4_zero hh hj h1 hq hpq hrq
    · rw [hdl]
      exact arI4_yes m us hA.hm hz hh hj h1 (by rw [h3]; omega) hby hq hpq hp hrq fun i hi => by
        rw [← List.drop_drop, h2, cat_at 4 es m l hel i hi, hes i hi]
        exact hus i hi
  rwa [List.drop_left] at h
theorem ai_yes1 (A : Option Addr) (c : Nat) (dd l : List Int) (w : World) (hr : Rd u8 w A (dd ++ l)) (hby : Byt (dd ++ l)) (hl : (dd ++ l).length ≤ 1099511627776) {es : Nat → List Int} {m j : Nat} (us ns : Nat → Int) (hA : ArrD dd (84 :: cat es m) m j) (hes : ∀ i, i < m → es i = bg (ns i) 1) (hus : ∀ i, i < m → IntKind.i8.wrap (ns i % 256) = us i ∧ IntKind.i32.wrap (us i) = us i) :
    Calls Tryd.prog 27 #[.slice A (dd ++ l).length c] w (RsT (Value.int .i32) ((List.range m).map us) l w) := by
  have hel : ∀ i, i < m → (es i).length = 1 := fun i hi => by rw [hes i hi, bg_len]
  have hcl := cat_same_len 1 es m hel
  obtain ⟨hj, h1, h2, h3⟩ := getE (bh := l) hA
  have hdl : dd.length = j + 1 + m := by
    have := hA.len.1
    rw [List.length_cons] at this
    omega
  have h := implArrI32_ok A c (dd ++ l) w hr hl dd.length ((List.range m).map us) (by have := hA.hm; simpa using this) fun p q A' c' W hR hq hpq hp hrq => by
    have hh := hA.head hR hby
    simp only [List.length_cons, show m ≤ (cat es m).length + 1 by omega, if_true] at hh
    rcases Nat.eq_zero_or_pos m with hz | hz
    · subst hz
      rw [hdl]
      exact arI1_zero hh hj h1 hq hpq hrq
    · rw [hdl]
      exact arI1_yes m us hA.hm hz hh hj h1 (by rw [h3]; omega) hby hq hpq hp hrq fun i hi h => by
        have h5 := cat_at 1 es m l hel i hi
        rw [Nat.one_mul, ← h2, List.drop_drop, hes i hi, List.drop_eq_getElem_cons h] at h5
        have e1 : bg (ns i) 1 = [ns i % 256] := by simp [bg, List.range, List.range.loop]
        rw [e1] at h5
        injection h5 with h6 _
        rw [h6]
        exact hus i hi
  rwa [List.drop_left] at h
theorem ai_take {n o : Int} {s : ByteArray} {m d : Nat} {K : Fin m → Va} {D : Fin d → Va} {dd : List Int} (hd0 : d = 0) (hf : FitV (.mk 23 n s m K o d D) 6) (hcn : cntV (.mk 23 n s m K o d D) ≤ 500) (h : (Wr (.mk 23 n s m K o d D)).pv dd) (hr : Right 23 o K 8) (A : Option Addr) (c : Nat) (l : List Int) (w : World) (hrd : Rd u8 w A (dd ++ l)) (hby : Byt (dd ++ l)) (hl : (dd ++ l).length ≤ 1099511627776) :
    Calls Tryd.prog 27 #[.slice A (dd ++ l).length c] w (RsT (Value.int .i32) ((List.range m).map fun i => s32 (numAt K i)) l w) := by
  obtain ⟨⟨es, j, ⟨hA, hes⟩ | ⟨hA, hes⟩⟩, hb, _⟩ := ai_form hd0 hf hcn h hr
  · exact ai_yes1 A c dd l w hrd hby hl _ (numAt K) hA (fun i hi => (hes i hi).1) fun i hi => ⟨s32_b1 (hb i hi).1 (hb i hi).2.1 (hes i hi).2, (s32_wraps (hb i hi).1 (hb i hi).2.1 (hb i hi).2.2).2.2⟩
  · exact ai_yes4 A c dd l w hrd hby hl _ (numAt K) hA hes fun i hi => s32_b4 (hb i hi).1 (hb i hi).2.1 (hb i hi).2.2
theorem ai_kid {n o : Int} {s : ByteArray} {m d : Nat} {K : Fin m → Va} {D : Fin d → Va} (hf : FitV (.mk 23 n s m K o d D) 6) (hr : Right 23 o K 8) (i : Nat) (h : i < m) : ∃ (o0 : Int) (K0 : Fin 0 → Va) (D0 : Fin 0 → Va), K ⟨i, h⟩ = .mk 8 (prN K i).1 (prN K i).2 0 K0 o0 0 D0 := by
  obtain ⟨o0, K0, D0, hk, _⟩ := kid_num (by omega) (by omega) hf hr i h
  exact ⟨o0, K0, D0, hk⟩
theorem ai_no (A : Option Addr) (c : Nat) (L : List Int) (w : World) (hr : Rd u8 w A L) (hl : L.length ≤ 1099511627776) (h : L = [] ∨ ∃ c x, L = c :: x ∧ c ≠ 224 ∧ c ≠ 240) (hE : Eof w) :
    Calls Tryd.prog 27 #[.slice A L.length c] w (BhNo (.slice none 0 0) w) :=
  implArrI32_no A c L w hr hl fun p q A' c' W hp hW hR hq hpq hrq => arI_head (arr_refused h hR (hE.keep0 hW)) hq hpq
theorem ai_cut (A : Option Addr) (c : Nat) (dd E : List Int) (m j kk : Nat) (w : World) (hA : ArrD dd E m j) (hk : kk < dd.length ∨ dd = []) (hr : Rd u8 w A (dd.take kk)) (hby : Byt dd) (hl : (dd.take kk).length ≤ 1099511627776) (hE : Eof w) :
    Calls Tryd.prog 27 #[.slice A (dd.take kk).length c] w (BhNo (.slice none 0 0) w) :=
  implArrI32_no A c _ w hr hl fun p q A' c' W hp hW hR hq hpq hrq => arI_head (hA.cut hby kk hk hR (hE.keep0 hW)) hq hpq
theorem ai_code (A : Option Addr) (c : Nat) (dd E l : List Int) (x : Int) (m j : Nat) (w : World) (hA : ArrD dd (x :: E) m j) (hx : x ∉ [(84 : Int), 113]) (hr : Rd u8 w A (dd ++ l)) (hby : Byt (dd ++ l)) (hl : (dd ++ l).length ≤ 1099511627776) :
    Calls Tryd.prog 27 #[.slice A (dd ++ l).length c] w (BhNo (.slice none 0 0) w) :=
  implArrI32_no A c _ w hr hl fun p q A' c' W hp hW hR hq hpq hrq => by
    have hh := hA.head hR hby
    obtain ⟨hj, h1, h2, h3⟩ := getE (bh := l) hA
    by_cases hm : m ≤ (x :: E).length
    · simp only [hm, if_true] at hh
      exact arI_code hh hj (by rw [h1]; intro h; exact hx (by simp [h])) (by rw [h1]; intro h; exact hx (by simp [h])) hq hpq
    · simp only [hm, if_false] at hh
      exact arI_head hh hq hpq
end Go.Proofs.YtbdgkikipekmlaaDoor

namespace Go.Proofs.YtbdgkikipekmlaaDoor
set_option linter.unusedVariables false
set_option linter.unusedSimpArgs false
open Go.RowKit

theorem awake_iw (w : World) : Calls Tryd.prog 26 #[.slice (some ⟨w.heap.size, 0, none⟩) 1 1] (w.alloc (.cells #[.int .i32 5] 21)) fun e w' => ∃ A c, e = .returned (.tuple #[.slice A 5 c, .bool true]) ∧ Rd u8 w' A [224, 3, 1, 84, 5] ∧ 5 ≤ c ∧ Ch No (w.alloc (.cells #[.int .i32 5] 21)) w' :=
  (implWriteI32 (some ⟨w.heap.size, 0, none⟩) 1 _ ((Row.alloc w [.int .i32 5] 21).rd (l := [5]) rfl)).mono fun e w' ⟨A, c, h1, h2, h3, h4⟩ => ⟨A, c, h1, h2, h3, h4⟩
theorem awake_ir (A : Option Addr) (c : Nat) (w : World) (hr : Rd u8 w A [224, 3, 1, 84, 5]) : Calls Tryd.prog 27 #[.slice A 5 c] w (RsT (Value.int .i32) [5] [] w) :=
  ai_yes1 A c [224, 3, 1, 84, 5] [] w hr (fun x hx => by simp at hx; omega) (by simp) (es := fun _ => [5]) (m := 1) (j := 3) (fun _ => 5) (fun _ => 5) ⟨.inl ⟨rfl, rfl, by simp, by simp [cat]⟩, by simp, by simp [cat]⟩ (fun i hi => by decide) (fun i hi => by decide)
set_option maxRecDepth 100000 in
set_option maxHeartbeats 4000000 in
theorem lawAi_yes (n o : Int) (s : ByteArray) (m d : Nat) (K : Fin m → Va) (D : Fin d → Va) (Ak Bk : Option Addr) (ck cb : Nat) (f : Int) (A : Option Addr) (l : List Int) (cap : Nat) (cut : Int) (w : World) (hT : Lds w) (ht : VaP w (.mk 23 n s m K o d D) [.int .i64 23, .int .u64 n, .string s, .slice Ak m ck, .int .i64 o, .slice Bk d cb]) (hf0 : 0 ≤ f) (hf1 : f < 18446744073709551616) (hr : Rd u8 w A l) (hle : l.length ≤ cap) (hb : Byt l) (hx : Right 23 o K 8) :
    Calls Tryd.prog 8 #[.agg #[.int .i64 23, .int .u64 n, .string s, .slice Ak m ck, .int .i64 o, .slice Bk d cb, .int .u64 f, .slice A l.length cap, .int .i64 cut]] w fun e w' => e = .returned (.bool true) ∧ Ch No w w' := by
  have HX := hid hx
  clear hx
  have hB := Row.alloc w [.int .i64 23, .int .u64 n, .string s, .slice Ak m ck, .int .i64 o, .slice Bk d cb, .int .u64 f, .slice A l.length cap, .int .i64 cut] 28
  have q0 := hB.cell 0 _ rfl
  have q1 := hB.cell 1 _ rfl
  have q2 := hB.cell 2 _ rfl
  have q3 := hB.cell 3 _ rfl
  have q4 := hB.cell 4 _ rfl
  have q5 := hB.cell 5 _ rfl
  have q6 := hB.cell 6 _ rfl
  have q7 := hB.cell 7 _ rfl
  have q8 := hB.cell 8 _ rfl
  have C1 : Ch No w (w.alloc (.cells #[.int .i64 23, .int .u64 n, .string s, .slice Ak m ck, .int .i64 o, .slice Bk d cb, .int .u64 f, .slice A l.length cap, .int .i64 cut] 28)) := (Ch.refl No w).alloc _
  by_cases hbig : 2147483647 < l.length
  · have hzz := fun W => zz_calls (.int .i64 23) (.int .u64 n) (.string s) (.slice Ak m ck) (.int .i64 o) (.slice Bk d cb) f A l.length cap cut W false (by show _ = true; exact decide_eq_true (by omega))
    go_enter Tryd.func8, Tryd.ntmps8
    go_wp2_with fail
    refine (hzz _).mono ?_
    rintro e w1 ⟨rfl, hch1⟩
    go_wp2_with fail
    go_ret
    exact ⟨rfl, C1.no_no hch1⟩
  have hzz := fun W => zz_calls (.int .i64 23) (.int .u64 n) (.string s) (.slice Ak m ck) (.int .i64 o) (.slice Bk d cb) f A l.length cap cut W true (by show _ = false; exact decide_eq_false (by omega))
  go_enter Tryd.func8, Tryd.ntmps8
  go_wp2_with fail
  refine (hzz _).mono ?_
  rintro e w1 ⟨rfl, hch1⟩
  have C2 := C1.no_no hch1
  have hB1 := hB.keep0 hch1
  have hT1 := hT.keep0 C2
  clear hzz
  have qa0 := hB1.cell 0 _ rfl
  have qa1 := hB1.cell 1 _ rfl
  have qa2 := hB1.cell 2 _ rfl
  have qa3 := hB1.cell 3 _ rfl
  have qa4 := hB1.cell 4 _ rfl
  have qa5 := hB1.cell 5 _ rfl
  have qa6 := hB1.cell 6 _ rfl
  have qa7 := hB1.cell 7 _ rfl
  have qa8 := hB1.cell 8 _ rfl
  go_wp2_with fail
  refine (awake_iw w1).mono ?_
  rintro e w1a ⟨Aa, ca, rfl, hra, _, hch1a⟩
  go_wp2_with fail
  refine (awake_ir Aa ca w1a hra).mono ?_
  rintro e w2 ⟨Ab, cb2, Ac, cc2, rfl, hrb, _, _, _, hch2⟩
  obtain ⟨b5, o5, rfl, hc5⟩ := hrb.at_ 0 (by simp)
  simp only [Nat.add_zero, List.getElem_cons_zero] at hc5
  have C3 := ((C2.alloc (.cells #[.int .i32 5] 21)).no_no hch1a).no_no hch2
  have hB2 := ((hB1.keep0 ((Ch.refl No w1).alloc (.cells #[.int .i32 5] 21))).keep0 hch1a).keep0 hch2
  have r0 := hB2.cell 0 _ rfl
  have r1 := hB2.cell 1 _ rfl
  have r2 := hB2.cell 2 _ rfl
  have r3 := hB2.cell 3 _ rfl
  have r4 := hB2.cell 4 _ rfl
  have r5 := hB2.cell 5 _ rfl
  have r6 := hB2.cell 6 _ rfl
  have r7 := hB2.cell 7 _ rfl
  have r8 := hB2.cell 8 _ rfl
  have hT2 := hT.keep0 C3
  go_wp2_with fail
  refine (data_calls 23 n o s m d K D (.int .i64 23) (.int .u64 n) (.string s) (.slice Ak m ck) (.int .i64 o) Bk cb f A l cap cut w w2 C3 hT2 ht hf0 hf1 (hr.keep0 C3)).mono ?_
  rintro e w3 ⟨hch3, hdt⟩
  have C4 := C3.no_no hch3
  have hB3 := hB2.keep0 hch3
  have hT3 := hT.keep0 C4
  have s0 := hB3.cell 0 _ rfl
  have s1 := hB3.cell 1 _ rfl
  have s2 := hB3.cell 2 _ rfl
  have s3 := hB3.cell 3 _ rfl
  have s4 := hB3.cell 4 _ rfl
  have s5 := hB3.cell 5 _ rfl
  have s6 := hB3.cell 6 _ rfl
  have s7 := hB3.cell 7 _ rfl
  have s8 := hB3.cell 8 _ rfl
  have hvb := va_bounds ht
  have HAO := hid (fun W (hW : Ch No w W) => arrayOf_yes w 23 n o 8 s m d K D Ak Bk ck cb W ht (hW.mono (fun _ h => h.elim)) hvb.1 hvb.2 HX.out)
  clear hvb
  rcases hdt with ⟨x, y, cc, rfl⟩ | ⟨hask, Ad, cd, dd, hd, hdl, ⟨kk, hk, rfl, hrd, hcd⟩ | ⟨rfl, hrd, hcd⟩⟩
  · go_wp2_with fail
    refine (HAO.out w3 C4).mono ?_
    rintro e w4 ⟨rfl, hch4⟩
    have C5 := C4.no_no hch4
    go_wp2_with fail
    go_ret
    exact ⟨rfl, C5⟩
  · obtain ⟨E, j, hA⟩ := ar_any hask.ds hask.fit hask.cn hd
    have HNO := hid (fun W (hW : Ch No w3 W) => ai_cut Ad cd dd _ m j kk W hA hk (hrd.keep0 hW) ((wr_byt _ 6 hask.fit).2.2 dd hd) (by have := hask.bl; simp only [List.length_take, List.length_append]; omega) (hT3.keep0 hW).2)
    generalize (dd.take kk).length = M at HNO hcd ⊢
    clear hk hrd hA
    go_wp2_with fail
    refine (HAO.out w3 C4).mono ?_
    rintro e w4 ⟨rfl, hch4⟩
    have C5 := C4.no_no hch4
    have hB4 := hB3.keep0 hch4
    have u0 := hB4.cell 0 _ rfl
    have u1 := hB4.cell 1 _ rfl
    have u2 := hB4.cell 2 _ rfl
    have u3 := hB4.cell 3 _ rfl
    have u4 := hB4.cell 4 _ rfl
    have u5 := hB4.cell 5 _ rfl
    have u6 := hB4.cell 6 _ rfl
    have u7 := hB4.cell 7 _ rfl
    have u8 := hB4.cell 8 _ rfl
    go_wp2_with fail
    refine (HNO.out w4 hch4).mono ?_
    rintro e w6 ⟨rfl, hch6⟩
    go_wp2_with fail
    go_ret
    exact ⟨rfl, C5.no_no hch6⟩
  · obtain ⟨L9, hL9⟩ : ∃ L9, (List.range m).map (fun i => s32 (numAt K i)) = L9 := ⟨_, rfl⟩
    obtain ⟨P9, hP9⟩ : ∃ P9, (List.range m).map (prN K) = P9 := ⟨_, rfl⟩
    have HL : Hid (L9.length = m ∧ ∀ (i : Nat) (h : i < L9.length), L9[i] = s32 (numAt K i)) := hid (by subst hL9; simp)
    have HP : Hid (P9.length = m ∧ ∀ (i : Nat) (h : i < P9.length), P9[i] = prN K i) := hid (by subst hP9; simp)
    have HKN := hid (fun i (h : i < m) => ai_kid hask.fit HX.out i h)
    have HBD := hid (ai_form hask.ds hask.fit hask.cn hd HX.out).2.2
    have hm1 : m ≤ 1000 := (fit_parts hask.fit).2.2.1
    have HOK := hid (fun W (hW : Ch No w3 W) => (show Calls _ _ _ W (RsT (Value.int .i32) L9 l W) from hL9 ▸ ai_take hask.ds hask.fit hask.cn hd HX.out Ad cd l W (hrd.keep0 hW) (((wr_byt _ 6 hask.fit).2.2 dd hd).append hb) (by have := hask.bl; simp only [List.length_take, List.length_append]; omega)))
    have HLF := hid (fun (A5 : Option Addr) (c5 : Nat) W (h5 : Rd u8 W A5 l) (h : Ch No w W) => left_calls A5 A c5 cap l W h5 (hr.keep0 h))
    have HVK := hid (va_kids ht)
    generalize (dd ++ l).length = M at HOK hcd ⊢
    clear hrd hd hdl hask hL9 hP9
    go_wp2_with fail
    refine (HAO.out w3 C4).mono ?_
    rintro e w4 ⟨rfl, hch4⟩
    have C5 := C4.no_no hch4
    have hB4 := hB3.keep0 hch4
    have u0 := hB4.cell 0 _ rfl
    have u1 := hB4.cell 1 _ rfl
    have u2 := hB4.cell 2 _ rfl
    have u3 := hB4.cell 3 _ rfl
    have u4 := hB4.cell 4 _ rfl
    have u5 := hB4.cell 5 _ rfl
    have u6 := hB4.cell 6 _ rfl
    have u7 := hB4.cell 7 _ rfl
    have u8 := hB4.cell 8 _ rfl
    go_wp2_with fail
    refine (HOK.out w4 hch4).mono ?_
    rintro e w6 ⟨A9, c9, A6, c6, rfl, hr9, hc9, hr6, hc6, hch6⟩
    have hLl := HL.out.1
    rw [hLl] at hc9 ⊢
    have C6 := C5.no_no hch6
    go_wp2_with fail
    go_loopg [18, 97] m (fun kk s18 s97 wr => ∃ i : Nat, kk + i = m ∧ s97 = .int .i64 i ∧ OwK 25 6 wr s18 i ((P9.take i).flatMap (vfc 8)) ∧ (∀ b, Blk s18 b → w6.heap.size ≤ b) ∧ Ch No w6 wr)
    case atStart => exact ⟨0, by omega, rfl, OwK.nil _ _ _, fun b hb => absurd hb Blk_nil, Ch.refl _ _⟩
    case round =>
      rename World => wB
      obtain ⟨i, hki, rfl, HO, hfr, hch⟩ := hrel
      by_cases hi : i < m
      · have hiL : i < L9.length := by omega
        obtain ⟨b9, o9, rfl, hx⟩ := (hr9.keep0 hch).at_ i hiL
        have hxb := HBD.out i hi
        have hxe := HL.out.2 i hiL
        have hiP : i < P9.length := by rw [HP.out.1]; exact hi
        have HT : Hid (P9.take (i + 1) = P9.take i ++ [prN K i]) := hid (by rw [List.take_succ_eq_append_getElem hiP, HP.out.2])
        have hpe : Hid (prN K i = (numAt K i, ⟨#[]⟩)) := hid rfl
        generalize L9[i] = x at hx hxe
        generalize numAt K i = y at hxe hxb hpe
        rw [← hxe] at hxb
        obtain ⟨hc1, hc2⟩ := hxb
        clear hxe
        have hi' : (i : Int) < m := by omega
        have hi0 : (0 : Int) ≤ i := by omega
        go_wp2_with ((with_reducible refine gate (.call { callee := .builtin .append, args := #[.tmp 101, .tmp 106], argTypes := #[23, 23] }) rfl ?_); refine wp_appendK rfl _ _ 23 25 _ 6 88 rfl Tryd.underlying23 info_va rfl (by decide) (by decide) (by decide) _ i ((P9.take i).flatMap (vfc 8)) (vfc 8 (y, ⟨#[]⟩)) _ _ rfl rfl rfl (by simp [Value.oneCell', vfc]) (HO.keep0 ((Ch.refl No wB).alloc _)) (Row.alloc wB (vfc 8 (y, ⟨#[]⟩)) 25) (by omega) ?_; intro v5 w5 ho5 hch5 hat5)
        go_roundg (m - (i + 1))
        case measure => omega
        case rel =>
          have hs := hch.size
          refine ⟨i + 1, by omega, by go_num, by rw [HT.out, hpe.out, List.flatMap_append]; simpa using ho5, fun b hb => ?_, (hch.alloc _).trans hch5 (fun _ h => h) (fun b hb => .inr (hfr b hb))⟩
          rcases hat5 b hb with h | h
          · exact hfr b h
          · simp only [World.size_alloc] at h
            omega
      · obtain rfl : i = m := by omega
        have hPl : P9.length = i := HP.out.1
        obtain ⟨Av, cv, rfl⟩ := HO.slice
        have HR := hid ((show OwK 25 6 wB (.slice Av i cv) P9.length (P9.flatMap (vfc 8)) from by rw [hPl]; rwa [List.take_of_length_le (by omega)] at HO).rd)
        have C7 := C6.no_no hch
        have HSL := hid (sameList_true w 8 i K Av Ak cv ck P9 wB hPl hm1 HVK.out (C7.mono (fun _ h => h.elim)) HR.out (fun q h h' => by
          rw [HP.out.2 q h']
          exact HKN.out q h))
        have hr6' := hr6.keep0 hch
        clear HO
        go_wp2_with fail
        refine HSL.out.mono ?_
        rintro e w8 ⟨rfl, hch8⟩
        go_wp2_with fail
        refine (HLF.out A6 c6 w8 (hr6'.keep0 hch8) (C7.no_no hch8)).mono ?_
        rintro e w9 ⟨rfl, hch9⟩
        go_wp2_with fail
        go_ret
        exact ⟨rfl, (C7.no_no hch8).no_no hch9⟩
set_option maxRecDepth 100000 in
set_option maxHeartbeats 4000000 in
theorem lawAi_k (k n o : Int) (s : ByteArray) (m d : Nat) (K : Fin m → Va) (D : Fin d → Va) (Ak Bk : Option Addr) (ck cb : Nat) (f : Int) (A : Option Addr) (l : List Int) (cap : Nat) (cut : Int) (w : World) (hT : Lds w) (ht : VaP w (.mk k n s m K o d D) [.int .i64 k, .int .u64 n, .string s, .slice Ak m ck, .int .i64 o, .slice Bk d cb]) (hf0 : 0 ≤ f) (hf1 : f < 18446744073709551616) (hr : Rd u8 w A l) (hle : l.length ≤ cap) (hb : Byt l) (hk : k ≠ 23) :
    Calls Tryd.prog 8 #[.agg #[.int .i64 k, .int .u64 n, .string s, .slice Ak m ck, .int .i64 o, .slice Bk d cb, .int .u64 f, .slice A l.length cap, .int .i64 cut]] w fun e w' => e = .returned (.bool true) ∧ Ch No w w' := by
  have HX := hid hk
  clear hk
  have hB := Row.alloc w [.int .i64 k, .int .u64 n, .string s, .slice Ak m ck, .int .i64 o, .slice Bk d cb, .int .u64 f, .slice A l.length cap, .int .i64 cut] 28
  have q0 := hB.cell 0 _ rfl
  have q1 := hB.cell 1 _ rfl
  have q2 := hB.cell 2 _ rfl
  have q3 := hB.cell 3 _ rfl
  have q4 := hB.cell 4 _ rfl
  have q5 := hB.cell 5 _ rfl
  have q6 := hB.cell 6 _ rfl
  have q7 := hB.cell 7 _ rfl
  have q8 := hB.cell 8 _ rfl
  have C1 : Ch No w (w.alloc (.cells #[.int .i64 k, .int .u64 n, .string s, .slice Ak m ck, .int .i64 o, .slice Bk d cb, .int .u64 f, .slice A l.length cap, .int .i64 cut] 28)) := (Ch.refl No w).alloc _
  by_cases hbig : 2147483647 < l.length
  · have hzz := fun W => zz_calls (.int .i64 k) (.int .u64 n) (.string s) (.slice Ak m ck) (.int .i64 o) (.slice Bk d cb) f A l.length cap cut W false (by show _ = true; exact decide_eq_true (by omega))
    go_enter Tryd.func8, Tryd.ntmps8
    go_wp2_with fail
    refine (hzz _).mono ?_
    rintro e w1 ⟨rfl, hch1⟩
    go_wp2_with fail
    go_ret
    exact ⟨rfl, C1.no_no hch1⟩
  have hzz := fun W => zz_calls (.int .i64 k) (.int .u64 n) (.string s) (.slice Ak m ck) (.int .i64 o) (.slice Bk d cb) f A l.length cap cut W true (by show _ = false; exact decide_eq_false (by omega))
  go_enter Tryd.func8, Tryd.ntmps8
  go_wp2_with fail
  refine (hzz _).mono ?_
  rintro e w1 ⟨rfl, hch1⟩
  have C2 := C1.no_no hch1
  have hB1 := hB.keep0 hch1
  have hT1 := hT.keep0 C2
  clear hzz
  have qa0 := hB1.cell 0 _ rfl
  have qa1 := hB1.cell 1 _ rfl
  have qa2 := hB1.cell 2 _ rfl
  have qa3 := hB1.cell 3 _ rfl
  have qa4 := hB1.cell 4 _ rfl
  have qa5 := hB1.cell 5 _ rfl
  have qa6 := hB1.cell 6 _ rfl
  have qa7 := hB1.cell 7 _ rfl
  have qa8 := hB1.cell 8 _ rfl
  go_wp2_with fail
  refine (awake_iw w1).mono ?_
  rintro e w1a ⟨Aa, ca, rfl, hra, _, hch1a⟩
  go_wp2_with fail
  refine (awake_ir Aa ca w1a hra).mono ?_
  rintro e w2 ⟨Ab, cb2, Ac, cc2, rfl, hrb, _, _, _, hch2⟩
  obtain ⟨b5, o5, rfl, hc5⟩ := hrb.at_ 0 (by simp)
  simp only [Nat.add_zero, List.getElem_cons_zero] at hc5
  have C3 := ((C2.alloc (.cells #[.int .i32 5] 21)).no_no hch1a).no_no hch2
  have hB2 := ((hB1.keep0 ((Ch.refl No w1).alloc (.cells #[.int .i32 5] 21))).keep0 hch1a).keep0 hch2
  have r0 := hB2.cell 0 _ rfl
  have r1 := hB2.cell 1 _ rfl
  have r2 := hB2.cell 2 _ rfl
  have r3 := hB2.cell 3 _ rfl
  have r4 := hB2.cell 4 _ rfl
  have r5 := hB2.cell 5 _ rfl
  have r6 := hB2.cell 6 _ rfl
  have r7 := hB2.cell 7 _ rfl
  have r8 := hB2.cell 8 _ rfl
  have hT2 := hT.keep0 C3
  go_wp2_with fail
  refine (data_calls k n o s m d K D (.int .i64 k) (.int .u64 n) (.string s) (.slice Ak m ck) (.int .i64 o) Bk cb f A l cap cut w w2 C3 hT2 ht hf0 hf1 (hr.keep0 C3)).mono ?_
  rintro e w3 ⟨hch3, hdt⟩
  have C4 := C3.no_no hch3
  have hB3 := hB2.keep0 hch3
  have hT3 := hT.keep0 C4
  have s0 := hB3.cell 0 _ rfl
  have s1 := hB3.cell 1 _ rfl
  have s2 := hB3.cell 2 _ rfl
  have s3 := hB3.cell 3 _ rfl
  have s4 := hB3.cell 4 _ rfl
  have s5 := hB3.cell 5 _ rfl
  have s6 := hB3.cell 6 _ rfl
  have s7 := hB3.cell 7 _ rfl
  have s8 := hB3.cell 8 _ rfl
  have hvb := va_bounds ht
  have HAO := hid (fun W (hW : Ch No w W) => arrayOf_no w k n o 8 s m d K D Ak Bk ck cb W ht (hW.mono (fun _ h => h.elim)) hvb.1 hvb.2 (fun h => HX.out h.1))
  have HIA := hid (fun W => isArray_calls k n o s Ak Bk m d ck cb W false (decide_eq_false HX.out))
  clear hvb
  rcases hdt with ⟨x, y, cc, rfl⟩ | ⟨hask, Ad, cd, dd, hd, hdl, ⟨kk, hk, rfl, hrd, hcd⟩ | ⟨rfl, hrd, hcd⟩⟩
  · go_wp2_with fail
    refine (HAO.out w3 C4).mono ?_
    rintro e w4 ⟨rfl, hch4⟩
    have C5 := C4.no_no hch4
    go_wp2_with fail
    go_ret
    exact ⟨rfl, C5⟩
  · have HNO := hid (fun W (hW : Ch No w3 W) => ai_no Ad cd (dd.take kk) W (hrd.keep0 hW) (by have := hask.bl; simp only [List.length_take, List.length_append]; omega) (by obtain ⟨c, x, rfl, h⟩ := arr_other HX.out hask.ds hask.fit hd; cases kk with | zero => exact .inl rfl | succ q => exact .inr ⟨c, x.take q, rfl, h⟩) (hT3.keep0 hW).2)
    generalize (dd.take kk).length = M at HNO hcd ⊢
    clear hrd
    go_wp2_with fail
    refine (HAO.out w3 C4).mono ?_
    rintro e w4 ⟨rfl, hch4⟩
    have C5 := C4.no_no hch4
    have hB4 := hB3.keep0 hch4
    have u0 := hB4.cell 0 _ rfl
    have u1 := hB4.cell 1 _ rfl
    have u2 := hB4.cell 2 _ rfl
    have u3 := hB4.cell 3 _ rfl
    have u4 := hB4.cell 4 _ rfl
    have u5 := hB4.cell 5 _ rfl
    have u6 := hB4.cell 6 _ rfl
    have u7 := hB4.cell 7 _ rfl
    have u8 := hB4.cell 8 _ rfl
    go_wp2_with fail
    refine (HIA.out w4).mono ?_
    rintro e w5 ⟨rfl, hch5⟩
    have C6 := C5.no_no hch5
    have hB5 := hB4.keep0 hch5
    have y0 := hB5.cell 0 _ rfl
    have y1 := hB5.cell 1 _ rfl
    have y2 := hB5.cell 2 _ rfl
    have y3 := hB5.cell 3 _ rfl
    have y4 := hB5.cell 4 _ rfl
    have y5 := hB5.cell 5 _ rfl
    have y6 := hB5.cell 6 _ rfl
    have y7 := hB5.cell 7 _ rfl
    have y8 := hB5.cell 8 _ rfl
    go_wp2_with fail
    refine (HNO.out w5 (hch4.no_no hch5)).mono ?_
    rintro e w6 ⟨rfl, hch6⟩
    go_wp2_with fail
    go_ret
    exact ⟨rfl, C6.no_no hch6⟩
  · have HNO := hid (fun W (hW : Ch No w3 W) => ai_no Ad cd (dd ++ l) W (hrd.keep0 hW) (by have := hask.bl; simp only [List.length_take, List.length_append]; omega) (by obtain ⟨c, x, rfl, h⟩ := arr_other HX.out hask.ds hask.fit hd; exact .inr ⟨c, x ++ l, rfl, h⟩) (hT3.keep0 hW).2)
    generalize (dd ++ l).length = M at HNO hcd ⊢
    clear hrd
    go_wp2_with fail
    refine (HAO.out w3 C4).mono ?_
    rintro e w4 ⟨rfl, hch4⟩
    have C5 := C4.no_no hch4
    have hB4 := hB3.keep0 hch4
    have u0 := hB4.cell 0 _ rfl
    have u1 := hB4.cell 1 _ rfl
    have u2 := hB4.cell 2 _ rfl
    have u3 := hB4.cell 3 _ rfl
    have u4 := hB4.cell 4 _ rfl
    have u5 := hB4.cell 5 _ rfl
    have u6 := hB4.cell 6 _ rfl
    have u7 := hB4.cell 7 _ rfl
    have u8 := hB4.cell 8 _ rfl
    go_wp2_with fail
    refine (HIA.out w4).mono ?_
    rintro e w5 ⟨rfl, hch5⟩
    have C6 := C5.no_no hch5
    have hB5 := hB4.keep0 hch5
    have y0 := hB5.cell 0 _ rfl
    have y1 := hB5.cell 1 _ rfl
    have y2 := hB5.cell 2 _ rfl
    have y3 := hB5.cell 3 _ rfl
    have y4 := hB5.cell 4 _ rfl
    have y5 := hB5.cell 5 _ rfl
    have y6 := hB5.cell 6 _ rfl
    have y7 := hB5.cell 7 _ rfl
    have y8 := hB5.cell 8 _ rfl
    go_wp2_with fail
    refine (HNO.out w5 (hch4.no_no hch5)).mono ?_
    rintro e w6 ⟨rfl, hch6⟩
    go_wp2_with fail
    go_ret
    exact ⟨rfl, C6.no_no hch6⟩
set_option maxRecDepth 100000 in
set_option maxHeartbeats 4000000 in
theorem lawAi_no (n o : Int) (s : ByteArray) (m d : Nat) (K : Fin m → Va) (D : Fin d → Va) (Ak Bk : Option Addr) (ck cb : Nat) (f : Int) (A : Option Addr) (l : List Int) (cap : Nat) (cut : Int) (w : World) (hT : Lds w) (ht : VaP w (.mk 23 n s m K o d D) [.int .i64 23, .int .u64 n, .string s, .slice Ak m ck, .int .i64 o, .slice Bk d cb]) (hf0 : 0 ≤ f) (hf1 : f < 18446744073709551616) (hr : Rd u8 w A l) (hle : l.length ≤ cap) (hb : Byt l) (hx : ¬ Right 23 o K 8) :
    Calls Tryd.prog 8 #[.agg #[.int .i64 23, .int .u64 n, .string s, .slice Ak m ck, .int .i64 o, .slice Bk d cb, .int .u64 f, .slice A l.length cap, .int .i64 cut]] w fun e w' => e = .returned (.bool true) ∧ Ch No w w' := by
  have HX := hid hx
  clear hx
  have hB := Row.alloc w [.int .i64 23, .int .u64 n, .string s, .slice Ak m ck, .int .i64 o, .slice Bk d cb, .int .u64 f, .slice A l.length cap, .int .i64 cut] 28
  have q0 := hB.cell 0 _ rfl
  have q1 := hB.cell 1 _ rfl
  have q2 := hB.cell 2 _ rfl
  have q3 := hB.cell 3 _ rfl
  have q4 := hB.cell 4 _ rfl
  have q5 := hB.cell 5 _ rfl
  have q6 := hB.cell 6 _ rfl
  have q7 := hB.cell 7 _ rfl
  have q8 := hB.cell 8 _ rfl
  have C1 : Ch No w (w.alloc (.cells #[.int .i64 23, .int .u64 n, .string s, .slice Ak m ck, .int .i64 o, .slice Bk d cb, .int .u64 f, .slice A l.length cap, .int .i64 cut] 28)) := (Ch.refl No w).alloc _
  by_cases hbig : 2147483647 < l.length
  · have hzz := fun W => zz_calls (.int .i64 23) (.int .u64 n) (.string s) (.slice Ak m ck) (.int .i64 o) (.slice Bk d cb) f A l.length cap cut W false (by show _ = true; exact decide_eq_true (by omega))
    go_enter Tryd.func8, Tryd.ntmps8
    go_wp2_with fail
    refine (hzz _).mono ?_
    rintro e w1 ⟨rfl, hch1⟩
    go_wp2_with fail
    go_ret
    exact ⟨rfl, C1.no_no hch1⟩
  have hzz := fun W => zz_calls (.int .i64 23) (.int .u64 n) (.string s) (.slice Ak m ck) (.int .i64 o) (.slice Bk d cb) f A l.length cap cut W true (by show _ = false; exact decide_eq_false (by omega))
  go_enter Tryd.func8, Tryd.ntmps8
  go_wp2_with fail
  refine (hzz _).mono ?_
  rintro e w1 ⟨rfl, hch1⟩
  have C2 := C1.no_no hch1
  have hB1 := hB.keep0 hch1
  have hT1 := hT.keep0 C2
  clear hzz
  have qa0 := hB1.cell 0 _ rfl
  have qa1 := hB1.cell 1 _ rfl
  have qa2 := hB1.cell 2 _ rfl
  have qa3 := hB1.cell 3 _ rfl
  have qa4 := hB1.cell 4 _ rfl
  have qa5 := hB1.cell 5 _ rfl
  have qa6 := hB1.cell 6 _ rfl
  have qa7 := hB1.cell 7 _ rfl
  have qa8 := hB1.cell 8 _ rfl
  go_wp2_with fail
  refine (awake_iw w1).mono ?_
  rintro e w1a ⟨Aa, ca, rfl, hra, _, hch1a⟩
  go_wp2_with fail
  refine (awake_ir Aa ca w1a hra).mono ?_
  rintro e w2 ⟨Ab, cb2, Ac, cc2, rfl, hrb, _, _, _, hch2⟩
  obtain ⟨b5, o5, rfl, hc5⟩ := hrb.at_ 0 (by simp)
  simp only [Nat.add_zero, List.getElem_cons_zero] at hc5
  have C3 := ((C2.alloc (.cells #[.int .i32 5] 21)).no_no hch1a).no_no hch2
  have hB2 := ((hB1.keep0 ((Ch.refl No w1).alloc (.cells #[.int .i32 5] 21))).keep0 hch1a).keep0 hch2
  have r0 := hB2.cell 0 _ rfl
  have r1 := hB2.cell 1 _ rfl
  have r2 := hB2.cell 2 _ rfl
  have r3 := hB2.cell 3 _ rfl
  have r4 := hB2.cell 4 _ rfl
  have r5 := hB2.cell 5 _ rfl
  have r6 := hB2.cell 6 _ rfl
  have r7 := hB2.cell 7 _ rfl
  have r8 := hB2.cell 8 _ rfl
  have hT2 := hT.keep0 C3
  go_wp2_with fail
  refine (data_calls 23 n o s m d K D (.int .i64 23) (.int .u64 n) (.string s) (.slice Ak m ck) (.int .i64 o) Bk cb f A l cap cut w w2 C3 hT2 ht hf0 hf1 (hr.keep0 C3)).mono ?_
  rintro e w3 ⟨hch3, hdt⟩
  have C4 := C3.no_no hch3
  have hB3 := hB2.keep0 hch3
  have hT3 := hT.keep0 C4
  have s0 := hB3.cell 0 _ rfl
  have s1 := hB3.cell 1 _ rfl
  have s2 := hB3.cell 2 _ rfl
  have s3 := hB3.cell 3 _ rfl
  have s4 := hB3.cell 4 _ rfl
  have s5 := hB3.cell 5 _ rfl
  have s6 := hB3.cell 6 _ rfl
  have s7 := hB3.cell 7 _ rfl
  have s8 := hB3.cell 8 _ rfl
  have hvb := va_bounds ht
  have HAO := hid (fun W (hW : Ch No w W) => arrayOf_no w 23 n o 8 s m d K D Ak Bk ck cb W ht (hW.mono (fun _ h => h.elim)) hvb.1 hvb.2 HX.out)
  have HIA := hid (fun W => isArray_calls 23 n o s Ak Bk m d ck cb W true rfl)
  clear hvb
  rcases hdt with ⟨x, y, cc, rfl⟩ | ⟨hask, Ad, cd, dd, hd, hdl, ⟨kk, hk, rfl, hrd, hcd⟩ | ⟨rfl, hrd, hcd⟩⟩
  · go_wp2_with fail
    refine (HAO.out w3 C4).mono ?_
    rintro e w4 ⟨rfl, hch4⟩
    have C5 := C4.no_no hch4
    go_wp2_with fail
    go_ret
    exact ⟨rfl, C5⟩
  · rcases Nat.eq_zero_or_pos m with hz | hz
    · subst hz
      generalize (dd.take kk).length = M at hcd ⊢
      clear hrd
      go_wp2_with fail
      refine (HAO.out w3 C4).mono ?_
      rintro e w4 ⟨rfl, hch4⟩
      have C5 := C4.no_no hch4
      have hB4 := hB3.keep0 hch4
      have u0 := hB4.cell 0 _ rfl
      have u1 := hB4.cell 1 _ rfl
      have u2 := hB4.cell 2 _ rfl
      have u3 := hB4.cell 3 _ rfl
      have u4 := hB4.cell 4 _ rfl
      have u5 := hB4.cell 5 _ rfl
      have u6 := hB4.cell 6 _ rfl
      have u7 := hB4.cell 7 _ rfl
      have u8 := hB4.cell 8 _ rfl
      go_wp2_with fail
      refine (HIA.out w4).mono ?_
      rintro e w5 ⟨rfl, hch5⟩
      have C6 := C5.no_no hch5
      have hB5 := hB4.keep0 hch5
      have y0 := hB5.cell 0 _ rfl
      have y1 := hB5.cell 1 _ rfl
      have y2 := hB5.cell 2 _ rfl
      have y3 := hB5.cell 3 _ rfl
      have y4 := hB5.cell 4 _ rfl
      have y5 := hB5.cell 5 _ rfl
      have y6 := hB5.cell 6 _ rfl
      have y7 := hB5.cell 7 _ rfl
      have y8 := hB5.cell 8 _ rfl
      go_wp2_with fail
      go_ret
      exact ⟨rfl, C6⟩
    · obtain ⟨x, E, j, hA, hx⟩ := ar_other 8 _ code_ai (by decide) hask.ds hask.fit hask.cn hd hz HX.out
      have HNO := hid (fun W (hW : Ch No w3 W) => ai_cut Ad cd dd _ m j kk W hA hk (hrd.keep0 hW) ((wr_byt _ 6 hask.fit).2.2 dd hd) (by have := hask.bl; simp only [List.length_take, List.length_append]; omega) (hT3.keep0 hW).2)
      generalize (dd.take kk).length = M at HNO hcd ⊢
      clear hrd hA hx
      have hz1 : ((m : Int) == 0) = false := beq_eq_false_iff_ne.2 (by omega)
      have hz2 : decide ((m : Int) = 0) = false := decide_eq_false (by omega)
      go_wp2_with fail
      refine (HAO.out w3 C4).mono ?_
      rintro e w4 ⟨rfl, hch4⟩
      have C5 := C4.no_no hch4
      have hB4 := hB3.keep0 hch4
      have u0 := hB4.cell 0 _ rfl
      have u1 := hB4.cell 1 _ rfl
      have u2 := hB4.cell 2 _ rfl
      have u3 := hB4.cell 3 _ rfl
      have u4 := hB4.cell 4 _ rfl
      have u5 := hB4.cell 5 _ rfl
      have u6 := hB4.cell 6 _ rfl
      have u7 := hB4.cell 7 _ rfl
      have u8 := hB4.cell 8 _ rfl
      go_wp2_with fail
      refine (HIA.out w4).mono ?_
      rintro e w5 ⟨rfl, hch5⟩
      have C6 := C5.no_no hch5
      have hB5 := hB4.keep0 hch5
      have y0 := hB5.cell 0 _ rfl
      have y1 := hB5.cell 1 _ rfl
      have y2 := hB5.cell 2 _ rfl
      have y3 := hB5.cell 3 _ rfl
      have y4 := hB5.cell 4 _ rfl
      have y5 := hB5.cell 5 _ rfl
      have y6 := hB5.cell 6 _ rfl
      have y7 := hB5.cell 7 _ rfl
      have y8 := hB5.cell 8 _ rfl
      go_wp2_with fail
      refine (HNO.out w5 (hch4.no_no hch5)).mono ?_
      rintro e w6 ⟨rfl, hch6⟩
      go_wp2_with fail
      go_ret
      exact ⟨rfl, C6.no_no hch6⟩
  · rcases Nat.eq_zero_or_pos m with hz | hz
    · subst hz
      generalize (dd ++ l).length = M at hcd ⊢
      clear hrd
      go_wp2_with fail
      refine (HAO.out w3 C4).mono ?_
      rintro e w4 ⟨rfl, hch4⟩
      have C5 := C4.no_no hch4
      have hB4 := hB3.keep0 hch4
      have u0 := hB4.cell 0 _ rfl
      have u1 := hB4.cell 1 _ rfl
      have u2 := hB4.cell 2 _ rfl
      have u3 := hB4.cell 3 _ rfl
      have u4 := hB4.cell 4 _ rfl
      have u5 := hB4.cell 5 _ rfl
      have u6 := hB4.cell 6 _ rfl
      have u7 := hB4.cell 7 _ rfl
      have u8 := hB4.cell 8 _ rfl
      go_wp2_with fail
      refine (HIA.out w4).mono ?_
      rintro e w5 ⟨rfl, hch5⟩
      have C6 := C5.no_no hch5
      have hB5 := hB4.keep0 hch5
      have y0 := hB5.cell 0 _ rfl
      have y1 := hB5.cell 1 _ rfl
      have y2 := hB5.cell 2 _ rfl
      have y3 := hB5.cell 3 _ rfl
      have y4 := hB5.cell 4 _ rfl
      have y5 := hB5.cell 5 _ rfl
      have y6 := hB5.cell 6 _ rfl
      have y7 := hB5.cell 7 _ rfl
      have y8 := hB5.cell 8 _ rfl
      go_wp2_with fail
      go_ret
      exact ⟨rfl, C6⟩
    · obtain ⟨x, E, j, hA, hx⟩ := ar_other 8 _ code_ai (by decide) hask.ds hask.fit hask.cn hd hz HX.out
      have HNO := hid (fun W (hW : Ch No w3 W) => ai_code Ad cd dd E l x m j W hA hx (hrd.keep0 hW) (((wr_byt _ 6 hask.fit).2.2 dd hd).append hb) (by have := hask.bl; simp only [List.length_take, List.length_append]; omega))
      generalize (dd ++ l).length = M at HNO hcd ⊢
      clear hrd hA hx
      have hz1 : ((m : Int) == 0) = false := beq_eq_false_iff_ne.2 (by omega)
      have hz2 : decide ((m : Int) = 0) = false := decide_eq_false (by omega)
      go_wp2_with fail
      refine (HAO.out w3 C4).mono ?_
      rintro e w4 ⟨rfl, hch4⟩
      have C5 := C4.no_no hch4
      have hB4 := hB3.keep0 hch4
      have u0 := hB4.cell 0 _ rfl
      have u1 := hB4.cell 1 _ rfl
      have u2 := hB4.cell 2 _ rfl
      have u3 := hB4.cell 3 _ rfl
      have u4 := hB4.cell 4 _ rfl
      have u5 := hB4.cell 5 _ rfl
      have u6 := hB4.cell 6 _ rfl
      have u7 := hB4.cell 7 _ rfl
      have u8 := hB4.cell 8 _ rfl
      go_wp2_with fail
      refine (HIA.out w4).mono ?_
      rintro e w5 ⟨rfl, hch5⟩
      have C6 := C5.no_no hch5
      have hB5 := hB4.keep0 hch5
      have y0 := hB5.cell 0 _ rfl
      have y1 := hB5.cell 1 _ rfl
      have y2 := hB5.cell 2 _ rfl
      have y3 := hB5.cell 3 _ rfl
      have y4 := hB5.cell 4 _ rfl
      have y5 := hB5.cell 5 _ rfl
      have y6 := hB5.cell 6 _ rfl
      have y7 := hB5.cell 7 _ rfl
      have y8 := hB5.cell 8 _ rfl
      go_wp2_with fail
      refine (HNO.out w5 (hch4.no_no hch5)).mono ?_
      rintro e w6 ⟨rfl, hch6⟩
      go_wp2_with fail
      go_ret
      exact ⟨rfl, C6.no_no hch6⟩
theorem FnReadArrayIntLaw (t : Va) (v0 v1 v2 v3 v4 v5 : Value) (f : Int) (A : Option Addr) (l : List Int) (cap : Nat) (cut : Int) (w : World) (hT : Lds w) (ht : VaP w t [v0, v1, v2, v3, v4, v5]) (hf0 : 0 ≤ f) (hf1 : f < 18446744073709551616) (hr : Rd u8 w A l) (hle : l.length ≤ cap) (hb : Byt l) :
    Calls Tryd.prog 8 #[.agg #[v0, v1, v2, v3, v4, v5, .int .u64 f, .slice A l.length cap, .int .i64 cut]] w fun e w' => e = .returned (.bool true) ∧ Ch No w w' := by
  obtain ⟨k, n, s, m, K, o, d, D⟩ := t
  have ht' := ht
  obtain ⟨Ak, ck, Bk, cb, he, _⟩ := ht'
  simp only [List.cons.injEq, and_true] at he
  obtain ⟨rfl, rfl, rfl, rfl, rfl, rfl⟩ := he
  by_cases h2 : k = 23
  · subst h2
    by_cases hx : Right 23 o K 8
    · exact lawAi_yes n o s m d K D Ak Bk ck cb f A l cap cut w hT ht hf0 hf1 hr hle hb hx
    · exact lawAi_no n o s m d K D Ak Bk ck cb f A l cap cut w hT ht hf0 hf1 hr hle hb hx
  · exact lawAi_k k n o s m d K D Ak Bk ck cb f A l cap cut w hT ht hf0 hf1 hr hle hb h2

end Go.Proofs.YtbdgkikipekmlaaDoor
