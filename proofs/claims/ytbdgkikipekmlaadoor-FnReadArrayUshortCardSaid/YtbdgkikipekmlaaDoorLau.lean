/- The plain law of arrays of ushorts, and what their reader does with them. The law of AMQP's reader of arrays of ushorts, whole. No condition. -/
import Derived.Test.YtbdgkikipekmlaaDoorLawAr
import Derived.Test.YtbdgkikipekmlaaDoorArb
import Derived.Test.YtbdgkikipekmlaaDoorAra
import Derived.Test.YtbdgkikipekmlaaDoorWrU
import Derived.Test.YtbdgkikipekmlaaDoorLws
namespace Go.Proofs.YtbdgkikipekmlaaDoor
set_option linter.unusedVariables false
set_option linter.unusedSimpArgs false
open Go.RowKit

def Va.num : Va → Int
  | .mk _ n _ _ _ _ _ _ => n
def Va.txt : Va → ByteArray
  | .mk _ _ s _ _ _ _ _ => s
def numAt {m : Nat} (K : Fin m → Va) (i : Nat) : Int := if h : i < m then (K ⟨i, h⟩).num else 0
def txtAt {m : Nat} (K : Fin m → Va) (i : Nat) : ByteArray := if h : i < m then (K ⟨i, h⟩).txt else ⟨#[]⟩
theorem va_bounds {w : World} {k n o : Int} {s : ByteArray} {m d : Nat} {K : Fin m → Va} {D : Fin d → Va} {cs : List Value} (h : VaP w (.mk k n s m K o d D) cs) : m ≤ 9223372036854775807 ∧ ∀ i : Fin m, (K i).descs ≤ 9223372036854775807 := by
  obtain ⟨A, cap, B, capB, _, _, _, _, _, h5, h6, _, _, hk, _⟩ := h
  have hml : maxLen ≤ 9223372036854775807 := by decide
  refine ⟨by omega, fun i => ?_⟩
  obtain ⟨_, _, cs', _, _, _, h9⟩ := hk i
  revert h9
  cases K i
  rintro ⟨_, _, _, _, _, _, _, _, _, _, _, g1, g2, _⟩
  show _ ≤ 9223372036854775807
  simp only [Va.descs]
  omega
theorem ds_nil {t : Va} {b : List Int} (h0 : t.descs = 0) (h : (Wr t).ds b) : b = [] := by
  obtain ⟨k, n, s, m, K, o, d, D⟩ := t
  unfold Wr at h
  have hd : d = 0 := h0
  rcases h with ⟨_, rfl⟩ | ⟨h, _⟩
  · rfl
  · omega
theorem ds_zero {t : Va} {b : List Int} (h0 : t.descs ≠ 0) (h : (Wr t).ds b) : ∃ x, b = 0 :: x := by
  obtain ⟨k, n, s, m, K, o, d, D⟩ := t
  unfold Wr at h
  have hd : d ≠ 0 := h0
  rcases h with ⟨h, _⟩ | ⟨_, x, _, rfl⟩
  · exact absurd h hd
  · exact ⟨x, rfl⟩
theorem cat_same_len (S : Nat) (es : Nat → List Int) : ∀ m, (∀ i, i < m → (es i).length = S) → (cat es m).length = S * m
  | 0, _ => rfl
  | m + 1, h => by
    show (cat es m ++ es m).length = _
    rw [List.length_append, cat_same_len S es m (fun i hi => h i (by omega)), h m (by omega), Nat.mul_succ]
theorem cat_cut (es : Nat → List Int) (m : Nat) : ∀ j i, i + j = m → ∃ T, cat es m = cat es i ++ T
  | 0, i, h => ⟨[], by rw [List.append_nil]; congr 1; omega⟩
  | j + 1, i, h => by
    obtain ⟨T, hT⟩ := cat_cut es m j (i + 1) (by omega)
    exact ⟨es i ++ T, by rw [hT]; show (cat es i ++ es i) ++ T = _; rw [List.append_assoc]⟩
theorem cat_at (S : Nat) (es : Nat → List Int) (m : Nat) (L : List Int) (h : ∀ i, i < m → (es i).length = S) (i : Nat) (hi : i < m) : ((cat es m ++ L).drop (S * i)).take S = es i := by
  obtain ⟨T, hT⟩ := cat_cut es m (m - (i + 1)) (i + 1) (by omega)
  have h1 := cat_same_len S es i (fun j hj => h j (by omega))
  have h2 := h i hi
  rw [hT]
  show ((((cat es i ++ es i) ++ T) ++ L).drop (S * i)).take S = es i
  rw [List.append_assoc, List.append_assoc, ← h1, List.drop_left, List.take_append_of_le_length (by omega), List.take_of_length_le (by omega)]
/-- The kids of an array of numbers. -/
theorem kid_num {kd o n : Int} {s : ByteArray} {m d : Nat} {K : Fin m → Va} {D : Fin d → Va} (hk : kd < 17) (hk4 : kd ≠ 14) (hf : FitV (.mk 23 n s m K o d D) 6) (hr : Right 23 o K kd) (i : Nat) (h : i < m) :
    ∃ (o0 : Int) (K0 : Fin 0 → Va) (D0 : Fin 0 → Va), K ⟨i, h⟩ = .mk kd (numAt K i) ⟨#[]⟩ 0 K0 o0 0 D0 ∧ FitV (K ⟨i, h⟩) 5 := by
  have hfk : FitV (K ⟨i, h⟩) (6 - 1) := hf.2.2.2.2.2.2.2.2.2.2.2.2.2 ⟨i, h⟩
  have hg := hr.2.2 ⟨i, h⟩
  have hn : numAt K i = (K ⟨i, h⟩).num := by unfold numAt; rw [dif_pos h]
  rw [hn]
  revert hfk hg
  cases K ⟨i, h⟩ with
  | mk k' n' s' m' K' o' d' D' =>
    intro hfk hg
    obtain ⟨hg1, hg2⟩ := hg
    replace hg1 : k' = kd := hg1
    replace hg2 : d' = 0 := hg2
    subst hg1
    subst hg2
    have hp := fit_plain hfk
    obtain rfl : m' = 0 := hp.1 (by omega) (by omega) (by omega)
    obtain rfl := bytes_nil (hp.2.1 hk4 (.inl hk))
    exact ⟨o', K', D', rfl, hfk⟩
theorem ar_other (kd0 x0 : Int) (hx0 : ∀ q : Fin 24, (q.val : Int) ≠ kd0 → shOf q.val % 256 ≠ x0 ∧ cdOf q.val % 256 ≠ x0) (hx1 : x0 ≠ 0) {n o : Int} {s : ByteArray} {m d : Nat} {K : Fin m → Va} {D : Fin d → Va} {dd : List Int} (hd0 : d = 0) (hf : FitV (.mk 23 n s m K o d D) 6) (hcn : cntV (.mk 23 n s m K o d D) ≤ 500) (h : (Wr (.mk 23 n s m K o d D)).pv dd) (hm : 0 < m) (hx : ¬ Right 23 o K kd0) :
    ∃ (x : Int) (E : List Int) (j : Nat), ArrD dd (x :: E) m j ∧ x ≠ x0 := by
  have haf : ArrF o K := (fit_parts hf).2.2.2.2.2.2.2.2.2.2.2.2.2.2 rfl
  obtain ⟨kd, code, es, pre, j, hA, g0, g1, _, h1, h2, h3, h4⟩ := arr_form hd0 hf hcn h
  obtain ⟨e1, e2⟩ := h1 hm
  by_cases hds : (K ⟨0, hm⟩).descs = 0
  · obtain rfl := ds_nil hds e2
    have hkd : kd ≠ kd0 := fun he => hx ⟨rfl, fun h0 => absurd h0 (by omega), fun i => by
      have h9 := haf.2 i ⟨0, hm⟩
      rw [h9.1, h9.2, hds, ← e1]
      exact ⟨he, rfl⟩⟩
    obtain ⟨q, rfl⟩ : ∃ q : Nat, kd = q := ⟨kd.toNat, by omega⟩
    have h9 := hx0 ⟨q, by omega⟩ hkd
    refine ⟨code % 256, cat es m, j, hA, ?_⟩
    rcases h2 with rfl | rfl
    · exact h9.1
    · exact h9.2
  · obtain ⟨x, rfl⟩ := ds_zero hds e2
    exact ⟨0, x ++ code % 256 :: cat es m, j, hA, fun h => hx1 h.symm⟩
theorem code_96 : ∀ q : Fin 24, (q.val : Int) ≠ 3 → shOf q.val % 256 ≠ 96 ∧ cdOf q.val % 256 ≠ 96 := by decide
theorem au_form {n o : Int} {s : ByteArray} {m d : Nat} {K : Fin m → Va} {D : Fin d → Va} {dd : List Int} (hd0 : d = 0) (hf : FitV (.mk 23 n s m K o d D) 6) (hcn : cntV (.mk 23 n s m K o d D) ≤ 500) (h : (Wr (.mk 23 n s m K o d D)).pv dd) (hr : Right 23 o K 3) :
    ∃ (es : Nat → List Int) (j : Nat), ArrD dd (96 :: cat es m) m j ∧ ∀ i, i < m → es i = bg (numAt K i) 2 ∧ 0 ≤ numAt K i ∧ numAt K i < 65536 := by
  obtain ⟨kd, code, es, pre, j, hA, g0, g1, h0, h1, h2, h3, h4⟩ := arr_form hd0 hf hcn h
  have hkp : kd = 3 ∧ pre = [] := by
    rcases Nat.eq_zero_or_pos m with hz | hz
    · exact ⟨by rw [(h0 hz).1]; exact hr.2.1 hz, (h0 hz).2⟩
    · exact ⟨by rw [(h1 hz).1]; exact (hr.2.2 ⟨0, hz⟩).1, ds_nil (hr.2.2 ⟨0, hz⟩).2 (h1 hz).2⟩
  obtain ⟨rfl, rfl⟩ := hkp
  have hc : code = 96 := by
    rcases h2 with h2 | h2
    · exact absurd h2 (by rw [show shOf 3 = 0 by decide]; exact h3)
    · rw [h2]; decide
  subst hc
  refine ⟨es, j, hA, fun i hi => ?_⟩
  obtain ⟨o0, K0, D0, hk, hfk⟩ := kid_num (by omega) (by omega) hf hr i hi
  have h9 := h4 ⟨i, hi⟩
  rw [hk] at h9 hfk
  obtain ⟨_, _, _, _, hn0, hn1, hcf⟩ := fit_parts hfk
  refine ⟨?_, hn0, hcf.2.2.1 rfl⟩
  rcases wr_num (by omega) (by omega) (by omega) h9 with ⟨_, h⟩ | ⟨h, _⟩ | ⟨h, _⟩ | ⟨h, _⟩ | ⟨h, _⟩
  · rw [show (fsz 3).toNat = 2 by decide] at h
    exact h
  all_goals omega
/-! ### The reader's answers -/
theorem getE {dd bh E : List Int} {m j : Nat} {x : Int} (hA : ArrD dd (x :: E) m j) : ∃ h : j < (dd ++ bh).length, (dd ++ bh)[j] = x ∧ (dd ++ bh).drop (j + 1) = E ++ bh ∧ (dd ++ bh).length = j + 1 + E.length + bh.length := by
  obtain ⟨h1, h2⟩ := hA.len
  rw [List.length_cons] at h1
  have hj : j < (dd ++ bh).length := by rw [List.length_append]; omega
  have h3 : (dd ++ bh).drop j = x :: (E ++ bh) := by
    rw [List.drop_append_of_le_length (by omega), h2]
    rfl
  refine ⟨hj, ?_, ?_, by rw [List.length_append]; omega⟩
  · have h4 := List.drop_eq_getElem_cons hj
    rw [h3] at h4
    injection h4 with h5 _
    exact h5.symm
  · rw [← List.drop_drop, h3]
    rfl
theorem au_yes (A : Option Addr) (c : Nat) (dd l : List Int) (w : World) (hr : Rd u8 w A (dd ++ l)) (hby : Byt (dd ++ l)) (hl : (dd ++ l).length ≤ 1099511627776) {es : Nat → List Int} {m j : Nat} (us : Nat → Int) (hA : ArrD dd (96 :: cat es m) m j) (hes : ∀ i, i < m → es i = bg (us i) 2 ∧ 0 ≤ us i ∧ us i < 65536) :
    Calls Tryd.prog 22 #[.slice A (dd ++ l).length c] w (RsT (Value.int .u16) ((List.range m).map us) l w) := by
  have hel : ∀ i, i < m → (es i).length = 2 := fun i hi => by rw [(hes i hi).1, bg_len]
  have hcl := cat_same_len 2 es m hel
  obtain ⟨hj, h1, h2, h3⟩ := getE (bh := l) hA
  have hdl : dd.length = j + 1 + 2 * m := by
    have := hA.len.1
    rw [List.length_cons] at this
    omega
  have h := implArrU16_ok A c (dd ++ l) w hr hl dd.length ((List.range m).map us) (by have := hA.hm; simpa using this) fun p q A' c' W hR hq hpq hp hrq => by
    have hh := hA.head hR hby
    simp only [List.length_cons, show m ≤ (cat es m).length + 1 by omega, if_true] at hh
    rcases Nat.eq_zero_or_pos m with hz | hz
    · subst hz
      rw [hdl]
      exact arU16_zero hh hj h1 hq hpq hrq
    · rw [hdl]
      exact arU16_yes m us hA.hm hz hh hj h1 (by rw [h3]; omega) hby hq hpq hp hrq fun i hi => by
        rw [← List.drop_drop, h2, cat_at 2 es m l hel i hi, (hes i hi).1]
        exact beN_bgr2 _ (hes i hi).2.1 (hes i hi).2.2
  rwa [List.drop_left] at h
theorem au_no (A : Option Addr) (c : Nat) (L : List Int) (w : World) (hr : Rd u8 w A L) (hl : L.length ≤ 1099511627776) (h : L = [] ∨ ∃ c x, L = c :: x ∧ c ≠ 224 ∧ c ≠ 240) (hE : Eof w) :
    Calls Tryd.prog 22 #[.slice A L.length c] w (BhNo (.slice none 0 0) w) :=
  implArrU16_no A c L w hr hl fun p q A' c' W hp hW hR hq hpq hrq => arU16_head (arr_refused h hR (hE.keep0 hW)) hq hpq
theorem au_cut (A : Option Addr) (c : Nat) (dd E : List Int) (m j kk : Nat) (w : World) (hA : ArrD dd E m j) (hk : kk < dd.length ∨ dd = []) (hr : Rd u8 w A (dd.take kk)) (hby : Byt dd) (hl : (dd.take kk).length ≤ 1099511627776) (hE : Eof w) :
    Calls Tryd.prog 22 #[.slice A (dd.take kk).length c] w (BhNo (.slice none 0 0) w) :=
  implArrU16_no A c _ w hr hl fun p q A' c' W hp hW hR hq hpq hrq => arU16_head (hA.cut hby kk hk hR (hE.keep0 hW)) hq hpq
theorem au_code (A : Option Addr) (c : Nat) (dd E l : List Int) (x : Int) (m j : Nat) (w : World) (hA : ArrD dd (x :: E) m j) (hx : x ≠ 96) (hr : Rd u8 w A (dd ++ l)) (hby : Byt (dd ++ l)) (hl : (dd ++ l).length ≤ 1099511627776) :
    Calls Tryd.prog 22 #[.slice A (dd ++ l).length c] w (BhNo (.slice none 0 0) w) :=
  implArrU16_no A c _ w hr hl fun p q A' c' W hp hW hR hq hpq hrq => by
    have hh := hA.head hR hby
    obtain ⟨hj, h1, h2, h3⟩ := getE (bh := l) hA
    by_cases hm : m ≤ (x :: E).length
    · simp only [hm, if_true] at hh
      exact arU16_code hh hj (by rw [h1]; exact hx) hq hpq
    · simp only [hm, if_false] at hh
      exact arU16_head hh hq hpq
end Go.Proofs.YtbdgkikipekmlaaDoor

namespace Go.Proofs.YtbdgkikipekmlaaDoor
set_option linter.unusedVariables false
set_option linter.unusedSimpArgs false
open Go.RowKit

/-- The pairs that a law makes of numbers. -/
def prs (l : List Int) : List (Int × ByteArray) := l.map fun x => (x, ⟨#[]⟩)
theorem prs_at (l : List Int) (q : Nat) (h : q < (prs l).length) (h2 : q < l.length) : (prs l)[q] = (l[q], ⟨#[]⟩) := by simp [prs]
theorem va_kids {w : World} {k n o : Int} {s : ByteArray} {m d : Nat} {K : Fin m → Va} {D : Fin d → Va} {A B : Option Addr} {cap capB : Nat} (h : VaP w (.mk k n s m K o d D) [.int .i64 k, .int .u64 n, .string s, .slice A m cap, .int .i64 o, .slice B d capB]) :
    ∀ i : Fin m, ∃ b o cs', A = some ⟨b, o, none⟩ ∧ cs'.length = 6 ∧ (∀ j, j < 6 → w.cell? ⟨b, o + (i.val * 6 + j), none⟩ = cs'[j]?) ∧ VaP w (K i) cs' := by
  obtain ⟨A', cap', B', capB', h1, _, _, _, _, _, _, _, _, hk, _⟩ := h
  simp only [List.cons.injEq, Value.slice.injEq, and_true, true_and] at h1
  obtain ⟨⟨rfl, rfl⟩, _⟩ := h1
  exact hk
theorem awake_uw (w : World) : Calls Tryd.prog 21 #[.slice (some ⟨w.heap.size, 0, none⟩) 1 1] (w.alloc (.cells #[.int .u16 5] 45)) fun e w' => ∃ A c, e = .returned (.tuple #[.slice A 6 c, .bool true]) ∧ Rd u8 w' A [224, 4, 1, 96, 0, 5] ∧ 6 ≤ c ∧ Ch No (w.alloc (.cells #[.int .u16 5] 45)) w' :=
  (implWriteU16 (some ⟨w.heap.size, 0, none⟩) 1 _ ((Row.alloc w [.int .u16 5] 45).rd (l := [5]) rfl)).mono fun e w' ⟨A, c, h1, h2, h3, h4⟩ => ⟨A, c, h1, h2, h3, h4⟩
theorem awake_ur (A : Option Addr) (c : Nat) (w : World) (hr : Rd u8 w A [224, 4, 1, 96, 0, 5]) : Calls Tryd.prog 22 #[.slice A 6 c] w (RsT (Value.int .u16) [5] [] w) :=
  au_yes A c [224, 4, 1, 96, 0, 5] [] w hr (fun x hx => by simp at hx; omega) (by simp) (es := fun _ => [0, 5]) (m := 1) (j := 3) (fun _ => 5) ⟨.inl ⟨rfl, rfl, by simp, by simp [cat]⟩, by simp, by simp [cat]⟩ (fun i hi => ⟨by decide, by omega, by omega⟩)
set_option maxRecDepth 100000 in
set_option maxHeartbeats 4000000 in
theorem lawAu_yes (n o : Int) (s : ByteArray) (m d : Nat) (K : Fin m → Va) (D : Fin d → Va) (Ak Bk : Option Addr) (ck cb : Nat) (f : Int) (A : Option Addr) (l : List Int) (cap : Nat) (cut : Int) (w : World) (hT : Lds w) (ht : VaP w (.mk 23 n s m K o d D) [.int .i64 23, .int .u64 n, .string s, .slice Ak m ck, .int .i64 o, .slice Bk d cb]) (hf0 : 0 ≤ f) (hf1 : f < 18446744073709551616) (hr : Rd u8 w A l) (hle : l.length ≤ cap) (hb : Byt l) (hx : Right 23 o K 3) :
    Calls Tryd.prog 7 #[.agg #[.int .i64 23, .int .u64 n, .string s, .slice Ak m ck, .int .i64 o, .slice Bk d cb, .int .u64 f, .slice A l.length cap, .int .i64 cut]] w fun e w' => e = .returned (.bool true) ∧ Ch No w w' := by
  have HX := hid hx
  clear hx
  have hB := Row.alloc w [.int .i64 23, .int .u64 n, .string s, .slice Ak m ck, .int .i64 o, .slice Bk d cb, .int .u64 f, .slice A l.length cap, .int .i64 cut] 28
  have q0 := hB.cell 0 _ rfl
  have q1 := hB.cell 1 _ rfl
  have q2 := hB.cell 2 _ rfl
  have q3 := hB.cell 3 _ rfl
  have q4 := hB.cell 4 _ rfl
  have q5 := hB.cell 5 _ rfl
  have q6 := hB.cell 6 _ rfl
  have q7 := hB.cell 7 _ rfl
  have q8 := hB.cell 8 _ rfl
  have C1 : Ch No w (w.alloc (.cells #[.int .i64 23, .int .u64 n, .string s, .slice Ak m ck, .int .i64 o, .slice Bk d cb, .int .u64 f, .slice A l.length cap, .int .i64 cut] 28)) := (Ch.refl No w).alloc _
  by_cases hbig : 2147483647 < l.length
  · have hzz := fun W => zz_calls (.int .i64 23) (.int .u64 n) (.string s) (.slice Ak m ck) (.int .i64 o) (.slice Bk d cb) f A l.length cap cut W false (by show _ = true; exact decide_eq_true (by omega))
    go_enter Tryd.func7, Tryd.ntmps7
    go_wp2_with fail
    refine (hzz _).mono ?_
    rintro e w1 ⟨rfl, hch1⟩
    go_wp2_with fail
    go_ret
    exact ⟨rfl, C1.no_no hch1⟩
  have hzz := fun W => zz_calls (.int .i64 23) (.int .u64 n) (.string s) (.slice Ak m ck) (.int .i64 o) (.slice Bk d cb) f A l.length cap cut W true (by show _ = false; exact decide_eq_false (by omega))
  go_enter Tryd.func7, Tryd.ntmps7
  go_wp2_with fail
  refine (hzz _).mono ?_
  rintro e w1 ⟨rfl, hch1⟩
  have C2 := C1.no_no hch1
  have hB1 := hB.keep0 hch1
  have hT1 := hT.keep0 C2
  clear hzz
  have qa0 := hB1.cell 0 _ rfl
  have qa1 := hB1.cell 1 _ rfl
  have qa2 := hB1.cell 2 _ rfl
  have qa3 := hB1.cell 3 _ rfl
  have qa4 := hB1.cell 4 _ rfl
  have qa5 := hB1.cell 5 _ rfl
  have qa6 := hB1.cell 6 _ rfl
  have qa7 := hB1.cell 7 _ rfl
  have qa8 := hB1.cell 8 _ rfl
  go_wp2_with fail
  refine (awake_uw w1).mono ?_
  rintro e w1a ⟨Aa, ca, rfl, hra, _, hch1a⟩
  go_wp2_with fail
  refine (awake_ur Aa ca w1a hra).mono ?_
  rintro e w2 ⟨Ab, cb2, Ac, cc2, rfl, hrb, _, _, _, hch2⟩
  obtain ⟨b5, o5, rfl, hc5⟩ := hrb.at_ 0 (by simp)
  simp only [Nat.add_zero, List.getElem_cons_zero] at hc5
  have C3 := ((C2.alloc (.cells #[.int .u16 5] 45)).no_no hch1a).no_no hch2
  have hB2 := ((hB1.keep0 ((Ch.refl No w1).alloc (.cells #[.int .u16 5] 45))).keep0 hch1a).keep0 hch2
  have r0 := hB2.cell 0 _ rfl
  have r1 := hB2.cell 1 _ rfl
  have r2 := hB2.cell 2 _ rfl
  have r3 := hB2.cell 3 _ rfl
  have r4 := hB2.cell 4 _ rfl
  have r5 := hB2.cell 5 _ rfl
  have r6 := hB2.cell 6 _ rfl
  have r7 := hB2.cell 7 _ rfl
  have r8 := hB2.cell 8 _ rfl
  have hT2 := hT.keep0 C3
  go_wp2_with fail
  refine (data_calls 23 n o s m d K D (.int .i64 23) (.int .u64 n) (.string s) (.slice Ak m ck) (.int .i64 o) Bk cb f A l cap cut w w2 C3 hT2 ht hf0 hf1 (hr.keep0 C3)).mono ?_
  rintro e w3 ⟨hch3, hdt⟩
  have C4 := C3.no_no hch3
  have hB3 := hB2.keep0 hch3
  have hT3 := hT.keep0 C4
  have s0 := hB3.cell 0 _ rfl
  have s1 := hB3.cell 1 _ rfl
  have s2 := hB3.cell 2 _ rfl
  have s3 := hB3.cell 3 _ rfl
  have s4 := hB3.cell 4 _ rfl
  have s5 := hB3.cell 5 _ rfl
  have s6 := hB3.cell 6 _ rfl
  have s7 := hB3.cell 7 _ rfl
  have s8 := hB3.cell 8 _ rfl
  have hvb := va_bounds ht
  have HAO := hid (fun W (hW : Ch No w W) => arrayOf_yes w 23 n o 3 s m d K D Ak Bk ck cb W ht (hW.mono (fun _ h => h.elim)) hvb.1 hvb.2 HX.out)
  clear hvb
  rcases hdt with ⟨x, y, cc, rfl⟩ | ⟨hask, Ad, cd, dd, hd, hdl, ⟨kk, hk, rfl, hrd, hcd⟩ | ⟨rfl, hrd, hcd⟩⟩
  · go_wp2_with fail
    refine (HAO.out w3 C4).mono ?_
    rintro e w4 ⟨rfl, hch4⟩
    have C5 := C4.no_no hch4
    go_wp2_with fail
    go_ret
    exact ⟨rfl, C5⟩
  · obtain ⟨es, j, hA, hes⟩ := au_form hask.ds hask.fit hask.cn hd HX.out
    have HNO := hid (fun W (hW : Ch No w3 W) => au_cut Ad cd dd _ m j kk W hA hk (hrd.keep0 hW) ((wr_byt _ 6 hask.fit).2.2 dd hd) (by have := hask.bl; simp only [List.length_take, List.length_append]; omega) (hT3.keep0 hW).2)
    generalize (dd.take kk).length = M at HNO hcd ⊢
    clear hk hrd hA hes
    go_wp2_with fail
    refine (HAO.out w3 C4).mono ?_
    rintro e w4 ⟨rfl, hch4⟩
    have C5 := C4.no_no hch4
    have hB4 := hB3.keep0 hch4
    have u0 := hB4.cell 0 _ rfl
    have u1 := hB4.cell 1 _ rfl
    have u2 := hB4.cell 2 _ rfl
    have u3 := hB4.cell 3 _ rfl
    have u4 := hB4.cell 4 _ rfl
    have u5 := hB4.cell 5 _ rfl
    have u6 := hB4.cell 6 _ rfl
    have u7 := hB4.cell 7 _ rfl
    have u8 := hB4.cell 8 _ rfl
    go_wp2_with fail
    refine (HNO.out w4 hch4).mono ?_
    rintro e w6 ⟨rfl, hch6⟩
    go_wp2_with fail
    go_ret
    exact ⟨rfl, C5.no_no hch6⟩
  · obtain ⟨es, j, hA, hes⟩ := au_form hask.ds hask.fit hask.cn hd HX.out
    obtain ⟨L9, hL9⟩ : ∃ L9, (List.range m).map (numAt K) = L9 := ⟨_, rfl⟩
    have HL : Hid (L9.length = m ∧ ∀ (i : Nat) (h : i < L9.length), L9[i] = numAt K i) := hid (by subst hL9; simp)
    have HKN := hid (fun i (h : i < m) => kid_num (by omega) (by omega) hask.fit HX.out i h)
    have HBD := hid (fun i (h : i < m) => (hes i h).2)
    have hm1 : m ≤ 1000 := (fit_parts hask.fit).2.2.1
    have HOK := hid (fun W (hW : Ch No w3 W) => (show Calls _ _ _ W (RsT (Value.int .u16) L9 l W) from hL9 ▸ au_yes Ad cd dd l W (hrd.keep0 hW) (((wr_byt _ 6 hask.fit).2.2 dd hd).append hb) (by have := hask.bl; simp only [List.length_take, List.length_append]; omega) (numAt K) hA hes))
    have HLF := hid (fun (A5 : Option Addr) (c5 : Nat) W (h5 : Rd u8 W A5 l) (h : Ch No w W) => left_calls A5 A c5 cap l W h5 (hr.keep0 h))
    have HVK := hid (va_kids ht)
    generalize (dd ++ l).length = M at HOK hcd ⊢
    clear hrd hd hdl hask hes hA hL9
    go_wp2_with fail
    refine (HAO.out w3 C4).mono ?_
    rintro e w4 ⟨rfl, hch4⟩
    have C5 := C4.no_no hch4
    have hB4 := hB3.keep0 hch4
    have u0 := hB4.cell 0 _ rfl
    have u1 := hB4.cell 1 _ rfl
    have u2 := hB4.cell 2 _ rfl
    have u3 := hB4.cell 3 _ rfl
    have u4 := hB4.cell 4 _ rfl
    have u5 := hB4.cell 5 _ rfl
    have u6 := hB4.cell 6 _ rfl
    have u7 := hB4.cell 7 _ rfl
    have u8 := hB4.cell 8 _ rfl
    go_wp2_with fail
    refine (HOK.out w4 hch4).mono ?_
    rintro e w6 ⟨A9, c9, A6, c6, rfl, hr9, hc9, hr6, hc6, hch6⟩
    have hLl := HL.out.1
    rw [hLl] at hc9 ⊢
    have C6 := C5.no_no hch6
    go_wp2_with fail
    go_loopg [18, 97] m (fun kk s18 s97 wr => ∃ i : Nat, kk + i = m ∧ s97 = .int .i64 i ∧ OwK 25 6 wr s18 i (((prs L9).take i).flatMap (vfc 3)) ∧ (∀ b, Blk s18 b → w6.heap.size ≤ b) ∧ Ch No w6 wr)
    case atStart => exact ⟨0, by omega, rfl, OwK.nil _ _ _, fun b hb => absurd hb Blk_nil, Ch.refl _ _⟩
    case round =>
      rename World => wB
      obtain ⟨i, hki, rfl, HO, hfr, hch⟩ := hrel
      by_cases hi : i < m
      · have hiL : i < L9.length := by omega
        obtain ⟨b9, o9, rfl, hx⟩ := (hr9.keep0 hch).at_ i hiL
        have hxb := HBD.out i hi
        rw [← HL.out.2 i hiL] at hxb
        have HT : Hid ((prs L9).take (i + 1) = (prs L9).take i ++ [(L9[i], ⟨#[]⟩)]) := hid (by unfold prs; rw [List.take_succ_eq_append_getElem (by simpa using hiL)]; simp)
        generalize L9[i] = x at hx hxb HT
        have hi' : (i : Int) < m := by omega
        have hi0 : (0 : Int) ≤ i := by omega
        have hwx : IntKind.u64.wrap x = x := by simp [IntKind.wrap, IntKind.bits, IntKind.signed]; omega
        go_wp2_with ((with_reducible refine gate (.call { callee := .builtin .append, args := #[.tmp 101, .tmp 105], argTypes := #[23, 23] }) rfl ?_); refine wp_appendK rfl _ _ 23 25 _ 6 88 rfl Tryd.underlying23 info_va rfl (by decide) (by decide) (by decide) _ i (((prs L9).take i).flatMap (vfc 3)) (vfc 3 (x, ⟨#[]⟩)) _ _ rfl rfl rfl (by simp [Value.oneCell', vfc]) (HO.keep0 ((Ch.refl No wB).alloc _)) (Row.alloc wB (vfc 3 (x, ⟨#[]⟩)) 25) (by omega) ?_; intro v5 w5 ho5 hch5 hat5)
        go_roundg (m - (i + 1))
        case measure => omega
        case rel =>
          have hs := hch.size
          refine ⟨i + 1, by omega, by go_num, by rw [HT.out, List.flatMap_append]; simpa using ho5, fun b hb => ?_, (hch.alloc _).trans hch5 (fun _ h => h) (fun b hb => .inr (hfr b hb))⟩
          rcases hat5 b hb with h | h
          · exact hfr b h
          · simp only [World.size_alloc] at h
            omega
      · obtain rfl : i = m := by omega
        have hPl : (prs L9).length = i := by unfold prs; rw [List.length_map]; exact hLl
        obtain ⟨Av, cv, rfl⟩ := HO.slice
        have HR := hid ((show OwK 25 6 wB (.slice Av i cv) (prs L9).length ((prs L9).flatMap (vfc 3)) from by rw [hPl]; rwa [List.take_of_length_le (by omega)] at HO).rd)
        have C7 := C6.no_no hch
        have HSL := hid (sameList_true w 3 i K Av Ak cv ck (prs L9) wB hPl hm1 HVK.out (C7.mono (fun _ h => h.elim)) HR.out (fun q h h' => by
          obtain ⟨o0, K0, D0, hk0, _⟩ := HKN.out q h
          refine ⟨o0, K0, D0, ?_⟩
          have h2 : (prs L9)[q] = (numAt K q, ⟨#[]⟩) := by
            rw [prs_at L9 q h' (by omega), HL.out.2]
          rw [h2]
          exact hk0))
        have hr6' := hr6.keep0 hch
        clear HO
        go_wp2_with fail
        refine HSL.out.mono ?_
        rintro e w8 ⟨rfl, hch8⟩
        go_wp2_with fail
        refine (HLF.out A6 c6 w8 (hr6'.keep0 hch8) (C7.no_no hch8)).mono ?_
        rintro e w9 ⟨rfl, hch9⟩
        go_wp2_with fail
        go_ret
        exact ⟨rfl, (C7.no_no hch8).no_no hch9⟩
set_option maxRecDepth 100000 in
set_option maxHeartbeats 4000000 in
theorem lawAu_k (k n o : Int) (s : ByteArray) (m d : Nat) (K : Fin m → Va) (D : Fin d → Va) (Ak Bk : Option Addr) (ck cb : Nat) (f : Int) (A : Option Addr) (l : List Int) (cap : Nat) (cut : Int) (w : World) (hT : Lds w) (ht : VaP w (.mk k n s m K o d D) [.int .i64 k, .int .u64 n, .string s, .slice Ak m ck, .int .i64 o, .slice Bk d cb]) (hf0 : 0 ≤ f) (hf1 : f < 18446744073709551616) (hr : Rd u8 w A l) (hle : l.length ≤ cap) (hb : Byt l) (hk : k ≠ 23) :
    Calls Tryd.prog 7 #[.agg #[.int .i64 k, .int .u64 n, .string s, .slice Ak m ck, .int .i64 o, .slice Bk d cb, .int .u64 f, .slice A l.length cap, .int .i64 cut]] w fun e w' => e = .returned (.bool true) ∧ Ch No w w' := by
  have HX := hid hk
  clear hk
  have hB := Row.alloc w [.int .i64 k, .int .u64 n, .string s, .slice Ak m ck, .int .i64 o, .slice Bk d cb, .int .u64 f, .slice A l.length cap, .int .i64 cut] 28
  have q0 := hB.cell 0 _ rfl
  have q1 := hB.cell 1 _ rfl
  have q2 := hB.cell 2 _ rfl
  have q3 := hB.cell 3 _ rfl
  have q4 := hB.cell 4 _ rfl
  have q5 := hB.cell 5 _ rfl
  have q6 := hB.cell 6 _ rfl
  have q7 := hB.cell 7 _ rfl
  have q8 := hB.cell 8 _ rfl
  have C1 : Ch No w (w.alloc (.cells #[.int .i64 k, .int .u64 n, .string s, .slice Ak m ck, .int .i64 o, .slice Bk d cb, .int .u64 f, .slice A l.length cap, .int .i64 cut] 28)) := (Ch.refl No w).alloc _
  by_cases hbig : 2147483647 < l.length
  · have hzz := fun W => zz_calls (.int .i64 k) (.int .u64 n) (.string s) (.slice Ak m ck) (.int .i64 o) (.slice Bk d cb) f A l.length cap cut W false (by show _ = true; exact decide_eq_true (by omega))
    go_enter Tryd.func7, Tryd.ntmps7
    go_wp2_with fail
    refine (hzz _).mono ?_
    rintro e w1 ⟨rfl, hch1⟩
    go_wp2_with fail
    go_ret
    exact ⟨rfl, C1.no_no hch1⟩
  have hzz := fun W => zz_calls (.int .i64 k) (.int .u64 n) (.string s) (.slice Ak m ck) (.int .i64 o) (.slice Bk d cb) f A l.length cap cut W true (by show _ = false; exact decide_eq_false (by omega))
  go_enter Tryd.func7, Tryd.ntmps7
  go_wp2_with fail
  refine (hzz _).mono ?_
  rintro e w1 ⟨rfl, hch1⟩
  have C2 := C1.no_no hch1
  have hB1 := hB.keep0 hch1
  have hT1 := hT.keep0 C2
  clear hzz
  have qa0 := hB1.cell 0 _ rfl
  have qa1 := hB1.cell 1 _ rfl
  have qa2 := hB1.cell 2 _ rfl
  have qa3 := hB1.cell 3 _ rfl
  have qa4 := hB1.cell 4 _ rfl
  have qa5 := hB1.cell 5 _ rfl
  have qa6 := hB1.cell 6 _ rfl
  have qa7 := hB1.cell 7 _ rfl
  have qa8 := hB1.cell 8 _ rfl
  go_wp2_with fail
  refine (awake_uw w1).mono ?_
  rintro e w1a ⟨Aa, ca, rfl, hra, _, hch1a⟩
  go_wp2_with fail
  refine (awake_ur Aa ca w1a hra).mono ?_
  rintro e w2 ⟨Ab, cb2, Ac, cc2, rfl, hrb, _, _, _, hch2⟩
  obtain ⟨b5, o5, rfl, hc5⟩ := hrb.at_ 0 (by simp)
  simp only [Nat.add_zero, List.getElem_cons_zero] at hc5
  have C3 := ((C2.alloc (.cells #[.int .u16 5] 45)).no_no hch1a).no_no hch2
  have hB2 := ((hB1.keep0 ((Ch.refl No w1).alloc (.cells #[.int .u16 5] 45))).keep0 hch1a).keep0 hch2
  have r0 := hB2.cell 0 _ rfl
  have r1 := hB2.cell 1 _ rfl
  have r2 := hB2.cell 2 _ rfl
  have r3 := hB2.cell 3 _ rfl
  have r4 := hB2.cell 4 _ rfl
  have r5 := hB2.cell 5 _ rfl
  have r6 := hB2.cell 6 _ rfl
  have r7 := hB2.cell 7 _ rfl
  have r8 := hB2.cell 8 _ rfl
  have hT2 := hT.keep0 C3
  go_wp2_with fail
  refine (data_calls k n o s m d K D (.int .i64 k) (.int .u64 n) (.string s) (.slice Ak m ck) (.int .i64 o) Bk cb f A l cap cut w w2 C3 hT2 ht hf0 hf1 (hr.keep0 C3)).mono ?_
  rintro e w3 ⟨hch3, hdt⟩
  have C4 := C3.no_no hch3
  have hB3 := hB2.keep0 hch3
  have hT3 := hT.keep0 C4
  have s0 := hB3.cell 0 _ rfl
  have s1 := hB3.cell 1 _ rfl
  have s2 := hB3.cell 2 _ rfl
  have s3 := hB3.cell 3 _ rfl
  have s4 := hB3.cell 4 _ rfl
  have s5 := hB3.cell 5 _ rfl
  have s6 := hB3.cell 6 _ rfl
  have s7 := hB3.cell 7 _ rfl
  have s8 := hB3.cell 8 _ rfl
  have hvb := va_bounds ht
  have HAO := hid (fun W (hW : Ch No w W) => arrayOf_no w k n o 3 s m d K D Ak Bk ck cb W ht (hW.mono (fun _ h => h.elim)) hvb.1 hvb.2 (fun h => HX.out h.1))
  have HIA := hid (fun W => isArray_calls k n o s Ak Bk m d ck cb W false (decide_eq_false HX.out))
  clear hvb
  rcases hdt with ⟨x, y, cc, rfl⟩ | ⟨hask, Ad, cd, dd, hd, hdl, ⟨kk, hk, rfl, hrd, hcd⟩ | ⟨rfl, hrd, hcd⟩⟩
  · go_wp2_with fail
    refine (HAO.out w3 C4).mono ?_
    rintro e w4 ⟨rfl, hch4⟩
    have C5 := C4.no_no hch4
    go_wp2_with fail
    go_ret
    exact ⟨rfl, C5⟩
  · have HNO := hid (fun W (hW : Ch No w3 W) => au_no Ad cd (dd.take kk) W (hrd.keep0 hW) (by have := hask.bl; simp only [List.length_take, List.length_append]; omega) (by obtain ⟨c, x, rfl, h⟩ := arr_other HX.out hask.ds hask.fit hd; cases kk with | zero => exact .inl rfl | succ q => exact .inr ⟨c, x.take q, rfl, h⟩) (hT3.keep0 hW).2)
    generalize (dd.take kk).length = M at HNO hcd ⊢
    clear hrd
    go_wp2_with fail
    refine (HAO.out w3 C4).mono ?_
    rintro e w4 ⟨rfl, hch4⟩
    have C5 := C4.no_no hch4
    have hB4 := hB3.keep0 hch4
    have u0 := hB4.cell 0 _ rfl
    have u1 := hB4.cell 1 _ rfl
    have u2 := hB4.cell 2 _ rfl
    have u3 := hB4.cell 3 _ rfl
    have u4 := hB4.cell 4 _ rfl
    have u5 := hB4.cell 5 _ rfl
    have u6 := hB4.cell 6 _ rfl
    have u7 := hB4.cell 7 _ rfl
    have u8 := hB4.cell 8 _ rfl
    go_wp2_with fail
    refine (HIA.out w4).mono ?_
    rintro e w5 ⟨rfl, hch5⟩
    have C6 := C5.no_no hch5
    have hB5 := hB4.keep0 hch5
    have y0 := hB5.cell 0 _ rfl
    have y1 := hB5.cell 1 _ rfl
    have y2 := hB5.cell 2 _ rfl
    have y3 := hB5.cell 3 _ rfl
    have y4 := hB5.cell 4 _ rfl
    have y5 := hB5.cell 5 _ rfl
    have y6 := hB5.cell 6 _ rfl
    have y7 := hB5.cell 7 _ rfl
    have y8 := hB5.cell 8 _ rfl
    go_wp2_with fail
    refine (HNO.out w5 (hch4.no_no hch5)).mono ?_
    rintro e w6 ⟨rfl, hch6⟩
    go_wp2_with fail
    go_ret
    exact ⟨rfl, C6.no_no hch6⟩
  · have HNO := hid (fun W (hW : Ch No w3 W) => au_no Ad cd (dd ++ l) W (hrd.keep0 hW) (by have := hask.bl; simp only [List.length_take, List.length_append]; omega) (by obtain ⟨c, x, rfl, h⟩ := arr_other HX.out hask.ds hask.fit hd; exact .inr ⟨c, x ++ l, rfl, h⟩) (hT3.keep0 hW).2)
    generalize (dd ++ l).length = M at HNO hcd ⊢
    clear hrd
    go_wp2_with fail
    refine (HAO.out w3 C4).mono ?_
    rintro e w4 ⟨rfl, hch4⟩
    have C5 := C4.no_no hch4
    have hB4 := hB3.keep0 hch4
    have u0 := hB4.cell 0 _ rfl
    have u1 := hB4.cell 1 _ rfl
    have u2 := hB4.cell 2 _ rfl
    have u3 := hB4.cell 3 _ rfl
    have u4 := hB4.cell 4 _ rfl
    have u5 := hB4.cell 5 _ rfl
    have u6 := hB4.cell 6 _ rfl
    have u7 := hB4.cell 7 _ rfl
    have u8 := hB4.cell 8 _ rfl
    go_wp2_with fail
    refine (HIA.out w4).mono ?_
    rintro e w5 ⟨rfl, hch5⟩
    have C6 := C5.no_no hch5
    have hB5 := hB4.keep0 hch5
    have y0 := hB5.cell 0 _ rfl
    have y1 := hB5.cell 1 _ rfl
    have y2 := hB5.cell 2 _ rfl
    have y3 := hB5.cell 3 _ rfl
    have y4 := hB5.cell 4 _ rfl
    have y5 := hB5.cell 5 _ rfl
    have y6 := hB5.cell 6 _ rfl
    have y7 := hB5.cell 7 _ rfl
    have y8 := hB5.cell 8 _ rfl
    go_wp2_with fail
    refine (HNO.out w5 (hch4.no_no hch5)).mono ?_
    rintro e w6 ⟨rfl, hch6⟩
    go_wp2_with fail
    go_ret
    exact ⟨rfl, C6.no_no hch6⟩
set_option maxRecDepth 100000 in
set_option maxHeartbeats 4000000 in
theorem lawAu_no (n o : Int) (s : ByteArray) (m d : Nat) (K : Fin m → Va) (D : Fin d → Va) (Ak Bk : Option Addr) (ck cb : Nat) (f : Int) (A : Option Addr) (l : List Int) (cap : Nat) (cut : Int) (w : World) (hT : Lds w) (ht : VaP w (.mk 23 n s m K o d D) [.int .i64 23, .int .u64 n, .string s, .slice Ak m ck, .int .i64 o, .slice Bk d cb]) (hf0 : 0 ≤ f) (hf1 : f < 18446744073709551616) (hr : Rd u8 w A l) (hle : l.length ≤ cap) (hb : Byt l) (hx : ¬ Right 23 o K 3) :
    Calls Tryd.prog 7 #[.agg #[.int .i64 23, .int .u64 n, .string s, .slice Ak m ck, .int .i64 o, .slice Bk d cb, .int .u64 f, .slice A l.length cap, .int .i64 cut]] w fun e w' => e = .returned (.bool true) ∧ Ch No w w' := by
  have HX := hid hx
  clear hx
  have hB := Row.alloc w [.int .i64 23, .int .u64 n, .string s, .slice Ak m ck, .int .i64 o, .slice Bk d cb, .int .u64 f, .slice A l.length cap, .int .i64 cut] 28
  have q0 := hB.cell 0 _ rfl
  have q1 := hB.cell 1 _ rfl
  have q2 := hB.cell 2 _ rfl
  have q3 := hB.cell 3 _ rfl
  have q4 := hB.cell 4 _ rfl
  have q5 := hB.cell 5 _ rfl
  have q6 := hB.cell 6 _ rfl
  have q7 := hB.cell 7 _ rfl
  have q8 := hB.cell 8 _ rfl
  have C1 : Ch No w (w.alloc (.cells #[.int .i64 23, .int .u64 n, .string s, .slice Ak m ck, .int .i64 o, .slice Bk d cb, .int .u64 f, .slice A l.length cap, .int .i64 cut] 28)) := (Ch.refl No w).alloc _
  by_cases hbig : 2147483647 < l.length
  · have hzz := fun W => zz_calls (.int .i64 23) (.int .u64 n) (.string s) (.slice Ak m ck) (.int .i64 o) (.slice Bk d cb) f A l.length cap cut W false (by show _ = true; exact decide_eq_true (by omega))
    go_enter Tryd.func7, Tryd.ntmps7
    go_wp2_with fail
    refine (hzz _).mono ?_
    rintro e w1 ⟨rfl, hch1⟩
    go_wp2_with fail
    go_ret
    exact ⟨rfl, C1.no_no hch1⟩
  have hzz := fun W => zz_calls (.int .i64 23) (.int .u64 n) (.string s) (.slice Ak m ck) (.int .i64 o) (.slice Bk d cb) f A l.length cap cut W true (by show _ = false; exact decide_eq_false (by omega))
  go_enter Tryd.func7, Tryd.ntmps7
  go_wp2_with fail
  refine (hzz _).mono ?_
  rintro e w1 ⟨rfl, hch1⟩
  have C2 := C1.no_no hch1
  have hB1 := hB.keep0 hch1
  have hT1 := hT.keep0 C2
  clear hzz
  have qa0 := hB1.cell 0 _ rfl
  have qa1 := hB1.cell 1 _ rfl
  have qa2 := hB1.cell 2 _ rfl
  have qa3 := hB1.cell 3 _ rfl
  have qa4 := hB1.cell 4 _ rfl
  have qa5 := hB1.cell 5 _ rfl
  have qa6 := hB1.cell 6 _ rfl
  have qa7 := hB1.cell 7 _ rfl
  have qa8 := hB1.cell 8 _ rfl
  go_wp2_with fail
  refine (awake_uw w1).mono ?_
  rintro e w1a ⟨Aa, ca, rfl, hra, _, hch1a⟩
  go_wp2_with fail
  refine (awake_ur Aa ca w1a hra).mono ?_
  rintro e w2 ⟨Ab, cb2, Ac, cc2, rfl, hrb, _, _, _, hch2⟩
  obtain ⟨b5, o5, rfl, hc5⟩ := hrb.at_ 0 (by simp)
  simp only [Nat.add_zero, List.getElem_cons_zero] at hc5
  have C3 := ((C2.alloc (.cells #[.int .u16 5] 45)).no_no hch1a).no_no hch2
  have hB2 := ((hB1.keep0 ((Ch.refl No w1).alloc (.cells #[.int .u16 5] 45))).keep0 hch1a).keep0 hch2
  have r0 := hB2.cell 0 _ rfl
  have r1 := hB2.cell 1 _ rfl
  have r2 := hB2.cell 2 _ rfl
  have r3 := hB2.cell 3 _ rfl
  have r4 := hB2.cell 4 _ rfl
  have r5 := hB2.cell 5 _ rfl
  have r6 := hB2.cell 6 _ rfl
  have r7 := hB2.cell 7 _ rfl
  have r8 := hB2.cell 8 _ rfl
  have hT2 := hT.keep0 C3
  go_wp2_with fail
  refine (data_calls 23 n o s m d K D (.int .i64 23) (.int .u64 n) (.string s) (.slice Ak m ck) (.int .i64 o) Bk cb f A l cap cut w w2 C3 hT2 ht hf0 hf1 (hr.keep0 C3)).mono ?_
  rintro e w3 ⟨hch3, hdt⟩
  have C4 := C3.no_no hch3
  have hB3 := hB2.keep0 hch3
  have hT3 := hT.keep0 C4
  have s0 := hB3.cell 0 _ rfl
  have s1 := hB3.cell 1 _ rfl
  have s2 := hB3.cell 2 _ rfl
  have s3 := hB3.cell 3 _ rfl
  have s4 := hB3.cell 4 _ rfl
  have s5 := hB3.cell 5 _ rfl
  have s6 := hB3.cell 6 _ rfl
  have s7 := hB3.cell 7 _ rfl
  have s8 := hB3.cell 8 _ rfl
  have hvb := va_bounds ht
  have HAO := hid (fun W (hW : Ch No w W) => arrayOf_no w 23 n o 3 s m d K D Ak Bk ck cb W ht (hW.mono (fun _ h => h.elim)) hvb.1 hvb.2 HX.out)
  have HIA := hid (fun W => isArray_calls 23 n o s Ak Bk m d ck cb W true rfl)
  clear hvb
  rcases hdt with ⟨x, y, cc, rfl⟩ | ⟨hask, Ad, cd, dd, hd, hdl, ⟨kk, hk, rfl, hrd, hcd⟩ | ⟨rfl, hrd, hcd⟩⟩
  · go_wp2_with fail
    refine (HAO.out w3 C4).mono ?_
    rintro e w4 ⟨rfl, hch4⟩
    have C5 := C4.no_no hch4
    go_wp2_with fail
    go_ret
    exact ⟨rfl, C5⟩
  · rcases Nat.eq_zero_or_pos m with hz | hz
    · subst hz
      generalize (dd.take kk).length = M at hcd ⊢
      clear hrd
      go_wp2_with fail
      refine (HAO.out w3 C4).mono ?_
      rintro e w4 ⟨rfl, hch4⟩
      have C5 := C4.no_no hch4
      have hB4 := hB3.keep0 hch4
      have u0 := hB4.cell 0 _ rfl
      have u1 := hB4.cell 1 _ rfl
      have u2 := hB4.cell 2 _ rfl
      have u3 := hB4.cell 3 _ rfl
      have u4 := hB4.cell 4 _ rfl
      have u5 := hB4.cell 5 _ rfl
      have u6 := hB4.cell 6 _ rfl
      have u7 := hB4.cell 7 _ rfl
      have u8 := hB4.cell 8 _ rfl
      go_wp2_with fail
      refine (HIA.out w4).mono ?_
      rintro e w5 ⟨rfl, hch5⟩
      have C6 := C5.no_no hch5
      have hB5 := hB4.keep0 hch5
      have y0 := hB5.cell 0 _ rfl
      have y1 := hB5.cell 1 _ rfl
      have y2 := hB5.cell 2 _ rfl
      have y3 := hB5.cell 3 _ rfl
      have y4 := hB5.cell 4 _ rfl
      have y5 := hB5.cell 5 _ rfl
      have y6 := hB5.cell 6 _ rfl
      have y7 := hB5.cell 7 _ rfl
      have y8 := hB5.cell 8 _ rfl
      go_wp2_with fail
      go_ret
      exact ⟨rfl, C6⟩
    · obtain ⟨x, E, j, hA, hx⟩ := ar_other 3 96 code_96 (by omega) hask.ds hask.fit hask.cn hd hz HX.out
      have HNO := hid (fun W (hW : Ch No w3 W) => au_cut Ad cd dd _ m j kk W hA hk (hrd.keep0 hW) ((wr_byt _ 6 hask.fit).2.2 dd hd) (by have := hask.bl; simp only [List.length_take, List.length_append]; omega) (hT3.keep0 hW).2)
      generalize (dd.take kk).length = M at HNO hcd ⊢
      clear hrd hA hx
      have hz1 : ((m : Int) == 0) = false := beq_eq_false_iff_ne.2 (by omega)
      have hz2 : decide ((m : Int) = 0) = false := decide_eq_false (by omega)
      go_wp2_with fail
      refine (HAO.out w3 C4).mono ?_
      rintro e w4 ⟨rfl, hch4⟩
      have C5 := C4.no_no hch4
      have hB4 := hB3.keep0 hch4
      have u0 := hB4.cell 0 _ rfl
      have u1 := hB4.cell 1 _ rfl
      have u2 := hB4.cell 2 _ rfl
      have u3 := hB4.cell 3 _ rfl
      have u4 := hB4.cell 4 _ rfl
      have u5 := hB4.cell 5 _ rfl
      have u6 := hB4.cell 6 _ rfl
      have u7 := hB4.cell 7 _ rfl
      have u8 := hB4.cell 8 _ rfl
      go_wp2_with fail
      refine (HIA.out w4).mono ?_
      rintro e w5 ⟨rfl, hch5⟩
      have C6 := C5.no_no hch5
      have hB5 := hB4.keep0 hch5
      have y0 := hB5.cell 0 _ rfl
      have y1 := hB5.cell 1 _ rfl
      have y2 := hB5.cell 2 _ rfl
      have y3 := hB5.cell 3 _ rfl
      have y4 := hB5.cell 4 _ rfl
      have y5 := hB5.cell 5 _ rfl
      have y6 := hB5.cell 6 _ rfl
      have y7 := hB5.cell 7 _ rfl
      have y8 := hB5.cell 8 _ rfl
      go_wp2_with fail
      refine (HNO.out w5 (hch4.no_no hch5)).mono ?_
      rintro e w6 ⟨rfl, hch6⟩
      go_wp2_with fail
      go_ret
      exact ⟨rfl, C6.no_no hch6⟩
  · rcases Nat.eq_zero_or_pos m with hz | hz
    · subst hz
      generalize (dd ++ l).length = M at hcd ⊢
      clear hrd
      go_wp2_with fail
      refine (HAO.out w3 C4).mono ?_
      rintro e w4 ⟨rfl, hch4⟩
      have C5 := C4.no_no hch4
      have hB4 := hB3.keep0 hch4
      have u0 := hB4.cell 0 _ rfl
      have u1 := hB4.cell 1 _ rfl
      have u2 := hB4.cell 2 _ rfl
      have u3 := hB4.cell 3 _ rfl
      have u4 := hB4.cell 4 _ rfl
      have u5 := hB4.cell 5 _ rfl
      have u6 := hB4.cell 6 _ rfl
      have u7 := hB4.cell 7 _ rfl
      have u8 := hB4.cell 8 _ rfl
      go_wp2_with fail
      refine (HIA.out w4).mono ?_
      rintro e w5 ⟨rfl, hch5⟩
      have C6 := C5.no_no hch5
      have hB5 := hB4.keep0 hch5
      have y0 := hB5.cell 0 _ rfl
      have y1 := hB5.cell 1 _ rfl
      have y2 := hB5.cell 2 _ rfl
      have y3 := hB5.cell 3 _ rfl
      have y4 := hB5.cell 4 _ rfl
      have y5 := hB5.cell 5 _ rfl
      have y6 := hB5.cell 6 _ rfl
      have y7 := hB5.cell 7 _ rfl
      have y8 := hB5.cell 8 _ rfl
      go_wp2_with fail
      go_ret
      exact ⟨rfl, C6⟩
    · obtain ⟨x, E, j, hA, hx⟩ := ar_other 3 96 code_96 (by omega) hask.ds hask.fit hask.cn hd hz HX.out
      have HNO := hid (fun W (hW : Ch No w3 W) => au_code Ad cd dd E l x m j W hA hx (hrd.keep0 hW) (((wr_byt _ 6 hask.fit).2.2 dd hd).append hb) (by have := hask.bl; simp only [List.length_take, List.length_append]; omega))
      generalize (dd ++ l).length = M at HNO hcd ⊢
      clear hrd hA hx
      have hz1 : ((m : Int) == 0) = false := beq_eq_false_iff_ne.2 (by omega)
      have hz2 : decide ((m : Int) = 0) = false := decide_eq_false (by omega)
      go_wp2_with fail
      refine (HAO.out w3 C4).mono ?_
      rintro e w4 ⟨rfl, hch4⟩
      have C5 := C4.no_no hch4
      have hB4 := hB3.keep0 hch4
      have u0 := hB4.cell 0 _ rfl
      have u1 := hB4.cell 1 _ rfl
      have u2 := hB4.cell 2 _ rfl
      have u3 := hB4.cell 3 _ rfl
      have u4 := hB4.cell 4 _ rfl
      have u5 := hB4.cell 5 _ rfl
      have u6 := hB4.cell 6 _ rfl
      have u7 := hB4.cell 7 _ rfl
      have u8 := hB4.cell 8 _ rfl
      go_wp2_with fail
      refine (HIA.out w4).mono ?_
      rintro e w5 ⟨rfl, hch5⟩
      have C6 := C5.no_no hch5
      have hB5 := hB4.keep0 hch5
      have y0 := hB5.cell 0 _ rfl
      have y1 := hB5.cell 1 _ rfl
      have y2 := hB5.cell 2 _ rfl
      have y3 := hB5.cell 3 _ rfl
      have y4 := hB5.cell 4 _ rfl
      have y5 := hB5.cell 5 _ rfl
      have y6 := hB5.cell 6 _ rfl
      have y7 := hB5.cell 7 _ rfl
      have y8 := hB5.cell 8 _ rfl
      go_wp2_with fail
      refine (HNO.out w5 (hch4.no_no hch5)).mono ?_
      rintro e w6 ⟨rfl, hch6⟩
      go_wp2_with fail
      go_ret
      exact ⟨rfl, C6.no_no hch6⟩
theorem FnReadArrayUshortLaw (t : Va) (v0 v1 v2 v3 v4 v5 : Value) (f : Int) (A : Option Addr) (l : List Int) (cap : Nat) (cut : Int) (w : World) (hT : Lds w) (ht : VaP w t [v0, v1, v2, v3, v4, v5]) (hf0 : 0 ≤ f) (hf1 : f < 18446744073709551616) (hr : Rd u8 w A l) (hle : l.length ≤ cap) (hb : Byt l) :
    Calls Tryd.prog 7 #[.agg #[v0, v1, v2, v3, v4, v5, .int .u64 f, .slice A l.length cap, .int .i64 cut]] w fun e w' => e = .returned (.bool true) ∧ Ch No w w' := by
  obtain ⟨k, n, s, m, K, o, d, D⟩ := t
  have ht' := ht
  obtain ⟨Ak, ck, Bk, cb, he, _⟩ := ht'
  simp only [List.cons.injEq, and_true] at he
  obtain ⟨rfl, rfl, rfl, rfl, rfl, rfl⟩ := he
  by_cases h2 : k = 23
  · subst h2
    by_cases hx : Right 23 o K 3
    · exact lawAu_yes n o s m d K D Ak Bk ck cb f A l cap cut w hT ht hf0 hf1 hr hle hb hx
    · exact lawAu_no n o s m d K D Ak Bk ck cb f A l cap cut w hT ht hf0 hf1 hr hle hb hx
  · exact lawAu_k k n o s m d K D Ak Bk ck cb f A l cap cut w hT ht hf0 hf1 hr hle hb h2

end Go.Proofs.YtbdgkikipekmlaaDoor
