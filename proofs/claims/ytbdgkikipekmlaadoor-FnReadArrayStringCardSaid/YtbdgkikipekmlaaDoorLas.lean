/- The plain law of arrays of texts, and what their reader does with them. The law of AMQP's reader of arrays of texts, whole. No condition. -/
import Derived.Test.YtbdgkikipekmlaaDoorLawAw
import Derived.Test.YtbdgkikipekmlaaDoorArs
import Derived.Test.YtbdgkikipekmlaaDoorArb
import Derived.Test.YtbdgkikipekmlaaDoorArZ
import Derived.Test.YtbdgkikipekmlaaDoorWrS
import Derived.Test.YtbdgkikipekmlaaDoorLws
namespace Go.Proofs.YtbdgkikipekmlaaDoor
set_option linter.unusedVariables false
set_option linter.unusedSimpArgs false
open Go.RowKit

theorem code_as : ∀ q : Fin 24, (q.val : Int) ≠ 19 → shOf q.val % 256 ∉ [(161 : Int), 177] ∧ cdOf q.val % 256 ∉ [(161 : Int), 177] := by decide
/-- The pairs that a law makes of an array of texts. -/
def prT {m : Nat} (K : Fin m → Va) (i : Nat) : Int × ByteArray := (0, txtAt K i)
theorem wr_txt {n o : Int} {s : ByteArray} {m d : Nat} {K : Fin m → Va} {D : Fin d → Va} {c : Int} {b : List Int} (h : (Wr (.mk 19 n s m K o d D)).pc c b) : LenD 161 177 (bys s) (-1) c b := by
  unfold Wr at h
  dsimp only at h
  rcases h with ⟨e, _⟩ | ⟨e, _⟩ | ⟨e, _⟩ | ⟨e, _⟩ | ⟨e, _⟩ | ⟨_, h⟩ | ⟨e, _⟩ | ⟨_, e, _⟩ | ⟨e, _⟩ | ⟨e, _⟩ | ⟨e, _⟩
  all_goals first
  | exact h
  | (exfalso; omega)
theorem as_kid {n o : Int} {s : ByteArray} {m d : Nat} {K : Fin m → Va} {D : Fin d → Va} (hf : FitV (.mk 23 n s m K o d D) 6) (hr : Right 23 o K 19) (i : Nat) (h : i < m) :
    ∃ (o0 : Int) (K0 : Fin 0 → Va) (D0 : Fin 0 → Va), K ⟨i, h⟩ = .mk 19 (prT K i).1 (prT K i).2 0 K0 o0 0 D0 := by
  have hfk : FitV (K ⟨i, h⟩) (6 - 1) := hf.2.2.2.2.2.2.2.2.2.2.2.2.2 ⟨i, h⟩
  have hg := hr.2.2 ⟨i, h⟩
  have hn : prT K i = (0, (K ⟨i, h⟩).txt) := by unfold prT txtAt; rw [dif_pos h]
  rw [hn]
  revert hfk hg
  cases K ⟨i, h⟩ with
  | mk k' n' s' m' K' o' d' D' =>
    intro hfk hg
    obtain ⟨hg1, hg2⟩ := hg
    replace hg1 : k' = 19 := hg1
    replace hg2 : d' = 0 := hg2
    subst hg1
    subst hg2
    have hp := fit_plain hfk
    obtain rfl : m' = 0 := hp.1 (by omega) (by omega) (by omega)
    obtain rfl : n' = 0 := hp.2.2 (.inr (.inl (by omega)))
    exact ⟨o', K', D', rfl⟩
theorem as_txt {n o : Int} {s : ByteArray} {m d : Nat} {K : Fin m → Va} {D : Fin d → Va} (hf : FitV (.mk 23 n s m K o d D) 6) (het : EtOk (.mk 23 n s m K o d D)) (hr : Right 23 o K 19) (i : Nat) (h : i < m) : (bys (txtAt K i)).length ≤ 131072 ∧ 1 ≤ (bys (txtAt K i)).length := by
  obtain ⟨o0, K0, D0, hk⟩ := as_kid hf hr i h
  have hfk : FitV (K ⟨i, h⟩) (6 - 1) := hf.2.2.2.2.2.2.2.2.2.2.2.2.2 ⟨i, h⟩
  have he := het i h rfl
  rw [hk] at hfk he
  have h1 := (fit_parts hfk).2.2.2.1
  have h2 := he (by show (18 : Int) ≤ 19; omega) (by show (19 : Int) ≤ 20; omega)
  have h3 : (prT K i).2 = txtAt K i := rfl
  rw [h3] at h1
  replace h2 : (txtAt K i).toList.isEmpty = false := h2
  have hl := bys_len (txtAt K i)
  refine ⟨by omega, ?_⟩
  rcases Nat.eq_zero_or_pos (bys (txtAt K i)).length with hz | hz
  · exfalso
    have h5 : txtAt K i = ⟨#[]⟩ := by
      have h6 : (txtAt K i).size = 0 := by omega
      generalize txtAt K i = t at h6
      obtain ⟨a⟩ := t
      have h7 : a.size = 0 := h6
      rw [Array.size_eq_zero_iff.1 h7]
    rw [h5, ByteArray.toList_eq] at h2
    simp at h2
  · exact hz
/-- The texts' pieces: each behind its length. -/
def PcsT (z : Nat) (ts : Nat → ByteArray) (es : Nat → List Int) (m : Nat) : Prop := ∀ i, i < m → es i = bg ((bys (ts i)).length : Int) z ++ bys (ts i) ∧ (bys (ts i)).length ≤ 131072 ∧ 1 ≤ (bys (ts i)).length ∧ (z = 1 → (bys (ts i)).length < 256)
theorem as_form {n o : Int} {s : ByteArray} {m d : Nat} {K : Fin m → Va} {D : Fin d → Va} {dd : List Int} (hd0 : d = 0) (hf : FitV (.mk 23 n s m K o d D) 6) (het : EtOk (.mk 23 n s m K o d D)) (hcn : cntV (.mk 23 n s m K o d D) ≤ 500) (h : (Wr (.mk 23 n s m K o d D)).pv dd) (hr : Right 23 o K 19) :
    ∃ (es : Nat → List Int) (j : Nat), (ArrD dd (161 :: cat es m) m j ∧ PcsT 1 (txtAt K) es m) ∨ (ArrD dd (177 :: cat es m) m j ∧ PcsT 4 (txtAt K) es m) := by
  obtain ⟨code, es, j, hA, h2, h3, h4⟩ := ar_right hd0 hf hcn h hr
  have hkk : ∀ i, i < m → LenD 161 177 (bys (txtAt K i)) (-1) code (es i) := fun i hi => by
    obtain ⟨o0, K0, D0, hk⟩ := as_kid hf hr i hi
    have h9 := h4 ⟨i, hi⟩
    rw [hk] at h9
    exact wr_txt h9
  have e1 : lenh (-1) 1 = [] := rfl
  have e4 : lenh (-1) 4 = [] := rfl
  have c1 : shOf 19 = 161 := by decide
  have c2 : cdOf 19 = 177 := by decide
  refine ⟨es, j, ?_⟩
  rw [c1, c2] at h2
  rcases h2 with rfl | rfl
  · refine .inl ⟨hA, fun i hi => ?_⟩
    have ht := as_txt hf het hr i hi
    rcases hkk i hi with ⟨_, _, h2, h5⟩ | ⟨h, _⟩
    · rw [e1] at h2 h5
      simp only [List.length_nil, Nat.add_zero, List.append_nil] at h2 h5
      exact ⟨h5, ht.1, ht.2, fun _ => by omega⟩
    · omega
  · refine .inr ⟨hA, fun i hi => ?_⟩
    have ht := as_txt hf het hr i hi
    rcases hkk i hi with ⟨h, _⟩ | ⟨_, h5⟩
    · omega
    · rw [e4] at h5
      simp only [List.length_nil, Nat.add_zero, List.append_nil] at h5
      exact ⟨h5, ht.1, ht.2, fun h => by omega⟩
theorem cat_two (es : Nat → List Int) : ∀ m, (∀ i, i < m → 2 ≤ (es i).length) → 2 * m ≤ (cat es m).length
  | 0, _ => Nat.zero_le _
  | m + 1, h => by
    show _ ≤ (cat es m ++ es m).length
    rw [List.length_append]
    have := cat_two es m (fun i hi => h i (by omega))
    have := h m (by omega)
    omega
theorem txt_at {dd l : List Int} {es : Nat → List Int} {m j z : Nat} {x : Int} {ts : Nat → ByteArray} (hA : ArrD dd (x :: cat es m) m j) (hp : PcsT z ts es m) (hz : z = 1 ∨ z = 4) (i : Nat) (hi : i < m) : TxtAt (dd ++ l) z (fun i => j + 1 + (cat es i).length) ts i := by
  obtain ⟨hj, _, h2, h3⟩ := getE (bh := l) hA
  obtain ⟨he, hb, h1, h256⟩ := hp i hi
  obtain ⟨T, hT⟩ := cat_cut es m (m - (i + 1)) (i + 1) (by omega)
  have hel : (es i).length = z + (bys (ts i)).length := by rw [he, List.length_append, bg_len]
  have hc1 : (cat es (i + 1)).length = (cat es i).length + (es i).length := by
    show (cat es i ++ es i).length = _
    rw [List.length_append]
  have hcm : (cat es m).length = (cat es (i + 1)).length + T.length := by rw [hT, List.length_append]
  have hd : (dd ++ l).drop (j + 1 + (cat es i).length) = bg ((bys (ts i)).length : Int) z ++ (bys (ts i) ++ (T ++ l)) := by
    rw [← List.drop_drop, h2, hT]
    show (((cat es i ++ es i) ++ T) ++ l).drop _ = _
    rw [List.append_assoc, List.append_assoc, List.drop_left, he, List.append_assoc]
  refine ⟨?_, ?_, ?_, ?_, hb⟩
  · show j + 1 + (cat es (i + 1)).length = j + 1 + (cat es i).length + z + _
    omega
  · show j + 1 + (cat es i).length + z + _ ≤ _
    omega
  · show beN (((dd ++ l).drop (j + 1 + (cat es i).length)).take z) = _
    rw [hd, List.take_append_of_le_length (by rw [bg_len]; exact Nat.le_refl _), List.take_of_length_le (by rw [bg_len]; exact Nat.le_refl _)]
    rcases hz with rfl | rfl
    · exact beN_bgr1 _ (by omega) (by have := h256 rfl; omega)
    · exact beN_bgr4 _ (by omega) (by omega)
  · show ((dd ++ l).drop (j + 1 + (cat es i).length + z)).take _ = _
    rw [← List.drop_drop, hd]
    have e1 : (bg ((bys (ts i)).length : Int) z ++ (bys (ts i) ++ (T ++ l))).drop z = bys (ts i) ++ (T ++ l) := by
      have h9 := List.drop_left (l₁ := bg ((bys (ts i)).length : Int) z) (l₂ := bys (ts i) ++ (T ++ l))
      rwa [bg_len] at h9
    rw [e1, List.take_left]
theorem as_yes1 (A : Option Addr) (c : Nat) (dd l : List Int) (w : World) (hr : Rd u8 w A (dd ++ l)) (hby : Byt (dd ++ l)) (hl : (dd ++ l).length ≤ 1099511627776) {es : Nat → List Int} {m j : Nat} (ts : Nat → ByteArray) (hA : ArrD dd (161 :: cat es m) m j) (hp : PcsT 1 ts es m) :
    Calls Tryd.prog 29 #[.slice A (dd ++ l).length c] w (RsT Value.string ((List.range m).map ts) l w) := by
  have hc2 := cat_two es m (fun i hi => by rw [(hp i hi).1, List.length_append, bg_len]; have := (hp i hi).2.2.1; omega)
  obtain ⟨hj, h1, h2, h3⟩ := getE (bh := l) hA
  have hdl : dd.length = j + 1 + (cat es m).length := by
    have := hA.len.1
    rw [List.length_cons] at this
    omega
  have h := implArrStr_ok A c (dd ++ l) w hr hl dd.length ((List.range m).map ts) (by have := hA.hm; simpa using this) fun p q A' c' W hR hq hpq hp' hrq => by
    have hh := hA.head hR hby
    simp only [List.length_cons, show m ≤ (cat es m).length + 1 by omega, if_true] at hh
    rcases Nat.eq_zero_or_pos m with hz | hz
    · subst hz
      rw [hdl]
      exact arS1_zero hh hj h1 hq hpq hrq
    · rw [hdl]
      exact arS1_yes m ts (fun i => j + 1 + (cat es i).length) hA.hm hz hh hj h1 (by rw [h3]; omega) hby rfl hq hpq hp' hrq (fun i hi => txt_at hA hp (by omega) i hi)
  rwa [List.drop_left] at h
theorem as_yes4 (A : Option Addr) (c : Nat) (dd l : List Int) (w : World) (hr : Rd u8 w A (dd ++ l)) (hby : Byt (dd ++ l)) (hl : (dd ++ l).length ≤ 1099511627776) {es : Nat → List Int} {m j : Nat} (ts : Nat → ByteArray) (hA : ArrD dd (177 :: cat es m) m j) (hp : PcsT 4 ts es m) :
    Calls Tryd.prog 29 #[.slice A (dd ++ l).length c] w (RsT Value.string ((List.range m).map ts) l w) := by
  have hc2 := cat_two es m (fun i hi => by rw [(hp i hi).1, List.length_append, bg_len]; have := (hp i hi).2.2.1; omega)
  obtain ⟨hj, h1, h2, h3⟩ := getE (bh := l) hA
  have hdl : dd.length = j + 1 + (cat es m).length := by
    have := hA.len.1
    rw [List.length_cons] at this
    omega
  have h := implArrStr_ok A c (dd ++ l) w hr hl dd.length ((List.range m).map ts) (by have := hA.hm; simpa using this) fun p q A' c' W hR hq hpq hp' hrq => by
    have hh := hA.head hR hby
    simp only [List.length_cons, show m ≤ (cat es m).length + 1 by omega, if_true] at hh
    rcases Nat.eq_zero_or_pos m with hz | hz
    · subst hz
      rw [hdl]
      exact arS4_zero hh hj h1 hq hpq hrq
    · rw [hdl]
      exact arS4_yes m ts (fun i => j + 1 + (cat es i).length) hA.hm hz hh hj h1 (by rw [h3]; omega) hby rfl hq hpq hp' hrq (fun i hi => txt_at hA hp (by omega) i hi)
  rwa [List.drop_left] at h

theorem as_take {n o : Int} {s : ByteArray} {m d : Nat} {K : Fin m → Va} {D : Fin d → Va} {dd : List Int} (hd0 : d = 0) (hf : FitV (.mk 23 n s m K o d D) 6) (het : EtOk (.mk 23 n s m K o d D)) (hcn : cntV (.mk 23 n s m K o d D) ≤ 500) (h : (Wr (.mk 23 n s m K o d D)).pv dd) (hr : Right 23 o K 19) (A : Option Addr) (c : Nat) (l : List Int) (w : World) (hrd : Rd u8 w A (dd ++ l)) (hby : Byt (dd ++ l)) (hl : (dd ++ l).length ≤ 1099511627776) :
    Calls Tryd.prog 29 #[.slice A (dd ++ l).length c] w (RsT Value.string ((List.range m).map (txtAt K)) l w) := by
  obtain ⟨es, j, ⟨hA, hes⟩ | ⟨hA, hes⟩⟩ := as_form hd0 hf het hcn h hr
  · exact as_yes1 A c dd l w hrd hby hl (txtAt K) hA hes
  · exact as_yes4 A c dd l w hrd hby hl (txtAt K) hA hes
theorem as_no (A : Option Addr) (c : Nat) (L : List Int) (w : World) (hr : Rd u8 w A L) (hl : L.length ≤ 1099511627776) (h : L = [] ∨ ∃ c x, L = c :: x ∧ c ≠ 224 ∧ c ≠ 240) (hE : Eof w) :
    Calls Tryd.prog 29 #[.slice A L.length c] w (BhNo (.slice none 0 0) w) :=
  implArrStr_no A c L w hr hl fun p q A' c' W hp hW hR hq hpq hrq => arS_head (arr_refused h hR (hE.keep0 hW)) hq hpq
theorem as_cut (A : Option Addr) (c : Nat) (dd E : List Int) (m j kk : Nat) (w : World) (hA : ArrD dd E m j) (hk : kk < dd.length ∨ dd = []) (hr : Rd u8 w A (dd.take kk)) (hby : Byt dd) (hl : (dd.take kk).length ≤ 1099511627776) (hE : Eof w) :
    Calls Tryd.prog 29 #[.slice A (dd.take kk).length c] w (BhNo (.slice none 0 0) w) :=
  implArrStr_no A c _ w hr hl fun p q A' c' W hp hW hR hq hpq hrq => arS_head (hA.cut hby kk hk hR (hE.keep0 hW)) hq hpq
theorem as_code (A : Option Addr) (c : Nat) (dd E l : List Int) (x : Int) (m j : Nat) (w : World) (hA : ArrD dd (x :: E) m j) (hx : x ∉ [(161 : Int), 177]) (hm0 : 0 < m) (hr : Rd u8 w A (dd ++ l)) (hby : Byt (dd ++ l)) (hl : (dd ++ l).length ≤ 1099511627776) :
    Calls Tryd.prog 29 #[.slice A (dd ++ l).length c] w (BhNo (.slice none 0 0) w) :=
  implArrStr_no A c _ w hr hl fun p q A' c' W hp hW hR hq hpq hrq => by
    have hh := hA.head hR hby
    obtain ⟨hj, h1, h2, h3⟩ := getE (bh := l) hA
    by_cases hm : m ≤ (x :: E).length
    · simp only [hm, if_true] at hh
      exact arS_code m hA.hm hm0 hh hj (by rw [h1]; intro h; exact hx (by simp [h])) (by rw [h1]; intro h; exact hx (by simp [h])) hq hpq
    · simp only [hm, if_false] at hh
      exact arS_head hh hq hpq
end Go.Proofs.YtbdgkikipekmlaaDoor

namespace Go.Proofs.YtbdgkikipekmlaaDoor
set_option linter.unusedVariables false
set_option linter.unusedSimpArgs false
open Go.RowKit

theorem awake_sw (w : World) (hT : Tabs w) : Calls Tryd.prog 28 #[.slice (some ⟨w.heap.size, 0, none⟩) 1 1] (w.alloc (.cells #[.string ⟨#[97]⟩] 9)) fun e w' => ∃ A c, e = .returned (.tuple #[.slice A 6 c, .bool true]) ∧ Rd u8 w' A [224, 4, 1, 161, 1, 97] ∧ 6 ≤ c ∧ Ch No (w.alloc (.cells #[.string ⟨#[97]⟩] 9)) w' :=
  (implWriteStr (some ⟨w.heap.size, 0, none⟩) 1 _ ((Row.alloc w [.string ⟨#[97]⟩] 9).rd (f := Value.string) (l := [(⟨#[97]⟩ : ByteArray)]) rfl) (hT.keep0 ((Ch.refl No w).alloc _))).mono fun e w' ⟨A, c, h1, h2, h3, h4⟩ => ⟨A, c, h1, h2, h3, h4⟩
theorem pcs_a : PcsT 1 (fun _ => ⟨#[97]⟩) (fun _ => [1, 97]) 1 := fun i hi => by
  show ([1, 97] : List Int) = bg ((bys ⟨#[97]⟩).length : Int) 1 ++ bys ⟨#[97]⟩ ∧ (bys ⟨#[97]⟩).length ≤ 131072 ∧ 1 ≤ (bys ⟨#[97]⟩).length ∧ ((1 : Nat) = 1 → (bys ⟨#[97]⟩).length < 256)
  decide
theorem awake_sr (A : Option Addr) (c : Nat) (w : World) (hr : Rd u8 w A [224, 4, 1, 161, 1, 97]) : Calls Tryd.prog 29 #[.slice A 6 c] w (RsT Value.string [(⟨#[97]⟩ : ByteArray)] [] w) :=
  as_yes1 A c [224, 4, 1, 161, 1, 97] [] w hr (fun x hx => by simp at hx; omega) (by simp) (es := fun _ => [1, 97]) (m := 1) (j := 3) (fun _ => ⟨#[97]⟩) ⟨.inl ⟨rfl, rfl, by simp, by simp [cat]⟩, by simp, by simp [cat]⟩ pcs_a
set_option maxRecDepth 100000 in
set_option maxHeartbeats 4000000 in
theorem lawAs_yes (n o : Int) (s : ByteArray) (m d : Nat) (K : Fin m → Va) (D : Fin d → Va) (Ak Bk : Option Addr) (ck cb : Nat) (f : Int) (A : Option Addr) (l : List Int) (cap : Nat) (cut : Int) (w : World) (hT : Lds w) (ht : VaP w (.mk 23 n s m K o d D) [.int .i64 23, .int .u64 n, .string s, .slice Ak m ck, .int .i64 o, .slice Bk d cb]) (hf0 : 0 ≤ f) (hf1 : f < 18446744073709551616) (hr : Rd u8 w A l) (hle : l.length ≤ cap) (hb : Byt l) (hx : Right 23 o K 19) :
    Calls Tryd.prog 9 #[.agg #[.int .i64 23, .int .u64 n, .string s, .slice Ak m ck, .int .i64 o, .slice Bk d cb, .int .u64 f, .slice A l.length cap, .int .i64 cut]] w fun e w' => e = .returned (.bool true) ∧ Ch No w w' := by
  have HX := hid hx
  clear hx
  have hB := Row.alloc w [.int .i64 23, .int .u64 n, .string s, .slice Ak m ck, .int .i64 o, .slice Bk d cb, .int .u64 f, .slice A l.length cap, .int .i64 cut] 28
  have q0 := hB.cell 0 _ rfl
  have q1 := hB.cell 1 _ rfl
  have q2 := hB.cell 2 _ rfl
  have q3 := hB.cell 3 _ rfl
  have q4 := hB.cell 4 _ rfl
  have q5 := hB.cell 5 _ rfl
  have q6 := hB.cell 6 _ rfl
  have q7 := hB.cell 7 _ rfl
  have q8 := hB.cell 8 _ rfl
  have C1 : Ch No w (w.alloc (.cells #[.int .i64 23, .int .u64 n, .string s, .slice Ak m ck, .int .i64 o, .slice Bk d cb, .int .u64 f, .slice A l.length cap, .int .i64 cut] 28)) := (Ch.refl No w).alloc _
  by_cases hbig : 2147483647 < l.length
  · have hzz := fun W => zz_calls (.int .i64 23) (.int .u64 n) (.string s) (.slice Ak m ck) (.int .i64 o) (.slice Bk d cb) f A l.length cap cut W false (by show _ = true; exact decide_eq_true (by omega))
    go_enter Tryd.func9, Tryd.ntmps9
    go_wp2_with fail
    refine (hzz _).mono ?_
    rintro e w1 ⟨rfl, hch1⟩
    go_wp2_with fail
    go_ret
    exact ⟨rfl, C1.no_no hch1⟩
  have hzz := fun W => zz_calls (.int .i64 23) (.int .u64 n) (.string s) (.slice Ak m ck) (.int .i64 o) (.slice Bk d cb) f A l.length cap cut W true (by show _ = false; exact decide_eq_false (by omega))
  go_enter Tryd.func9, Tryd.ntmps9
  go_wp2_with fail
  refine (hzz _).mono ?_
  rintro e w1 ⟨rfl, hch1⟩
  have C2 := C1.no_no hch1
  have hB1 := hB.keep0 hch1
  have hT1 := hT.keep0 C2
  clear hzz
  have qa0 := hB1.cell 0 _ rfl
  have qa1 := hB1.cell 1 _ rfl
  have qa2 := hB1.cell 2 _ rfl
  have qa3 := hB1.cell 3 _ rfl
  have qa4 := hB1.cell 4 _ rfl
  have qa5 := hB1.cell 5 _ rfl
  have qa6 := hB1.cell 6 _ rfl
  have qa7 := hB1.cell 7 _ rfl
  have qa8 := hB1.cell 8 _ rfl
  go_wp2_with fail
  refine (awake_sw w1 hT1.1).mono ?_
  rintro e w1a ⟨Aa, ca, rfl, hra, _, hch1a⟩
  go_wp2_with fail
  refine (awake_sr Aa ca w1a hra).mono ?_
  rintro e w2 ⟨Ab, cb2, Ac, cc2, rfl, hrb, _, _, _, hch2⟩
  obtain ⟨b5, o5, rfl, hc5⟩ := hrb.at_ 0 (by simp)
  simp only [Nat.add_zero, List.getElem_cons_zero] at hc5
  have C3 := ((C2.alloc (.cells #[.string ⟨#[97]⟩] 9)).no_no hch1a).no_no hch2
  have hB2 := ((hB1.keep0 ((Ch.refl No w1).alloc (.cells #[.string ⟨#[97]⟩] 9))).keep0 hch1a).keep0 hch2
  have r0 := hB2.cell 0 _ rfl
  have r1 := hB2.cell 1 _ rfl
  have r2 := hB2.cell 2 _ rfl
  have r3 := hB2.cell 3 _ rfl
  have r4 := hB2.cell 4 _ rfl
  have r5 := hB2.cell 5 _ rfl
  have r6 := hB2.cell 6 _ rfl
  have r7 := hB2.cell 7 _ rfl
  have r8 := hB2.cell 8 _ rfl
  have hT2 := hT.keep0 C3
  go_wp2_with fail
  refine (data_calls 23 n o s m d K D (.int .i64 23) (.int .u64 n) (.string s) (.slice Ak m ck) (.int .i64 o) Bk cb f A l cap cut w w2 C3 hT2 ht hf0 hf1 (hr.keep0 C3)).mono ?_
  rintro e w3 ⟨hch3, hdt⟩
  have C4 := C3.no_no hch3
  have hB3 := hB2.keep0 hch3
  have hT3 := hT.keep0 C4
  have s0 := hB3.cell 0 _ rfl
  have s1 := hB3.cell 1 _ rfl
  have s2 := hB3.cell 2 _ rfl
  have s3 := hB3.cell 3 _ rfl
  have s4 := hB3.cell 4 _ rfl
  have s5 := hB3.cell 5 _ rfl
  have s6 := hB3.cell 6 _ rfl
  have s7 := hB3.cell 7 _ rfl
  have s8 := hB3.cell 8 _ rfl
  have hvb := va_bounds ht
  have HAO := hid (fun W (hW : Ch No w W) => arrayOf_yes w 23 n o 19 s m d K D Ak Bk ck cb W ht (hW.mono (fun _ h => h.elim)) hvb.1 hvb.2 HX.out)
  clear hvb
  rcases hdt with ⟨x, y, cc, rfl⟩ | ⟨hask, Ad, cd, dd, hd, hdl, ⟨kk, hk, rfl, hrd, hcd⟩ | ⟨rfl, hrd, hcd⟩⟩
  · go_wp2_with fail
    refine (HAO.out w3 C4).mono ?_
    rintro e w4 ⟨rfl, hch4⟩
    have C5 := C4.no_no hch4
    go_wp2_with fail
    go_ret
    exact ⟨rfl, C5⟩
  · obtain ⟨E, j, hA⟩ := ar_any hask.ds hask.fit hask.cn hd
    have HNO := hid (fun W (hW : Ch No w3 W) => as_cut Ad cd dd _ m j kk W hA hk (hrd.keep0 hW) ((wr_byt _ 6 hask.fit).2.2 dd hd) (by have := hask.bl; simp only [List.length_take, List.length_append]; omega) (hT3.keep0 hW).2)
    generalize (dd.take kk).length = M at HNO hcd ⊢
    clear hk hrd hA
    go_wp2_with fail
    refine (HAO.out w3 C4).mono ?_
    rintro e w4 ⟨rfl, hch4⟩
    have C5 := C4.no_no hch4
    have hB4 := hB3.keep0 hch4
    have u0 := hB4.cell 0 _ rfl
    have u1 := hB4.cell 1 _ rfl
    have u2 := hB4.cell 2 _ rfl
    have u3 := hB4.cell 3 _ rfl
    have u4 := hB4.cell 4 _ rfl
    have u5 := hB4.cell 5 _ rfl
    have u6 := hB4.cell 6 _ rfl
    have u7 := hB4.cell 7 _ rfl
    have u8 := hB4.cell 8 _ rfl
    go_wp2_with fail
    refine (HNO.out w4 hch4).mono ?_
    rintro e w6 ⟨rfl, hch6⟩
    go_wp2_with fail
    go_ret
    exact ⟨rfl, C5.no_no hch6⟩
  · obtain ⟨L9, hL9⟩ : ∃ L9, (List.range m).map (txtAt K) = L9 := ⟨_, rfl⟩
    obtain ⟨P9, hP9⟩ : ∃ P9, (List.range m).map (prT K) = P9 := ⟨_, rfl⟩
    have HL : Hid (L9.length = m ∧ ∀ (i : Nat) (h : i < L9.length), L9[i] = txtAt K i) := hid (by subst hL9; simp)
    have HP : Hid (P9.length = m ∧ ∀ (i : Nat) (h : i < P9.length), P9[i] = prT K i) := hid (by subst hP9; simp)
    have HKN := hid (fun i (h : i < m) => as_kid hask.fit HX.out i h)
    have HBD := hid (fun i (h : i < m) => (rfl : txtAt K i = txtAt K i))
    have hm1 : m ≤ 1000 := (fit_parts hask.fit).2.2.1
    have HOK := hid (fun W (hW : Ch No w3 W) => (show Calls _ _ _ W (RsT (Value.string) L9 l W) from hL9 ▸ as_take hask.ds hask.fit hask.et hask.cn hd HX.out Ad cd l W (hrd.keep0 hW) (((wr_byt _ 6 hask.fit).2.2 dd hd).append hb) (by have := hask.bl; simp only [List.length_take, List.length_append]; omega)))
    have HLF := hid (fun (A5 : Option Addr) (c5 : Nat) W (h5 : Rd u8 W A5 l) (h : Ch No w W) => left_calls A5 A c5 cap l W h5 (hr.keep0 h))
    have HVK := hid (va_kids ht)
    generalize (dd ++ l).length = M at HOK hcd ⊢
    clear hrd hd hdl hask hL9 hP9
    go_wp2_with fail
    refine (HAO.out w3 C4).mono ?_
    rintro e w4 ⟨rfl, hch4⟩
    have C5 := C4.no_no hch4
    have hB4 := hB3.keep0 hch4
    have u0 := hB4.cell 0 _ rfl
    have u1 := hB4.cell 1 _ rfl
    have u2 := hB4.cell 2 _ rfl
    have u3 := hB4.cell 3 _ rfl
    have u4 := hB4.cell 4 _ rfl
    have u5 := hB4.cell 5 _ rfl
    have u6 := hB4.cell 6 _ rfl
    have u7 := hB4.cell 7 _ rfl
    have u8 := hB4.cell 8 _ rfl
    go_wp2_with fail
    refine (HOK.out w4 hch4).mono ?_
    rintro e w6 ⟨A9, c9, A6, c6, rfl, hr9, hc9, hr6, hc6, hch6⟩
    have hLl := HL.out.1
    rw [hLl] at hc9 ⊢
    have C6 := C5.no_no hch6
    go_wp2_with fail
    go_loopg [18, 106] m (fun kk s18 s106 wr => ∃ i : Nat, kk + i = m ∧ s106 = .int .i64 i ∧ OwK 25 6 wr s18 i ((P9.take i).flatMap (vfc 19)) ∧ (∀ b, Blk s18 b → w6.heap.size ≤ b) ∧ Ch No w6 wr)
    case atStart => exact ⟨0, by omega, rfl, OwK.nil _ _ _, fun b hb => absurd hb Blk_nil, Ch.refl _ _⟩
    case round =>
      rename World => wB
      obtain ⟨i, hki, rfl, HO, hfr, hch⟩ := hrel
      by_cases hi : i < m
      · have hiL : i < L9.length := by omega
        obtain ⟨b9, o9, rfl, hx⟩ := (hr9.keep0 hch).at_ i hiL
        have hxb := HBD.out i hi
        have hxe := HL.out.2 i hiL
        have hiP : i < P9.length := by rw [HP.out.1]; exact hi
        have HT : Hid (P9.take (i + 1) = P9.take i ++ [prT K i]) := hid (by rw [List.take_succ_eq_append_getElem hiP, HP.out.2])
        have hpe : Hid (prT K i = (0, txtAt K i)) := hid rfl
        generalize L9[i] = x at hx hxe
        generalize txtAt K i = y at hxe hxb hpe
        rw [← hxe] at hpe
        clear hxe
        have hi' : (i : Int) < m := by omega
        have hi0 : (0 : Int) ≤ i := by omega
        go_wp2_with ((with_reducible refine gate (.call { callee := .builtin .append, args := #[.tmp 110, .tmp 113], argTypes := #[23, 23] }) rfl ?_); refine wp_appendK rfl _ _ 23 25 _ 6 88 rfl Tryd.underlying23 info_va rfl (by decide) (by decide) (by decide) _ i ((P9.take i).flatMap (vfc 19)) (vfc 19 (0, x)) _ _ rfl rfl rfl (by simp [Value.oneCell', vfc]) (HO.keep0 ((Ch.refl No wB).alloc _)) (Row.alloc wB (vfc 19 (0, x)) 25) (by omega) ?_; intro v5 w5 ho5 hch5 hat5)
        go_roundg (m - (i + 1))
        case measure => omega
        case rel =>
          have hs := hch.size
          refine ⟨i + 1, by omega, by go_num, by rw [HT.out, hpe.out, List.flatMap_append]; simpa using ho5, fun b hb => ?_, (hch.alloc _).trans hch5 (fun _ h => h) (fun b hb => .inr (hfr b hb))⟩
          rcases hat5 b hb with h | h
          · exact hfr b h
          · simp only [World.size_alloc] at h
            omega
      · obtain rfl : i = m := by omega
        have hPl : P9.length = i := HP.out.1
        obtain ⟨Av, cv, rfl⟩ := HO.slice
        have HR := hid ((show OwK 25 6 wB (.slice Av i cv) P9.length (P9.flatMap (vfc 19)) from by rw [hPl]; rwa [List.take_of_length_le (by omega)] at HO).rd)
        have C7 := C6.no_no hch
        have HSL := hid (sameList_true w 19 i K Av Ak cv ck P9 wB hPl hm1 HVK.out (C7.mono (fun _ h => h.elim)) HR.out (fun q h h' => by
          rw [HP.out.2 q h']
          exact HKN.out q h))
        have hr6' := hr6.keep0 hch
        clear HO
        go_wp2_with fail
        refine HSL.out.mono ?_
        rintro e w8 ⟨rfl, hch8⟩
        go_wp2_with fail
        refine (HLF.out A6 c6 w8 (hr6'.keep0 hch8) (C7.no_no hch8)).mono ?_
        rintro e w9 ⟨rfl, hch9⟩
        go_wp2_with fail
        go_ret
        exact ⟨rfl, (C7.no_no hch8).no_no hch9⟩
set_option maxRecDepth 100000 in
set_option maxHeartbeats 4000000 in
theorem lawAs_k (k n o : Int) (s : ByteArray) (m d : Nat) (K : Fin m → Va) (D : Fin d → Va) (Ak Bk : Option Addr) (ck cb : Nat) (f : Int) (A : Option Addr) (l : List Int) (cap : Nat) (cut : Int) (w : World) (hT : Lds w) (ht : VaP w (.mk k n s m K o d D) [.int .i64 k, .int .u64 n, .string s, .slice Ak m ck, .int .i64 o, .slice Bk d cb]) (hf0 : 0 ≤ f) (hf1 : f < 18446744073709551616) (hr : Rd u8 w A l) (hle : l.length ≤ cap) (hb : Byt l) (hk : k ≠ 23) :
    Calls Tryd.prog 9 #[.agg #[.int .i64 k, .int .u64 n, .string s, .slice Ak m ck, .int .i64 o, .slice Bk d cb, .int .u64 f, .slice A l.length cap, .int .i64 cut]] w fun e w' => e = .returned (.bool true) ∧ Ch No w w' := by
  have HX := hid hk
  clear hk
  have hB := Row.alloc w [.int .i64 k, .int .u64 n, .string s, .slice Ak m ck, .int .i64 o, .slice Bk d cb, .int .u64 f, .slice A l.length cap, .int .i64 cut] 28
  have q0 := hB.cell 0 _ rfl
  have q1 := hB.cell 1 _ rfl
  have q2 := hB.cell 2 _ rfl
  have q3 := hB.cell 3 _ rfl
  have q4 := hB.cell 4 _ rfl
  have q5 := hB.cell 5 _ rfl
  have q6 := hB.cell 6 _ rfl
  have q7 := hB.cell 7 _ rfl
  have q8 := hB.cell 8 _ rfl
  have C1 : Ch No w (w.alloc (.cells #[.int .i64 k, .int .u64 n, .string s, .slice Ak m ck, .int .i64 o, .slice Bk d cb, .int .u64 f, .slice A l.length cap, .int .i64 cut] 28)) := (Ch.refl No w).alloc _
  by_cases hbig : 2147483647 < l.length
  · have hzz := fun W => zz_calls (.int .i64 k) (.int .u64 n) (.string s) (.slice Ak m ck) (.int .i64 o) (.slice Bk d cb) f A l.length cap cut W false (by show _ = true; exact decide_eq_true (by omega))
    go_enter Tryd.func9, Tryd.ntmps9
    go_wp2_with fail
    refine (hzz _).mono ?_
    rintro e w1 ⟨rfl, hch1⟩
    go_wp2_with fail
    go_ret
    exact ⟨rfl, C1.no_no hch1⟩
  have hzz := fun W => zz_calls (.int .i64 k) (.int .u64 n) (.string s) (.slice Ak m ck) (.int .i64 o) (.slice Bk d cb) f A l.length cap cut W true (by show _ = false; exact decide_eq_false (by omega))
  go_enter Tryd.func9, Tryd.ntmps9
  go_wp2_with fail
  refine (hzz _).mono ?_
  rintro e w1 ⟨rfl, hch1⟩
  have C2 := C1.no_no hch1
  have hB1 := hB.keep0 hch1
  have hT1 := hT.keep0 C2
  clear hzz
  have qa0 := hB1.cell 0 _ rfl
  have qa1 := hB1.cell 1 _ rfl
  have qa2 := hB1.cell 2 _ rfl
  have qa3 := hB1.cell 3 _ rfl
  have qa4 := hB1.cell 4 _ rfl
  have qa5 := hB1.cell 5 _ rfl
  have qa6 := hB1.cell 6 _ rfl
  have qa7 := hB1.cell 7 _ rfl
  have qa8 := hB1.cell 8 _ rfl
  go_wp2_with fail
  refine (awake_sw w1 hT1.1).mono ?_
  rintro e w1a ⟨Aa, ca, rfl, hra, _, hch1a⟩
  go_wp2_with fail
  refine (awake_sr Aa ca w1a hra).mono ?_
  rintro e w2 ⟨Ab, cb2, Ac, cc2, rfl, hrb, _, _, _, hch2⟩
  obtain ⟨b5, o5, rfl, hc5⟩ := hrb.at_ 0 (by simp)
  simp only [Nat.add_zero, List.getElem_cons_zero] at hc5
  have C3 := ((C2.alloc (.cells #[.string ⟨#[97]⟩] 9)).no_no hch1a).no_no hch2
  have hB2 := ((hB1.keep0 ((Ch.refl No w1).alloc (.cells #[.string ⟨#[97]⟩] 9))).keep0 hch1a).keep0 hch2
  have r0 := hB2.cell 0 _ rfl
  have r1 := hB2.cell 1 _ rfl
  have r2 := hB2.cell 2 _ rfl
  have r3 := hB2.cell 3 _ rfl
  have r4 := hB2.cell 4 _ rfl
  have r5 := hB2.cell 5 _ rfl
  have r6 := hB2.cell 6 _ rfl
  have r7 := hB2.cell 7 _ rfl
  have r8 := hB2.cell 8 _ rfl
  have hT2 := hT.keep0 C3
  go_wp2_with fail
  refine (data_calls k n o s m d K D (.int .i64 k) (.int .u64 n) (.string s) (.slice Ak m ck) (.int .i64 o) Bk cb f A l cap cut w w2 C3 hT2 ht hf0 hf1 (hr.keep0 C3)).mono ?_
  rintro e w3 ⟨hch3, hdt⟩
  have C4 := C3.no_no hch3
  have hB3 := hB2.keep0 hch3
  have hT3 := hT.keep0 C4
  have s0 := hB3.cell 0 _ rfl
  have s1 := hB3.cell 1 _ rfl
  have s2 := hB3.cell 2 _ rfl
  have s3 := hB3.cell 3 _ rfl
  have s4 := hB3.cell 4 _ rfl
  have s5 := hB3.cell 5 _ rfl
  have s6 := hB3.cell 6 _ rfl
  have s7 := hB3.cell 7 _ rfl
  have s8 := hB3.cell 8 _ rfl
  have hvb := va_bounds ht
  have HAO := hid (fun W (hW : Ch No w W) => arrayOf_no w k n o 19 s m d K D Ak Bk ck cb W ht (hW.mono (fun _ h => h.elim)) hvb.1 hvb.2 (fun h => HX.out h.1))
  have HIA := hid (fun W => isArray_calls k n o s Ak Bk m d ck cb W false (decide_eq_false HX.out))
  have HTX := hid (fun W (hW : Ch No w W) => textArray_calls w k n o s m d K D Ak Bk ck cb W ht (hW.mono (fun _ h => h.elim)))
  clear hvb
  rcases hdt with ⟨x, y, cc, rfl⟩ | ⟨hask, Ad, cd, dd, hd, hdl, ⟨kk, hk, rfl, hrd, hcd⟩ | ⟨rfl, hrd, hcd⟩⟩
  · go_wp2_with fail
    refine (HAO.out w3 C4).mono ?_
    rintro e w4 ⟨rfl, hch4⟩
    have C5 := C4.no_no hch4
    go_wp2_with fail
    go_ret
    exact ⟨rfl, C5⟩
  · have HNO := hid (fun W (hW : Ch No w3 W) => as_no Ad cd (dd.take kk) W (hrd.keep0 hW) (by have := hask.bl; simp only [List.length_take, List.length_append]; omega) (by obtain ⟨c, x, rfl, h⟩ := arr_other HX.out hask.ds hask.fit hd; cases kk with | zero => exact .inl rfl | succ q => exact .inr ⟨c, x.take q, rfl, h⟩) (hT3.keep0 hW).2)
    generalize (dd.take kk).length = M at HNO hcd ⊢
    clear hrd
    go_wp2_with fail
    refine (HAO.out w3 C4).mono ?_
    rintro e w4 ⟨rfl, hch4⟩
    have C5 := C4.no_no hch4
    have hB4 := hB3.keep0 hch4
    have u0 := hB4.cell 0 _ rfl
    have u1 := hB4.cell 1 _ rfl
    have u2 := hB4.cell 2 _ rfl
    have u3 := hB4.cell 3 _ rfl
    have u4 := hB4.cell 4 _ rfl
    have u5 := hB4.cell 5 _ rfl
    have u6 := hB4.cell 6 _ rfl
    have u7 := hB4.cell 7 _ rfl
    have u8 := hB4.cell 8 _ rfl
    go_wp2_with fail
    refine (HTX.out w4 C5).mono ?_
    rintro e w4b ⟨b, rfl, hbk, hch4b⟩
    replace C5 := C5.no_no hch4b
    replace hch4 := hch4.no_no hch4b
    replace hB4 := hB4.keep0 hch4b
    have v0 := hB4.cell 0 _ rfl
    have v1 := hB4.cell 1 _ rfl
    have v2 := hB4.cell 2 _ rfl
    have v3 := hB4.cell 3 _ rfl
    have v4 := hB4.cell 4 _ rfl
    have v5 := hB4.cell 5 _ rfl
    have v6 := hB4.cell 6 _ rfl
    have v7 := hB4.cell 7 _ rfl
    have v8 := hB4.cell 8 _ rfl
    obtain rfl := hbk HX.out
    go_wp2_with fail
    refine (HIA.out w4b).mono ?_
    rintro e w5 ⟨rfl, hch5⟩
    have C6 := C5.no_no hch5
    have hB5 := hB4.keep0 hch5
    have y0 := hB5.cell 0 _ rfl
    have y1 := hB5.cell 1 _ rfl
    have y2 := hB5.cell 2 _ rfl
    have y3 := hB5.cell 3 _ rfl
    have y4 := hB5.cell 4 _ rfl
    have y5 := hB5.cell 5 _ rfl
    have y6 := hB5.cell 6 _ rfl
    have y7 := hB5.cell 7 _ rfl
    have y8 := hB5.cell 8 _ rfl
    go_wp2_with fail
    refine (HNO.out w5 (hch4.no_no hch5)).mono ?_
    rintro e w6 ⟨rfl, hch6⟩
    go_wp2_with fail
    go_ret
    exact ⟨rfl, C6.no_no hch6⟩
  · have HNO := hid (fun W (hW : Ch No w3 W) => as_no Ad cd (dd ++ l) W (hrd.keep0 hW) (by have := hask.bl; simp only [List.length_take, List.length_append]; omega) (by obtain ⟨c, x, rfl, h⟩ := arr_other HX.out hask.ds hask.fit hd; exact .inr ⟨c, x ++ l, rfl, h⟩) (hT3.keep0 hW).2)
    generalize (dd ++ l).length = M at HNO hcd ⊢
    clear hrd
    go_wp2_with fail
    refine (HAO.out w3 C4).mono ?_
    rintro e w4 ⟨rfl, hch4⟩
    have C5 := C4.no_no hch4
    have hB4 := hB3.keep0 hch4
    have u0 := hB4.cell 0 _ rfl
    have u1 := hB4.cell 1 _ rfl
    have u2 := hB4.cell 2 _ rfl
    have u3 := hB4.cell 3 _ rfl
    have u4 := hB4.cell 4 _ rfl
    have u5 := hB4.cell 5 _ rfl
    have u6 := hB4.cell 6 _ rfl
    have u7 := hB4.cell 7 _ rfl
    have u8 := hB4.cell 8 _ rfl
    go_wp2_with fail
    refine (HTX.out w4 C5).mono ?_
    rintro e w4b ⟨b, rfl, hbk, hch4b⟩
    replace C5 := C5.no_no hch4b
    replace hch4 := hch4.no_no hch4b
    replace hB4 := hB4.keep0 hch4b
    have v0 := hB4.cell 0 _ rfl
    have v1 := hB4.cell 1 _ rfl
    have v2 := hB4.cell 2 _ rfl
    have v3 := hB4.cell 3 _ rfl
    have v4 := hB4.cell 4 _ rfl
    have v5 := hB4.cell 5 _ rfl
    have v6 := hB4.cell 6 _ rfl
    have v7 := hB4.cell 7 _ rfl
    have v8 := hB4.cell 8 _ rfl
    obtain rfl := hbk HX.out
    go_wp2_with fail
    refine (HIA.out w4b).mono ?_
    rintro e w5 ⟨rfl, hch5⟩
    have C6 := C5.no_no hch5
    have hB5 := hB4.keep0 hch5
    have y0 := hB5.cell 0 _ rfl
    have y1 := hB5.cell 1 _ rfl
    have y2 := hB5.cell 2 _ rfl
    have y3 := hB5.cell 3 _ rfl
    have y4 := hB5.cell 4 _ rfl
    have y5 := hB5.cell 5 _ rfl
    have y6 := hB5.cell 6 _ rfl
    have y7 := hB5.cell 7 _ rfl
    have y8 := hB5.cell 8 _ rfl
    go_wp2_with fail
    refine (HNO.out w5 (hch4.no_no hch5)).mono ?_
    rintro e w6 ⟨rfl, hch6⟩
    go_wp2_with fail
    go_ret
    exact ⟨rfl, C6.no_no hch6⟩
set_option maxRecDepth 100000 in
set_option maxHeartbeats 4000000 in
theorem lawAs_no (n o : Int) (s : ByteArray) (m d : Nat) (K : Fin m → Va) (D : Fin d → Va) (Ak Bk : Option Addr) (ck cb : Nat) (f : Int) (A : Option Addr) (l : List Int) (cap : Nat) (cut : Int) (w : World) (hT : Lds w) (ht : VaP w (.mk 23 n s m K o d D) [.int .i64 23, .int .u64 n, .string s, .slice Ak m ck, .int .i64 o, .slice Bk d cb]) (hf0 : 0 ≤ f) (hf1 : f < 18446744073709551616) (hr : Rd u8 w A l) (hle : l.length ≤ cap) (hb : Byt l) (hx : ¬ Right 23 o K 19) :
    Calls Tryd.prog 9 #[.agg #[.int .i64 23, .int .u64 n, .string s, .slice Ak m ck, .int .i64 o, .slice Bk d cb, .int .u64 f, .slice A l.length cap, .int .i64 cut]] w fun e w' => e = .returned (.bool true) ∧ Ch No w w' := by
  have HX := hid hx
  clear hx
  have hB := Row.alloc w [.int .i64 23, .int .u64 n, .string s, .slice Ak m ck, .int .i64 o, .slice Bk d cb, .int .u64 f, .slice A l.length cap, .int .i64 cut] 28
  have q0 := hB.cell 0 _ rfl
  have q1 := hB.cell 1 _ rfl
  have q2 := hB.cell 2 _ rfl
  have q3 := hB.cell 3 _ rfl
  have q4 := hB.cell 4 _ rfl
  have q5 := hB.cell 5 _ rfl
  have q6 := hB.cell 6 _ rfl
  have q7 := hB.cell 7 _ rfl
  have q8 := hB.cell 8 _ rfl
  have C1 : Ch No w (w.alloc (.cells #[.int .i64 23, .int .u64 n, .string s, .slice Ak m ck, .int .i64 o, .slice Bk d cb, .int .u64 f, .slice A l.length cap, .int .i64 cut] 28)) := (Ch.refl No w).alloc _
  by_cases hbig : 2147483647 < l.length
  · have hzz := fun W => zz_calls (.int .i64 23) (.int .u64 n) (.string s) (.slice Ak m ck) (.int .i64 o) (.slice Bk d cb) f A l.length cap cut W false (by show _ = true; exact decide_eq_true (by omega))
    go_enter Tryd.func9, Tryd.ntmps9
    go_wp2_with fail
    refine (hzz _).mono ?_
    rintro e w1 ⟨rfl, hch1⟩
    go_wp2_with fail
    go_ret
    exact ⟨rfl, C1.no_no hch1⟩
  have hzz := fun W => zz_calls (.int .i64 23) (.int .u64 n) (.string s) (.slice Ak m ck) (.int .i64 o) (.slice Bk d cb) f A l.length cap cut W true (by show _ = false; exact decide_eq_false (by omega))
  go_enter Tryd.func9, Tryd.ntmps9
  go_wp2_with fail
  refine (hzz _).mono ?_
  rintro e w1 ⟨rfl, hch1⟩
  have C2 := C1.no_no hch1
  have hB1 := hB.keep0 hch1
  have hT1 := hT.keep0 C2
  clear hzz
  have qa0 := hB1.cell 0 _ rfl
  have qa1 := hB1.cell 1 _ rfl
  have qa2 := hB1.cell 2 _ rfl
  have qa3 := hB1.cell 3 _ rfl
  have qa4 := hB1.cell 4 _ rfl
  have qa5 := hB1.cell 5 _ rfl
  have qa6 := hB1.cell 6 _ rfl
  have qa7 := hB1.cell 7 _ rfl
  have qa8 := hB1.cell 8 _ rfl
  go_wp2_with fail
  refine (awake_sw w1 hT1.1).mono ?_
  rintro e w1a ⟨Aa, ca, rfl, hra, _, hch1a⟩
  go_wp2_with fail
  refine (awake_sr Aa ca w1a hra).mono ?_
  rintro e w2 ⟨Ab, cb2, Ac, cc2, rfl, hrb, _, _, _, hch2⟩
  obtain ⟨b5, o5, rfl, hc5⟩ := hrb.at_ 0 (by simp)
  simp only [Nat.add_zero, List.getElem_cons_zero] at hc5
  have C3 := ((C2.alloc (.cells #[.string ⟨#[97]⟩] 9)).no_no hch1a).no_no hch2
  have hB2 := ((hB1.keep0 ((Ch.refl No w1).alloc (.cells #[.string ⟨#[97]⟩] 9))).keep0 hch1a).keep0 hch2
  have r0 := hB2.cell 0 _ rfl
  have r1 := hB2.cell 1 _ rfl
  have r2 := hB2.cell 2 _ rfl
  have r3 := hB2.cell 3 _ rfl
  have r4 := hB2.cell 4 _ rfl
  have r5 := hB2.cell 5 _ rfl
  have r6 := hB2.cell 6 _ rfl
  have r7 := hB2.cell 7 _ rfl
  have r8 := hB2.cell 8 _ rfl
  have hT2 := hT.keep0 C3
  go_wp2_with fail
  refine (data_calls 23 n o s m d K D (.int .i64 23) (.int .u64 n) (.string s) (.slice Ak m ck) (.int .i64 o) Bk cb f A l cap cut w w2 C3 hT2 ht hf0 hf1 (hr.keep0 C3)).mono ?_
  rintro e w3 ⟨hch3, hdt⟩
  have C4 := C3.no_no hch3
  have hB3 := hB2.keep0 hch3
  have hT3 := hT.keep0 C4
  have s0 := hB3.cell 0 _ rfl
  have s1 := hB3.cell 1 _ rfl
  have s2 := hB3.cell 2 _ rfl
  have s3 := hB3.cell 3 _ rfl
  have s4 := hB3.cell 4 _ rfl
  have s5 := hB3.cell 5 _ rfl
  have s6 := hB3.cell 6 _ rfl
  have s7 := hB3.cell 7 _ rfl
  have s8 := hB3.cell 8 _ rfl
  have hvb := va_bounds ht
  have HAO := hid (fun W (hW : Ch No w W) => arrayOf_no w 23 n o 19 s m d K D Ak Bk ck cb W ht (hW.mono (fun _ h => h.elim)) hvb.1 hvb.2 HX.out)
  have HIA := hid (fun W => isArray_calls 23 n o s Ak Bk m d ck cb W true rfl)
  have HTX := hid (fun W (hW : Ch No w W) => textArray_calls w 23 n o s m d K D Ak Bk ck cb W ht (hW.mono (fun _ h => h.elim)))
  clear hvb
  rcases hdt with ⟨x, y, cc, rfl⟩ | ⟨hask, Ad, cd, dd, hd, hdl, ⟨kk, hk, rfl, hrd, hcd⟩ | ⟨rfl, hrd, hcd⟩⟩
  · go_wp2_with fail
    refine (HAO.out w3 C4).mono ?_
    rintro e w4 ⟨rfl, hch4⟩
    have C5 := C4.no_no hch4
    go_wp2_with fail
    go_ret
    exact ⟨rfl, C5⟩
  · rcases Nat.eq_zero_or_pos m with hz | hz
    · subst hz
      generalize (dd.take kk).length = M at hcd ⊢
      clear hrd
      go_wp2_with fail
      refine (HAO.out w3 C4).mono ?_
      rintro e w4 ⟨rfl, hch4⟩
      have C5 := C4.no_no hch4
      have hB4 := hB3.keep0 hch4
      have u0 := hB4.cell 0 _ rfl
      have u1 := hB4.cell 1 _ rfl
      have u2 := hB4.cell 2 _ rfl
      have u3 := hB4.cell 3 _ rfl
      have u4 := hB4.cell 4 _ rfl
      have u5 := hB4.cell 5 _ rfl
      have u6 := hB4.cell 6 _ rfl
      have u7 := hB4.cell 7 _ rfl
      have u8 := hB4.cell 8 _ rfl
      go_wp2_with fail
      refine (HTX.out w4 C5).mono ?_
      rintro e w4b ⟨b, rfl, hbk, hch4b⟩
      replace C5 := C5.no_no hch4b
      replace hch4 := hch4.no_no hch4b
      replace hB4 := hB4.keep0 hch4b
      have v0 := hB4.cell 0 _ rfl
      have v1 := hB4.cell 1 _ rfl
      have v2 := hB4.cell 2 _ rfl
      have v3 := hB4.cell 3 _ rfl
      have v4 := hB4.cell 4 _ rfl
      have v5 := hB4.cell 5 _ rfl
      have v6 := hB4.cell 6 _ rfl
      have v7 := hB4.cell 7 _ rfl
      have v8 := hB4.cell 8 _ rfl
      cases b
      rotate_left
      · go_wp2_with fail
        go_ret
        exact ⟨rfl, C5⟩
      go_wp2_with fail
      refine (HIA.out w4b).mono ?_
      rintro e w5 ⟨rfl, hch5⟩
      have C6 := C5.no_no hch5
      have hB5 := hB4.keep0 hch5
      have y0 := hB5.cell 0 _ rfl
      have y1 := hB5.cell 1 _ rfl
      have y2 := hB5.cell 2 _ rfl
      have y3 := hB5.cell 3 _ rfl
      have y4 := hB5.cell 4 _ rfl
      have y5 := hB5.cell 5 _ rfl
      have y6 := hB5.cell 6 _ rfl
      have y7 := hB5.cell 7 _ rfl
      have y8 := hB5.cell 8 _ rfl
      go_wp2_with fail
      go_ret
      exact ⟨rfl, C6⟩
    · obtain ⟨x, E, j, hA, hx⟩ := ar_other 19 _ code_as (by decide) hask.ds hask.fit hask.cn hd hz HX.out
      have HNO := hid (fun W (hW : Ch No w3 W) => as_cut Ad cd dd _ m j kk W hA hk (hrd.keep0 hW) ((wr_byt _ 6 hask.fit).2.2 dd hd) (by have := hask.bl; simp only [List.length_take, List.length_append]; omega) (hT3.keep0 hW).2)
      generalize (dd.take kk).length = M at HNO hcd ⊢
      clear hrd hA hx
      have hz1 : ((m : Int) == 0) = false := beq_eq_false_iff_ne.2 (by omega)
      have hz2 : decide ((m : Int) = 0) = false := decide_eq_false (by omega)
      go_wp2_with fail
      refine (HAO.out w3 C4).mono ?_
      rintro e w4 ⟨rfl, hch4⟩
      have C5 := C4.no_no hch4
      have hB4 := hB3.keep0 hch4
      have u0 := hB4.cell 0 _ rfl
      have u1 := hB4.cell 1 _ rfl
      have u2 := hB4.cell 2 _ rfl
      have u3 := hB4.cell 3 _ rfl
      have u4 := hB4.cell 4 _ rfl
      have u5 := hB4.cell 5 _ rfl
      have u6 := hB4.cell 6 _ rfl
      have u7 := hB4.cell 7 _ rfl
      have u8 := hB4.cell 8 _ rfl
      go_wp2_with fail
      refine (HTX.out w4 C5).mono ?_
      rintro e w4b ⟨b, rfl, hbk, hch4b⟩
      replace C5 := C5.no_no hch4b
      replace hch4 := hch4.no_no hch4b
      replace hB4 := hB4.keep0 hch4b
      have v0 := hB4.cell 0 _ rfl
      have v1 := hB4.cell 1 _ rfl
      have v2 := hB4.cell 2 _ rfl
      have v3 := hB4.cell 3 _ rfl
      have v4 := hB4.cell 4 _ rfl
      have v5 := hB4.cell 5 _ rfl
      have v6 := hB4.cell 6 _ rfl
      have v7 := hB4.cell 7 _ rfl
      have v8 := hB4.cell 8 _ rfl
      cases b
      rotate_left
      · go_wp2_with fail
        go_ret
        exact ⟨rfl, C5⟩
      go_wp2_with fail
      refine (HIA.out w4b).mono ?_
      rintro e w5 ⟨rfl, hch5⟩
      have C6 := C5.no_no hch5
      have hB5 := hB4.keep0 hch5
      have y0 := hB5.cell 0 _ rfl
      have y1 := hB5.cell 1 _ rfl
      have y2 := hB5.cell 2 _ rfl
      have y3 := hB5.cell 3 _ rfl
      have y4 := hB5.cell 4 _ rfl
      have y5 := hB5.cell 5 _ rfl
      have y6 := hB5.cell 6 _ rfl
      have y7 := hB5.cell 7 _ rfl
      have y8 := hB5.cell 8 _ rfl
      go_wp2_with fail
      refine (HNO.out w5 (hch4.no_no hch5)).mono ?_
      rintro e w6 ⟨rfl, hch6⟩
      go_wp2_with fail
      go_ret
      exact ⟨rfl, C6.no_no hch6⟩
  · rcases Nat.eq_zero_or_pos m with hz | hz
    · subst hz
      generalize (dd ++ l).length = M at hcd ⊢
      clear hrd
      go_wp2_with fail
      refine (HAO.out w3 C4).mono ?_
      rintro e w4 ⟨rfl, hch4⟩
      have C5 := C4.no_no hch4
      have hB4 := hB3.keep0 hch4
      have u0 := hB4.cell 0 _ rfl
      have u1 := hB4.cell 1 _ rfl
      have u2 := hB4.cell 2 _ rfl
      have u3 := hB4.cell 3 _ rfl
      have u4 := hB4.cell 4 _ rfl
      have u5 := hB4.cell 5 _ rfl
      have u6 := hB4.cell 6 _ rfl
      have u7 := hB4.cell 7 _ rfl
      have u8 := hB4.cell 8 _ rfl
      go_wp2_with fail
      refine (HTX.out w4 C5).mono ?_
      rintro e w4b ⟨b, rfl, hbk, hch4b⟩
      replace C5 := C5.no_no hch4b
      replace hch4 := hch4.no_no hch4b
      replace hB4 := hB4.keep0 hch4b
      have v0 := hB4.cell 0 _ rfl
      have v1 := hB4.cell 1 _ rfl
      have v2 := hB4.cell 2 _ rfl
      have v3 := hB4.cell 3 _ rfl
      have v4 := hB4.cell 4 _ rfl
      have v5 := hB4.cell 5 _ rfl
      have v6 := hB4.cell 6 _ rfl
      have v7 := hB4.cell 7 _ rfl
      have v8 := hB4.cell 8 _ rfl
      cases b
      rotate_left
      · go_wp2_with fail
        go_ret
        exact ⟨rfl, C5⟩
      go_wp2_with fail
      refine (HIA.out w4b).mono ?_
      rintro e w5 ⟨rfl, hch5⟩
      have C6 := C5.no_no hch5
      have hB5 := hB4.keep0 hch5
      have y0 := hB5.cell 0 _ rfl
      have y1 := hB5.cell 1 _ rfl
      have y2 := hB5.cell 2 _ rfl
      have y3 := hB5.cell 3 _ rfl
      have y4 := hB5.cell 4 _ rfl
      have y5 := hB5.cell 5 _ rfl
      have y6 := hB5.cell 6 _ rfl
      have y7 := hB5.cell 7 _ rfl
      have y8 := hB5.cell 8 _ rfl
      go_wp2_with fail
      go_ret
      exact ⟨rfl, C6⟩
    · obtain ⟨x, E, j, hA, hx⟩ := ar_other 19 _ code_as (by decide) hask.ds hask.fit hask.cn hd hz HX.out
      have HNO := hid (fun W (hW : Ch No w3 W) => as_code Ad cd dd E l x m j W hA hx hz (hrd.keep0 hW) (((wr_byt _ 6 hask.fit).2.2 dd hd).append hb) (by have := hask.bl; simp only [List.length_take, List.length_append]; omega))
      generalize (dd ++ l).length = M at HNO hcd ⊢
      clear hrd hA hx
      have hz1 : ((m : Int) == 0) = false := beq_eq_false_iff_ne.2 (by omega)
      have hz2 : decide ((m : Int) = 0) = false := decide_eq_false (by omega)
      go_wp2_with fail
      refine (HAO.out w3 C4).mono ?_
      rintro e w4 ⟨rfl, hch4⟩
      have C5 := C4.no_no hch4
      have hB4 := hB3.keep0 hch4
      have u0 := hB4.cell 0 _ rfl
      have u1 := hB4.cell 1 _ rfl
      have u2 := hB4.cell 2 _ rfl
      have u3 := hB4.cell 3 _ rfl
      have u4 := hB4.cell 4 _ rfl
      have u5 := hB4.cell 5 _ rfl
      have u6 := hB4.cell 6 _ rfl
      have u7 := hB4.cell 7 _ rfl
      have u8 := hB4.cell 8 _ rfl
      go_wp2_with fail
      refine (HTX.out w4 C5).mono ?_
      rintro e w4b ⟨b, rfl, hbk, hch4b⟩
      replace C5 := C5.no_no hch4b
      replace hch4 := hch4.no_no hch4b
      replace hB4 := hB4.keep0 hch4b
      have v0 := hB4.cell 0 _ rfl
      have v1 := hB4.cell 1 _ rfl
      have v2 := hB4.cell 2 _ rfl
      have v3 := hB4.cell 3 _ rfl
      have v4 := hB4.cell 4 _ rfl
      have v5 := hB4.cell 5 _ rfl
      have v6 := hB4.cell 6 _ rfl
      have v7 := hB4.cell 7 _ rfl
      have v8 := hB4.cell 8 _ rfl
      cases b
      rotate_left
      · go_wp2_with fail
        go_ret
        exact ⟨rfl, C5⟩
      go_wp2_with fail
      refine (HIA.out w4b).mono ?_
      rintro e w5 ⟨rfl, hch5⟩
      have C6 := C5.no_no hch5
      have hB5 := hB4.keep0 hch5
      have y0 := hB5.cell 0 _ rfl
      have y1 := hB5.cell 1 _ rfl
      have y2 := hB5.cell 2 _ rfl
      have y3 := hB5.cell 3 _ rfl
      have y4 := hB5.cell 4 _ rfl
      have y5 := hB5.cell 5 _ rfl
      have y6 := hB5.cell 6 _ rfl
      have y7 := hB5.cell 7 _ rfl
      have y8 := hB5.cell 8 _ rfl
      go_wp2_with fail
      refine (HNO.out w5 (hch4.no_no hch5)).mono ?_
      rintro e w6 ⟨rfl, hch6⟩
      go_wp2_with fail
      go_ret
      exact ⟨rfl, C6.no_no hch6⟩
theorem FnReadArrayStringLaw (t : Va) (v0 v1 v2 v3 v4 v5 : Value) (f : Int) (A : Option Addr) (l : List Int) (cap : Nat) (cut : Int) (w : World) (hT : Lds w) (ht : VaP w t [v0, v1, v2, v3, v4, v5]) (hf0 : 0 ≤ f) (hf1 : f < 18446744073709551616) (hr : Rd u8 w A l) (hle : l.length ≤ cap) (hb : Byt l) :
    Calls Tryd.prog 9 #[.agg #[v0, v1, v2, v3, v4, v5, .int .u64 f, .slice A l.length cap, .int .i64 cut]] w fun e w' => e = .returned (.bool true) ∧ Ch No w w' := by
  obtain ⟨k, n, s, m, K, o, d, D⟩ := t
  have ht' := ht
  obtain ⟨Ak, ck, Bk, cb, he, _⟩ := ht'
  simp only [List.cons.injEq, and_true] at he
  obtain ⟨rfl, rfl, rfl, rfl, rfl, rfl⟩ := he
  by_cases h2 : k = 23
  · subst h2
    by_cases hx : Right 23 o K 19
    · exact lawAs_yes n o s m d K D Ak Bk ck cb f A l cap cut w hT ht hf0 hf1 hr hle hb hx
    · exact lawAs_no n o s m d K D Ak Bk ck cb f A l cap cut w hT ht hf0 hf1 hr hle hb hx
  · exact lawAs_k k n o s m d K D Ak Bk ck cb f A l cap cut w hT ht hf0 hf1 hr hle hb h2

end Go.Proofs.YtbdgkikipekmlaaDoor
