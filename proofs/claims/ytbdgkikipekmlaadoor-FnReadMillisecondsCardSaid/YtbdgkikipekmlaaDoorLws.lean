/- The plain law: what the bytes of a value begin with, and that they are bytes. No program in sight. The walk of the comparison of bytes. The law of AMQP's reader of milliseconds. The law of AMQP's reader of milliseconds, whole. No condition. -/
import Derived.Test.YtbdgkikipekmlaaDoorPco
import Derived.Test.YtbdgkikipekmlaaDoorRdb
import Derived.Test.YtbdgkikipekmlaaDoorHnd
import Derived.Lib.ConvBytes
import Derived.Laws.BytesArg
namespace Go.Proofs.YtbdgkikipekmlaaDoor
set_option linter.unusedVariables false
set_option linter.unusedSimpArgs false
open Go.RowKit

theorem lenh_byt (cnt : Int) (sz : Nat) : Byt (lenh cnt sz) := by
  unfold lenh
  split
  · exact byt_bg _ _
  · exact fun x hx => by cases hx
theorem LenD.byt {sh lo cnt c : Int} {data b : List Int} (h : LenD sh lo data cnt c b) (hd : Byt data) : Byt b := by
  rcases h with ⟨_, _, _, rfl⟩ | ⟨_, rfl⟩
  · exact ((byt_bg _ _).append (lenh_byt _ _)).append hd
  · exact ((byt_bg _ _).append (lenh_byt _ _)).append hd
theorem byt_bys (s : ByteArray) : Byt (bys s) := fun x hx => by
  obtain ⟨b, _, rfl⟩ := List.mem_map.1 hx
  have := b.toNat_lt
  omega
theorem byt_cat (es : Nat → List Int) : ∀ n, (∀ i, i < n → Byt (es i)) → Byt (cat es n)
  | 0, _ => fun x hx => by cases hx
  | n + 1, h => (byt_cat es n (fun i hi => h i (by omega))).append (h n (by omega))
theorem NumW.byt {k n c : Int} {b : List Int} (h : NumW k n c b) : Byt b := by
  rcases h with ⟨_, rfl⟩ | ⟨_, ⟨_, _, rfl⟩ | ⟨_, _, rfl⟩⟩ | ⟨_, ⟨_, _, rfl⟩ | ⟨_, _, rfl⟩⟩ | ⟨_, _, _, rfl⟩ | ⟨_, _, _, rfl⟩
  all_goals first
  | exact byt_bg _ _
  | exact fun x hx => by cases hx
theorem byt_mod (c : Int) : 0 ≤ c % 256 ∧ c % 256 < 256 := by omega
theorem byt_cons {x : Int} {l : List Int} (h0 : 0 ≤ x ∧ x < 256) (h : Byt l) : Byt (x :: l) := fun y hy => by
  rcases List.mem_cons.1 hy with rfl | hy
  · exact h0
  · exact h y hy
theorem wr_byt : ∀ (t : Va) (lv : Int), FitV t lv → (∀ c b, (Wr t).pc c b → Byt b) ∧ (∀ b, (Wr t).ds b → Byt b) ∧ (∀ b, (Wr t).pv b → Byt b) := by
  intro t
  induction t with
  | mk k n s m K o d D ihK ihD =>
    intro lv hf
    obtain ⟨_, _, _, _, _, _, hd1, hm, hs, hn0, _, hcf, hfd, hfk⟩ := hf
    have hkv : ∀ es : Nat → List Int, (∀ i : Fin m, (Wr (K i)).pv (es i.val)) → Byt (cat es m) := fun es he => byt_cat es m fun i hi => (ihK ⟨i, hi⟩ (lv - 1) (hfk ⟨i, hi⟩)).2.2 _ (he ⟨i, hi⟩)
    have hpc : ∀ c b, (Wr (.mk k n s m K o d D)).pc c b → Byt b := by
      intro c b h
      unfold Wr at h
      dsimp only at h
      rcases h with ⟨_, _, rfl⟩ | ⟨hk1, ⟨_, rfl⟩ | ⟨_, rfl⟩⟩ | ⟨_, _, rfl⟩ | ⟨_, _, rfl⟩ | ⟨_, h⟩ | ⟨_, h⟩ | ⟨_, h⟩ | ⟨_, _, _, h⟩ | ⟨_, ⟨_, _, rfl⟩ | ⟨es, he, h⟩⟩ | ⟨_, es, he, h⟩ | ⟨_, kd, code, es, pre, hp0, hp1, _, _, he, h⟩
      · exact fun x hx => by cases hx
      · exact fun x hx => by cases hx
      · have := hcf.1 hk1
        exact byt_cons (by omega) (fun x hx => by cases hx)
      · exact byt_bys s
      · exact byt_bys s
      · exact h.byt (byt_bys s)
      · exact h.byt (byt_bys s)
      · exact h.byt (byt_bys s)
      · exact h.byt
      · exact fun x hx => by cases hx
      · exact h.byt (hkv es he)
      · exact h.byt (hkv es he)
      · refine h.byt (Byt.append ?_ (byt_cons (byt_mod code) (byt_cat es m fun i hi => (ihK ⟨i, hi⟩ (lv - 1) (hfk ⟨i, hi⟩)).1 _ _ (he ⟨i, hi⟩))))
        by_cases h0 : 0 < m
        · exact (ihK ⟨0, h0⟩ (lv - 1) (hfk ⟨0, h0⟩)).2.1 _ (hp1 h0).2
        · obtain ⟨_, rfl⟩ := hp0 (by omega)
          exact fun x hx => by cases hx
    have hds : ∀ b, (Wr (.mk k n s m K o d D)).ds b → Byt b := by
      intro b h
      unfold Wr at h
      dsimp only at h
      rcases h with ⟨_, rfl⟩ | ⟨h0, x, hx, rfl⟩
      · exact fun x hx => by cases hx
      · exact byt_cons (by omega) ((ihD ⟨0, h0⟩ (lv - 1) (hfd ⟨0, h0⟩).1).2.2 _ hx)
    refine ⟨hpc, hds, fun b h => ?_⟩
    have h' : ∃ pre c x, (Wr (.mk k n s m K o d D)).ds pre ∧ (Wr (.mk k n s m K o d D)).pc c x ∧ b = pre ++ c % 256 :: x := by
      unfold Wr at h ⊢
      exact h
    obtain ⟨pre, c, x, h1, h2, rfl⟩ := h'
    exact (hds _ h1).append (byt_cons (byt_mod c) (hpc _ _ h2))
/-- A value without a descriptor: a code, and what stands behind it. -/
theorem wr_top {t : Va} {d : List Int} (h0 : t.descs = 0) (h : (Wr t).pv d) : ∃ c x, (Wr t).pc c x ∧ d = c % 256 :: x := by
  obtain ⟨k, n, s, m, K, o, dd, D⟩ := t
  have h' : ∃ pre c x, (Wr (.mk k n s m K o dd D)).ds pre ∧ (Wr (.mk k n s m K o dd D)).pc c x ∧ d = pre ++ c % 256 :: x := by
    unfold Wr at h ⊢
    exact h
  obtain ⟨pre, c, x, h1, h2, rfl⟩ := h'
  refine ⟨c, x, h2, ?_⟩
  have hdd : dd = 0 := h0
  unfold Wr at h1
  dsimp only at h1
  rcases h1 with ⟨_, rfl⟩ | ⟨h3, _⟩
  · rfl
  · omega
/-- The codes of a kind. -/
def codL : List (Int × Int) := [(0, 64), (1, 65), (1, 66), (1, 86), (2, 80), (3, 96), (4, 112), (4, 82), (4, 67), (5, 128), (5, 83), (5, 68), (6, 81), (7, 97), (8, 113), (8, 84), (9, 129), (9, 85), (10, 114), (11, 130), (12, 116), (13, 132), (14, 148), (15, 115), (16, 131), (17, 152), (18, 160), (18, 176), (19, 161), (19, 177), (20, 163), (20, 179), (21, 69), (21, 192), (21, 208), (22, 193), (22, 209), (23, 224), (23, 240)]
def Cod (k c : Int) : Prop := (k, c) ∈ codL
theorem Cod.all {p : Int × Int → Bool} (h : codL.all p = true) {k c : Int} (hc : Cod k c) : p (k, c) = true := List.all_eq_true.1 h _ hc
theorem LenD.code {sh lo cnt c : Int} {data b : List Int} (h : LenD sh lo data cnt c b) : c = sh ∨ c = lo := by
  rcases h with ⟨h, _⟩ | ⟨h, _⟩
  · exact .inl h
  · exact .inr h
theorem NumW.code {k n c : Int} {b : List Int} (h : NumW k n c b) : c = cdOf k ∨ (k = 4 ∧ (c = 82 ∨ c = 67)) ∨ (k = 5 ∧ (c = 83 ∨ c = 68)) ∨ (k = 8 ∧ c = 84) ∨ (k = 9 ∧ c = 85) := by
  rcases h with ⟨h, _⟩ | ⟨hk, ⟨h, _⟩ | ⟨h, _⟩⟩ | ⟨hk, ⟨h, _⟩ | ⟨h, _⟩⟩ | ⟨hk, h, _⟩ | ⟨hk, h, _⟩ <;> simp [*]
theorem wr_code {k n o : Int} {s : ByteArray} {m d : Nat} {K : Fin m → Va} {D : Fin d → Va} {c : Int} {b : List Int} (hn0 : 0 ≤ n) (hn : k = 1 → n ≤ 1) (h : (Wr (.mk k n s m K o d D)).pc c b) : Cod k c := by
  unfold Wr at h
  dsimp only at h
  unfold Cod
  rcases h with ⟨rfl, rfl, _⟩ | ⟨rfl, ⟨hc, _⟩ | ⟨rfl, _⟩⟩ | ⟨rfl, rfl, _⟩ | ⟨rfl, rfl, _⟩ | ⟨rfl, h⟩ | ⟨rfl, h⟩ | ⟨rfl, h⟩ | ⟨h2, h16, h14, h⟩ | ⟨rfl, ⟨_, rfl, _⟩ | ⟨es, he, h⟩⟩ | ⟨rfl, es, he, h⟩ | ⟨rfl, kd, code, es, pre, hp0, hp1, _, _, he, h⟩
  · decide
  · have := hn rfl
    obtain rfl | rfl : c = 65 ∨ c = 66 := by omega
    · decide
    · decide
  · decide
  · decide
  · decide
  · rcases h.code with rfl | rfl <;> decide
  · rcases h.code with rfl | rfl <;> decide
  · rcases h.code with rfl | rfl <;> decide
  · have h9 := h.code
    obtain rfl | rfl | rfl | rfl | rfl | rfl | rfl | rfl | rfl | rfl | rfl | rfl | rfl | rfl : k = 2 ∨ k = 3 ∨ k = 4 ∨ k = 5 ∨ k = 6 ∨ k = 7 ∨ k = 8 ∨ k = 9 ∨ k = 10 ∨ k = 11 ∨ k = 12 ∨ k = 13 ∨ k = 15 ∨ k = 16 := by omega
    all_goals
      rcases h9 with rfl | ⟨h7, h8⟩ | ⟨h7, h8⟩ | ⟨h7, h8⟩ | ⟨h7, h8⟩
      all_goals first
      | decide
      | (exfalso; omega)
      | (subst h8; decide)
      | (rcases h8 with rfl | rfl <;> decide)
  · decide
  · rcases h.code with rfl | rfl <;> decide
  · rcases h.code with rfl | rfl <;> decide
  · rcases h.code with rfl | rfl <;> decide
end Go.Proofs.YtbdgkikipekmlaaDoor

namespace Go.Proofs.YtbdgkikipekmlaaDoor
set_option linter.unusedVariables false
set_option linter.unusedSimpArgs false
open Go.RowKit

theorem conv_rd {w : World} {A : Option Addr} {c : Nat} {l : List Int} (h : Rd u8 w A l) : ∀ W : World, Ch No w W → (convert 26 9 (.slice A l.length c)).run Tryd.prog W = .ok (.string (strOfNums l)) W := by
  intro W hW
  have h := h.keep0 hW
  rcases Nat.eq_zero_or_pos l.length with h0 | h0
  · obtain rfl : l = [] := List.eq_nil_of_length_eq_zero h0
    cases A with
    | none => exact run_convert_bytes_nil W 26 5 Tryd.underlying26 Tryd.underlying5 0 c 9 Tryd.underlying9
    | some ad =>
      have hl : (loadCells ad 0).run Tryd.prog W = .ok (([] : List Int).map (Value.int .u8)).toArray W := by simpa using run_loadCells_list (P := Tryd.prog) W ad [] (by simp)
      have h1 := run_convert_bytes_string (P := Tryd.prog) W 26 9 5 (some ad) 0 c Tryd.underlying26 Tryd.underlying5 Tryd.underlying9
      rw [run_bytesToString W ad 0 c [] hl, foldl_push_bytes] at h1
      exact h1
  · obtain ⟨b, o, rfl, hc⟩ := h h0
    exact run_convert_bytes_arg W 26 5 Tryd.underlying26 Tryd.underlying5 b o l.length c l rfl (fun i hi => by
      rw [List.getD_eq_getElem?_getD, List.getElem?_eq_getElem hi]
      exact hc i _ (List.getElem?_eq_getElem hi)) 9 Tryd.underlying9
theorem left_calls (A1 A2 : Option Addr) (c1 c2 : Nat) (l : List Int) (w : World) (h1 : Rd u8 w A1 l) (h2 : Rd u8 w A2 l) :
    Calls Tryd.prog 15 #[.slice A1 l.length c1, .slice A2 l.length c2] w fun e w' => e = .returned (.bool true) ∧ Ch No w w' := by
  have hcon0 : ∀ nq, (convert 26 9 (.slice A1 l.length c1)).run Tryd.prog (w.drewN nq) = .ok (.string (strOfNums l)) (w.drewN nq) := fun nq => conv_rd h1 _ ((Ch.refl _ _).drewN _)
  have hcon1 : ∀ nq, (convert 26 9 (.slice A2 l.length c2)).run Tryd.prog (w.drewN nq) = .ok (.string (strOfNums l)) (w.drewN nq) := fun nq => conv_rd h2 _ ((Ch.refl _ _).drewN _)
  have hcon2 : (convert 26 9 (.slice A1 l.length c1)).run Tryd.prog w = .ok (.string (strOfNums l)) w := conv_rd h1 _ (Ch.refl _ _)
  have hcon3 : (convert 26 9 (.slice A2 l.length c2)).run Tryd.prog w = .ok (.string (strOfNums l)) w := conv_rd h2 _ (Ch.refl _ _)
  generalize l.length = m at hcon0 hcon1 hcon2 hcon3 ⊢
  go_enter Tryd.func15, Tryd.ntmps15
  go_wp2_with (go_quiet (fail))
  go_ret
  exact ⟨by simp, by repeat (first | exact Ch.refl _ _ | apply Ch.drewN | apply Ch.drew)⟩
end Go.Proofs.YtbdgkikipekmlaaDoor

namespace Go.Proofs.YtbdgkikipekmlaaDoor
set_option linter.unusedVariables false
set_option linter.unusedSimpArgs false
open Go.RowKit

theorem eof_ne {w : World} {p : Nat} (h : Eof w) (hp : w.heap.size ≤ p) : 4 ≠ p := by
  obtain ⟨T, v, hv⟩ := h
  have h9 := World.block_lt_of_cell? _ _ hv
  simp only at h9
  omega
/-- Bytes that are no integer without a sign. -/
def RefMs (l : List Int) : Prop := l = [] ∨ ∃ b r, l = b :: r ∧ ((b ≠ 67 ∧ b ≠ 68 ∧ b ≠ 80 ∧ b ≠ 82 ∧ b ≠ 83 ∧ b ≠ 96 ∧ b ≠ 112 ∧ b ≠ 128) ∨ ((b = 80 ∨ b = 82 ∨ b = 83) ∧ r.length < 1) ∨ (b = 96 ∧ r.length < 2) ∨ (b = 112 ∧ r.length < 4) ∨ (b = 128 ∧ r.length < 8))
theorem refMs_calls {p : Nat} {A : Option Addr} {c : Nat} {l : List Int} {w : World} (h : RbS p A c l 0 w) (hE : Eof w) (hp : 4 ≠ p) (hl : RefMs l) :
    Calls Tryd.prog 71 #[.pointer (some ⟨p, 0, none⟩)] w (RuNo p w) := by
  rcases hl with rfl | ⟨b, r, rfl, hb⟩
  · exact runum_end h (by simp) hE
  · have h0 : (0 : Nat) < (b :: r).length := by simp
    rcases hb with hb | ⟨rfl | rfl | rfl, hb⟩ | ⟨rfl, hb⟩ | ⟨rfl, hb⟩ | ⟨rfl, hb⟩
    · exact runum_other h h0 hb
    · exact runum_80_no h h0 (by simp; omega) rfl hE hp
    · exact runum_82_no h h0 (by simp; omega) rfl hE hp
    · exact runum_83_no h h0 (by simp; omega) rfl hE hp
    · exact runum_96_no h h0 (by simp; omega) rfl hE hp
    · exact runum_112_no h h0 (by simp; omega) rfl hE hp
    · exact runum_128_no h h0 (by simp; omega) rfl hE hp
theorem milli_refused (A0 : Option Addr) (c0 : Nat) (l : List Int) (w : World) (hr0 : Rd u8 w A0 l) (hl : l.length ≤ 1099511627776) (hE : Eof w) (h : RefMs l) :
    Calls Tryd.prog 16 #[.slice A0 l.length c0] w (BhNo (.int .i64 0) w) :=
  implMilli_no A0 c0 l w hr0 hl fun p A c W hp hW hR => refMs_calls hR (hE.keep0 hW) (eof_ne hE hp) h
/-- Bytes that are one, and of what length it is. -/
def OkMs (l : List Int) (j : Nat) (z : Int) : Prop := ∃ b r k, l = b :: r ∧ ((b = 67 ∨ b = 68) ∧ k = 0 ∨ (b = 80 ∨ b = 82 ∨ b = 83) ∧ k = 1 ∨ b = 96 ∧ k = 2 ∨ b = 112 ∧ k = 4 ∨ b = 128 ∧ k = 8) ∧ k ≤ r.length ∧ beN (r.take k) = z ∧ j = 1 + k
theorem okMs_calls {p : Nat} {A : Option Addr} {c : Nat} {l : List Int} {j : Nat} {z : Int} {w : World} (h : RbS p A c l 0 w) (hby : Byt l) (hl : OkMs l j z) :
    Calls Tryd.prog 71 #[.pointer (some ⟨p, 0, none⟩)] w (RuYes p A c l j z w) := by
  obtain ⟨b, r, k, rfl, hk, hkr, rfl, rfl⟩ := hl
  rcases hk with ⟨rfl | rfl, rfl⟩ | ⟨rfl | rfl | rfl, rfl⟩ | ⟨rfl, rfl⟩ | ⟨rfl, rfl⟩ | ⟨rfl, rfl⟩
  · exact runum_67_ok h (by simp; try omega) rfl hby
  · exact runum_68_ok h (by simp; try omega) rfl hby
  · exact runum_80_ok h (by simp; try omega) rfl hby
  · exact runum_82_ok h (by simp; try omega) rfl hby
  · exact runum_83_ok h (by simp; try omega) rfl hby
  · exact runum_96_ok h (by simp; try omega) rfl hby
  · exact runum_112_ok h (by simp; try omega) rfl hby
  · exact runum_128_ok h (by simp; try omega) rfl hby

theorem milli_taken (A0 : Option Addr) (c0 : Nat) (l : List Int) (w : World) (hr0 : Rd u8 w A0 l) (hl : l.length ≤ 1099511627776) (hby : Byt l) (j : Nat) (z : Int) (h0 : 0 ≤ z) (h1 : z ≤ 1099511627776) (h : OkMs l j z) :
    Calls Tryd.prog 16 #[.slice A0 l.length c0] w (RvT (.int .i64 (z * 1000000)) (l.drop j) w) :=
  implMilli_ok A0 c0 l w hr0 hl j z h0 h1 fun p A c W hR => okMs_calls hR hby h
theorem beN_bgr1 (u : Int) (h0 : 0 ≤ u) (h1 : u < 256) : beN (bg u 1) = u := by
  simp [bg, beN, List.range, List.range.loop]
  all_goals omega
theorem beN_bgr2 (u : Int) (h0 : 0 ≤ u) (h1 : u < 65536) : beN (bg u 2) = u := by
  simp [bg, beN, List.range, List.range.loop]
  all_goals omega
theorem beN_bgr4 (u : Int) (h0 : 0 ≤ u) (h1 : u < 4294967296) : beN (bg u 4) = u := by
  simp [bg, beN, List.range, List.range.loop]
  all_goals omega
theorem beN_bgr8 (u : Int) (h0 : 0 ≤ u) (h1 : u < 18446744073709551616) : beN (bg u 8) = u := by
  simp [bg, beN, List.range, List.range.loop]
  all_goals omega

/-! ### What is written of a value -/
theorem wr_num {k n o : Int} {s : ByteArray} {m d : Nat} {K : Fin m → Va} {D : Fin d → Va} {c : Int} {b : List Int} (hk0 : 2 ≤ k) (hk1 : k ≤ 16) (hk2 : k ≠ 14) (h : (Wr (.mk k n s m K o d D)).pc c b) : NumW k n c b := by
  unfold Wr at h
  dsimp only at h
  rcases h with ⟨e, _⟩ | ⟨e, _⟩ | ⟨e, _⟩ | ⟨e, _⟩ | ⟨e, _⟩ | ⟨e, _⟩ | ⟨e, _⟩ | ⟨_, _, _, h⟩ | ⟨e, _⟩ | ⟨e, _⟩ | ⟨e, _⟩
  all_goals first
  | exact h
  | (exfalso; omega)
theorem fit_parts {k n o : Int} {s : ByteArray} {m d : Nat} {K : Fin m → Va} {D : Fin d → Va} {lv : Int} (h : FitV (.mk k n s m K o d D) lv) : 0 ≤ k ∧ k < 24 ∧ m ≤ 1000 ∧ s.size ≤ 131072 ∧ 0 ≤ n ∧ n < 18446744073709551616 ∧ ContF k n s o K :=
  ⟨h.2.1, h.2.2.1, h.2.2.2.2.2.2.2.1, h.2.2.2.2.2.2.2.2.1, h.2.2.2.2.2.2.2.2.2.1, h.2.2.2.2.2.2.2.2.2.2.1, h.2.2.2.2.2.2.2.2.2.2.2.1⟩
/-- An integer without a sign is one of the forms that are read; what is cut off it is not. -/
theorem uns_form {k n o : Int} {s : ByteArray} {m d : Nat} {K : Fin m → Va} {D : Fin d → Va} {dd : List Int} (hk0 : 2 ≤ k) (hk1 : k ≤ 5) (hd0 : d = 0) (hf : FitV (.mk k n s m K o d D) 6) (h : (Wr (.mk k n s m K o d D)).pv dd) :
    ∃ c k', dd = c :: bg n k' ∧ ((c = 67 ∨ c = 68) ∧ k' = 0 ∨ (c = 80 ∨ c = 82 ∨ c = 83) ∧ k' = 1 ∨ c = 96 ∧ k' = 2 ∨ c = 112 ∧ k' = 4 ∨ c = 128 ∧ k' = 8) ∧ beN (bg n k') = n := by
  obtain ⟨c, x, hpc, rfl⟩ := wr_top (t := .mk k n s m K o d D) hd0 h
  have hnw := wr_num hk0 (by omega) (by omega) hpc
  obtain ⟨_, _, _, _, hn0, hn1, hcf⟩ := fit_parts hf
  rcases hnw with ⟨rfl, rfl⟩ | ⟨rfl, ⟨rfl, h2, rfl⟩ | ⟨rfl, h2, rfl⟩⟩ | ⟨rfl, ⟨rfl, h2, rfl⟩ | ⟨rfl, h2, rfl⟩⟩ | ⟨h2, _⟩ | ⟨h2, _⟩
  · obtain rfl | rfl | rfl | rfl : k = 2 ∨ k = 3 ∨ k = 4 ∨ k = 5 := by omega
    · exact ⟨80, 1, rfl, by omega, beN_bgr1 n hn0 (hcf.2.1 rfl)⟩
    · exact ⟨96, 2, rfl, by omega, beN_bgr2 n hn0 (hcf.2.2.1 rfl)⟩
    · exact ⟨112, 4, rfl, by omega, beN_bgr4 n hn0 (hcf.2.2.2.1 (.inl rfl))⟩
    · exact ⟨128, 8, rfl, by omega, beN_bgr8 n hn0 hn1⟩
  · exact ⟨82, 1, rfl, by omega, beN_bgr1 n hn0 h2⟩
  · exact ⟨67, 0, rfl, by omega, by rw [h2]; rfl⟩
  · exact ⟨83, 1, rfl, by omega, beN_bgr1 n hn0 h2⟩
  · exact ⟨68, 0, rfl, by omega, by rw [h2]; rfl⟩
  · omega
  · omega
end Go.Proofs.YtbdgkikipekmlaaDoor

namespace Go.Proofs.YtbdgkikipekmlaaDoor
set_option linter.unusedVariables false
set_option linter.unusedSimpArgs false
open Go.RowKit

theorem awake_ms (w : World) : Calls Tryd.prog 16 #[.slice (some ⟨w.heap.size, 0, none⟩) 2 2] (w.alloc (.cells #[.int .u8 82, .int .u8 5] 5)) (RvT (.int .i64 5000000) [] (w.alloc (.cells #[.int .u8 82, .int .u8 5] 5))) :=
  milli_taken (some ⟨w.heap.size, 0, none⟩) 2 [82, 5] _ (Ow.lit 5 u8 w [82, 5] (by simp [maxLen])).rd (by simp) (fun x hx => by simp at hx; omega) 2 5 (by omega) (by omega) ⟨82, [5], 1, rfl, by omega, by simp, by simp [beN], rfl⟩
theorem ms_cut {k n o : Int} {s : ByteArray} {m d : Nat} {K : Fin m → Va} {D : Fin d → Va} {dd : List Int} (hk0 : 2 ≤ k) (hk1 : k ≤ 5) (hd0 : d = 0) (hf : FitV (.mk k n s m K o d D) 6) (h : (Wr (.mk k n s m K o d D)).pv dd) (kk : Nat) (hkk : kk < dd.length ∨ dd = []) : RefMs (dd.take kk) := by
  obtain ⟨c, k', rfl, hc, _⟩ := uns_form hk0 hk1 hd0 hf h
  rcases hkk with hkk | hkk
  · cases kk with
    | zero => exact .inl rfl
    | succ j =>
      have hb := bg_len n k'
      simp only [List.length_cons] at hkk
      refine .inr ⟨c, (bg n k').take j, rfl, ?_⟩
      rw [List.length_take]
      omega
  · cases hkk
theorem ms_whole {k n o : Int} {s : ByteArray} {m d : Nat} {K : Fin m → Va} {D : Fin d → Va} {dd : List Int} (l : List Int) (hk0 : 2 ≤ k) (hk1 : k ≤ 5) (hd0 : d = 0) (hf : FitV (.mk k n s m K o d D) 6) (h : (Wr (.mk k n s m K o d D)).pv dd) : OkMs (dd ++ l) dd.length n := by
  obtain ⟨c, k', rfl, hc, hn⟩ := uns_form hk0 hk1 hd0 hf h
  have hb := bg_len n k'
  refine ⟨c, bg n k' ++ l, k', rfl, hc, by rw [List.length_append]; omega, ?_, by rw [List.length_cons]; omega⟩
  rw [List.take_append_of_le_length (by omega), List.take_of_length_le (by omega)]
  exact hn
theorem ms_code {k n o : Int} {s : ByteArray} {m d : Nat} {K : Fin m → Va} {D : Fin d → Va} {dd : List Int} (hk : k < 2 ∨ 9 < k) (hd0 : d = 0) (hf : FitV (.mk k n s m K o d D) 6) (h : (Wr (.mk k n s m K o d D)).pv dd) : ∃ c x, dd = c :: x ∧ c ≠ 67 ∧ c ≠ 68 ∧ c ≠ 80 ∧ c ≠ 82 ∧ c ≠ 83 ∧ c ≠ 96 ∧ c ≠ 112 ∧ c ≠ 128 := by
  obtain ⟨c, x, hpc, rfl⟩ := wr_top (t := .mk k n s m K o d D) hd0 h
  obtain ⟨_, _, _, _, hn0, hn1, hcf⟩ := fit_parts hf
  have hc := wr_code hn0 hcf.1 hpc
  have h9 := hc.all (p := fun q => (decide (2 ≤ q.1) && decide (q.1 ≤ 9)) || decide (q.2 % 256 ≠ 67 ∧ q.2 % 256 ≠ 68 ∧ q.2 % 256 ≠ 80 ∧ q.2 % 256 ≠ 82 ∧ q.2 % 256 ≠ 83 ∧ q.2 % 256 ≠ 96 ∧ q.2 % 256 ≠ 112 ∧ q.2 % 256 ≠ 128)) (by decide)
  simp only [Bool.or_eq_true, Bool.and_eq_true, decide_eq_true_eq] at h9
  rcases h9 with h9 | h9
  · omega
  · exact ⟨_, x, rfl, h9⟩
theorem ms_other {k n o : Int} {s : ByteArray} {m d : Nat} {K : Fin m → Va} {D : Fin d → Va} {dd : List Int} (hk : k < 2 ∨ 9 < k) (hd0 : d = 0) (hf : FitV (.mk k n s m K o d D) 6) (h : (Wr (.mk k n s m K o d D)).pv dd) : (∀ kk, RefMs (dd.take kk)) ∧ ∀ l, RefMs (dd ++ l) := by
  obtain ⟨c, x, rfl, hc⟩ := ms_code hk hd0 hf h
  refine ⟨fun kk => ?_, fun l => .inr ⟨c, x ++ l, rfl, .inl hc⟩⟩
  cases kk with
  | zero => exact .inl rfl
  | succ j => exact .inr ⟨c, x.take j, rfl, .inl hc⟩
set_option maxRecDepth 100000 in
set_option maxHeartbeats 4000000 in
theorem lawMs_sgn (k n o : Int) (s : ByteArray) (m d : Nat) (K : Fin m → Va) (D : Fin d → Va) (Ak Bk : Option Addr) (ck cb : Nat) (f : Int) (A : Option Addr) (l : List Int) (cap : Nat) (cut : Int) (w : World) (hT : Lds w) (ht : VaP w (.mk k n s m K o d D) [.int .i64 k, .int .u64 n, .string s, .slice Ak m ck, .int .i64 o, .slice Bk d cb]) (hf0 : 0 ≤ f) (hf1 : f < 18446744073709551616) (hr : Rd u8 w A l) (hle : l.length ≤ cap) (hb : Byt l) (h6 : 6 ≤ k) (h9 : k ≤ 9) :
    Calls Tryd.prog 4 #[.agg #[.int .i64 k, .int .u64 n, .string s, .slice Ak m ck, .int .i64 o, .slice Bk d cb, .int .u64 f, .slice A l.length cap, .int .i64 cut]] w fun e w' => e = .returned (.bool true) ∧ Ch No w w' := by
  have d2 : decide (2 ≤ k) = true := decide_eq_true (by omega)
  have d5 : decide (k ≤ 5) = false := decide_eq_false (by omega)
  have d6 : decide (6 ≤ k) = true := decide_eq_true (by omega)
  have d9 : decide (k ≤ 9) = true := decide_eq_true (by omega)
  have HKN := hid (And.intro h6 h9)
  clear h6 h9
  have hB := Row.alloc w [.int .i64 k, .int .u64 n, .string s, .slice Ak m ck, .int .i64 o, .slice Bk d cb, .int .u64 f, .slice A l.length cap, .int .i64 cut] 28
  have q0 := hB.cell 0 _ rfl
  have q1 := hB.cell 1 _ rfl
  have q2 := hB.cell 2 _ rfl
  have q3 := hB.cell 3 _ rfl
  have q4 := hB.cell 4 _ rfl
  have q5 := hB.cell 5 _ rfl
  have q6 := hB.cell 6 _ rfl
  have q7 := hB.cell 7 _ rfl
  have q8 := hB.cell 8 _ rfl
  have C1 : Ch No w (w.alloc (.cells #[.int .i64 k, .int .u64 n, .string s, .slice Ak m ck, .int .i64 o, .slice Bk d cb, .int .u64 f, .slice A l.length cap, .int .i64 cut] 28)) := (Ch.refl No w).alloc _
  by_cases hbig : 2147483647 < l.length
  · have hzz := fun W => zz_calls (.int .i64 k) (.int .u64 n) (.string s) (.slice Ak m ck) (.int .i64 o) (.slice Bk d cb) f A l.length cap cut W false (by show _ = true; exact decide_eq_true (by omega))
    go_enter Tryd.func4, Tryd.ntmps4
    go_wp2_with fail
    refine (hzz _).mono ?_
    rintro e w1 ⟨rfl, hch1⟩
    go_wp2_with fail
    go_ret
    exact ⟨rfl, C1.no_no hch1⟩
  have hzz := fun W => zz_calls (.int .i64 k) (.int .u64 n) (.string s) (.slice Ak m ck) (.int .i64 o) (.slice Bk d cb) f A l.length cap cut W true (by show _ = false; exact decide_eq_false (by omega))
  go_enter Tryd.func4, Tryd.ntmps4
  go_wp2_with fail
  refine (hzz _).mono ?_
  rintro e w1 ⟨rfl, hch1⟩
  have C2 := C1.no_no hch1
  have hB1 := hB.keep0 hch1
  have hT1 := hT.keep0 C2
  clear hzz
  have qa0 := hB1.cell 0 _ rfl
  have qa1 := hB1.cell 1 _ rfl
  have qa2 := hB1.cell 2 _ rfl
  have qa3 := hB1.cell 3 _ rfl
  have qa4 := hB1.cell 4 _ rfl
  have qa5 := hB1.cell 5 _ rfl
  have qa6 := hB1.cell 6 _ rfl
  have qa7 := hB1.cell 7 _ rfl
  have qa8 := hB1.cell 8 _ rfl
  go_wp2_with fail
  refine (awake_ms w1).mono ?_
  rintro e w2 ⟨Aa, ca, rfl, hra, _, hch2⟩
  have C3 := (C2.alloc (.cells #[.int .u8 82, .int .u8 5] 5)).no_no hch2
  have hB2 := (hB1.keep0 ((Ch.refl No w1).alloc (.cells #[.int .u8 82, .int .u8 5] 5))).keep0 hch2
  have r0 := hB2.cell 0 _ rfl
  have r1 := hB2.cell 1 _ rfl
  have r2 := hB2.cell 2 _ rfl
  have r3 := hB2.cell 3 _ rfl
  have r4 := hB2.cell 4 _ rfl
  have r5 := hB2.cell 5 _ rfl
  have r6 := hB2.cell 6 _ rfl
  have r7 := hB2.cell 7 _ rfl
  have r8 := hB2.cell 8 _ rfl
  have hT2 := hT.keep0 C3
  go_wp2_with fail
  refine (data_calls k n o s m d K D (.int .i64 k) (.int .u64 n) (.string s) (.slice Ak m ck) (.int .i64 o) Bk cb f A l cap cut w w2 C3 hT2 ht hf0 hf1 (hr.keep0 C3)).mono ?_
  rintro e w3 ⟨hch3, hdt⟩
  have C4 := C3.no_no hch3
  have hB3 := hB2.keep0 hch3
  have hT3 := hT.keep0 C4
  have s0 := hB3.cell 0 _ rfl
  have s1 := hB3.cell 1 _ rfl
  have s2 := hB3.cell 2 _ rfl
  have s3 := hB3.cell 3 _ rfl
  have s4 := hB3.cell 4 _ rfl
  have s5 := hB3.cell 5 _ rfl
  have s6 := hB3.cell 6 _ rfl
  have s7 := hB3.cell 7 _ rfl
  have s8 := hB3.cell 8 _ rfl
  rcases hdt with ⟨x, y, cc, rfl⟩ | ⟨hask, Ad, cd, dd, hd, hdl, ⟨kk, hk, rfl, hrd, hcd⟩ | ⟨rfl, hrd, hcd⟩⟩
  · go_wp2_with (first | ((with_reducible refine gate (.store 25 (.tmp 11) _) rfl ?_); refine wp_store rfl rfl 25 _ _ rfl w3.heap.size 0 25 VZ (.agg #[.int .i64 k, .int .u64 n, .string s, .slice Ak m ck, .int .i64 o, .slice Bk d cb]) rfl rfl [.int .i64 k, .int .u64 n, .string s, .slice Ak m ck, .int .i64 o, .slice Bk d cb] rfl size_va ht.one (Row.alloc w3 VZ 25) (by simp) ?_; intro w5 hrow5 hch5; have y0 : w5.cell? ⟨w3.heap.size, 0, none⟩ = some (.int .i64 k) := hrow5.cell 0 _ rfl; have y1 : w5.cell? ⟨w3.heap.size, 1, none⟩ = some (.int .u64 n) := hrow5.cell 1 _ rfl))
    go_ret
    exact ⟨rfl, (C4.alloc (.cells VZ.toArray 25)).freshg hch5 C4.size⟩
  · generalize (dd.take kk).length = M at hcd ⊢
    clear hrd hk
    go_wp2_with (first | ((with_reducible refine gate (.store 25 (.tmp 11) _) rfl ?_); refine wp_store rfl rfl 25 _ _ rfl w3.heap.size 0 25 VZ (.agg #[.int .i64 k, .int .u64 n, .string s, .slice Ak m ck, .int .i64 o, .slice Bk d cb]) rfl rfl [.int .i64 k, .int .u64 n, .string s, .slice Ak m ck, .int .i64 o, .slice Bk d cb] rfl size_va ht.one (Row.alloc w3 VZ 25) (by simp) ?_; intro w5 hrow5 hch5; have y0 : w5.cell? ⟨w3.heap.size, 0, none⟩ = some (.int .i64 k) := hrow5.cell 0 _ rfl; have y1 : w5.cell? ⟨w3.heap.size, 1, none⟩ = some (.int .u64 n) := hrow5.cell 1 _ rfl))
    go_ret
    exact ⟨rfl, (C4.alloc (.cells VZ.toArray 25)).freshg hch5 C4.size⟩
  · generalize (dd ++ l).length = M at hcd ⊢
    clear hrd
    go_wp2_with (first | ((with_reducible refine gate (.store 25 (.tmp 11) _) rfl ?_); refine wp_store rfl rfl 25 _ _ rfl w3.heap.size 0 25 VZ (.agg #[.int .i64 k, .int .u64 n, .string s, .slice Ak m ck, .int .i64 o, .slice Bk d cb]) rfl rfl [.int .i64 k, .int .u64 n, .string s, .slice Ak m ck, .int .i64 o, .slice Bk d cb] rfl size_va ht.one (Row.alloc w3 VZ 25) (by simp) ?_; intro w5 hrow5 hch5; have y0 : w5.cell? ⟨w3.heap.size, 0, none⟩ = some (.int .i64 k) := hrow5.cell 0 _ rfl; have y1 : w5.cell? ⟨w3.heap.size, 1, none⟩ = some (.int .u64 n) := hrow5.cell 1 _ rfl))
    go_ret
    exact ⟨rfl, (C4.alloc (.cells VZ.toArray 25)).freshg hch5 C4.size⟩

set_option maxRecDepth 100000 in
set_option maxHeartbeats 4000000 in
theorem lawMs_big (k n o : Int) (s : ByteArray) (m d : Nat) (K : Fin m → Va) (D : Fin d → Va) (Ak Bk : Option Addr) (ck cb : Nat) (f : Int) (A : Option Addr) (l : List Int) (cap : Nat) (cut : Int) (w : World) (hT : Lds w) (ht : VaP w (.mk k n s m K o d D) [.int .i64 k, .int .u64 n, .string s, .slice Ak m ck, .int .i64 o, .slice Bk d cb]) (hf0 : 0 ≤ f) (hf1 : f < 18446744073709551616) (hr : Rd u8 w A l) (hle : l.length ≤ cap) (hb : Byt l) (h2 : 2 ≤ k) (h5 : k ≤ 5) (hbn : 1099511627776 < n) :
    Calls Tryd.prog 4 #[.agg #[.int .i64 k, .int .u64 n, .string s, .slice Ak m ck, .int .i64 o, .slice Bk d cb, .int .u64 f, .slice A l.length cap, .int .i64 cut]] w fun e w' => e = .returned (.bool true) ∧ Ch No w w' := by
  have d2 : decide (2 ≤ k) = true := decide_eq_true (by omega)
  have d5 : decide (k ≤ 5) = true := decide_eq_true (by omega)
  have d6 : decide (6 ≤ k) = false := decide_eq_false (by omega)
  have d9 : decide (k ≤ 9) = true := decide_eq_true (by omega)
  have dn : decide (1099511627776 < n) = true := decide_eq_true (by omega)
  have HKN := hid (And.intro h2 (And.intro h5 hbn))
  clear h2 h5 hbn
  have hB := Row.alloc w [.int .i64 k, .int .u64 n, .string s, .slice Ak m ck, .int .i64 o, .slice Bk d cb, .int .u64 f, .slice A l.length cap, .int .i64 cut] 28
  have q0 := hB.cell 0 _ rfl
  have q1 := hB.cell 1 _ rfl
  have q2 := hB.cell 2 _ rfl
  have q3 := hB.cell 3 _ rfl
  have q4 := hB.cell 4 _ rfl
  have q5 := hB.cell 5 _ rfl
  have q6 := hB.cell 6 _ rfl
  have q7 := hB.cell 7 _ rfl
  have q8 := hB.cell 8 _ rfl
  have C1 : Ch No w (w.alloc (.cells #[.int .i64 k, .int .u64 n, .string s, .slice Ak m ck, .int .i64 o, .slice Bk d cb, .int .u64 f, .slice A l.length cap, .int .i64 cut] 28)) := (Ch.refl No w).alloc _
  by_cases hbig : 2147483647 < l.length
  · have hzz := fun W => zz_calls (.int .i64 k) (.int .u64 n) (.string s) (.slice Ak m ck) (.int .i64 o) (.slice Bk d cb) f A l.length cap cut W false (by show _ = true; exact decide_eq_true (by omega))
    go_enter Tryd.func4, Tryd.ntmps4
    go_wp2_with fail
    refine (hzz _).mono ?_
    rintro e w1 ⟨rfl, hch1⟩
    go_wp2_with fail
    go_ret
    exact ⟨rfl, C1.no_no hch1⟩
  have hzz := fun W => zz_calls (.int .i64 k) (.int .u64 n) (.string s) (.slice Ak m ck) (.int .i64 o) (.slice Bk d cb) f A l.length cap cut W true (by show _ = false; exact decide_eq_false (by omega))
  go_enter Tryd.func4, Tryd.ntmps4
  go_wp2_with fail
  refine (hzz _).mono ?_
  rintro e w1 ⟨rfl, hch1⟩
  have C2 := C1.no_no hch1
  have hB1 := hB.keep0 hch1
  have hT1 := hT.keep0 C2
  clear hzz
  have qa0 := hB1.cell 0 _ rfl
  have qa1 := hB1.cell 1 _ rfl
  have qa2 := hB1.cell 2 _ rfl
  have qa3 := hB1.cell 3 _ rfl
  have qa4 := hB1.cell 4 _ rfl
  have qa5 := hB1.cell 5 _ rfl
  have qa6 := hB1.cell 6 _ rfl
  have qa7 := hB1.cell 7 _ rfl
  have qa8 := hB1.cell 8 _ rfl
  go_wp2_with fail
  refine (awake_ms w1).mono ?_
  rintro e w2 ⟨Aa, ca, rfl, hra, _, hch2⟩
  have C3 := (C2.alloc (.cells #[.int .u8 82, .int .u8 5] 5)).no_no hch2
  have hB2 := (hB1.keep0 ((Ch.refl No w1).alloc (.cells #[.int .u8 82, .int .u8 5] 5))).keep0 hch2
  have r0 := hB2.cell 0 _ rfl
  have r1 := hB2.cell 1 _ rfl
  have r2 := hB2.cell 2 _ rfl
  have r3 := hB2.cell 3 _ rfl
  have r4 := hB2.cell 4 _ rfl
  have r5 := hB2.cell 5 _ rfl
  have r6 := hB2.cell 6 _ rfl
  have r7 := hB2.cell 7 _ rfl
  have r8 := hB2.cell 8 _ rfl
  have hT2 := hT.keep0 C3
  go_wp2_with fail
  refine (data_calls k n o s m d K D (.int .i64 k) (.int .u64 n) (.string s) (.slice Ak m ck) (.int .i64 o) Bk cb f A l cap cut w w2 C3 hT2 ht hf0 hf1 (hr.keep0 C3)).mono ?_
  rintro e w3 ⟨hch3, hdt⟩
  have C4 := C3.no_no hch3
  have hB3 := hB2.keep0 hch3
  have hT3 := hT.keep0 C4
  have s0 := hB3.cell 0 _ rfl
  have s1 := hB3.cell 1 _ rfl
  have s2 := hB3.cell 2 _ rfl
  have s3 := hB3.cell 3 _ rfl
  have s4 := hB3.cell 4 _ rfl
  have s5 := hB3.cell 5 _ rfl
  have s6 := hB3.cell 6 _ rfl
  have s7 := hB3.cell 7 _ rfl
  have s8 := hB3.cell 8 _ rfl
  rcases hdt with ⟨x, y, cc, rfl⟩ | ⟨hask, Ad, cd, dd, hd, hdl, ⟨kk, hk, rfl, hrd, hcd⟩ | ⟨rfl, hrd, hcd⟩⟩
  · go_wp2_with (first | ((with_reducible refine gate (.store 25 (.tmp 11) _) rfl ?_); refine wp_store rfl rfl 25 _ _ rfl w3.heap.size 0 25 VZ (.agg #[.int .i64 k, .int .u64 n, .string s, .slice Ak m ck, .int .i64 o, .slice Bk d cb]) rfl rfl [.int .i64 k, .int .u64 n, .string s, .slice Ak m ck, .int .i64 o, .slice Bk d cb] rfl size_va ht.one (Row.alloc w3 VZ 25) (by simp) ?_; intro w5 hrow5 hch5; have y0 : w5.cell? ⟨w3.heap.size, 0, none⟩ = some (.int .i64 k) := hrow5.cell 0 _ rfl; have y1 : w5.cell? ⟨w3.heap.size, 1, none⟩ = some (.int .u64 n) := hrow5.cell 1 _ rfl))
    go_ret
    exact ⟨rfl, (C4.alloc (.cells VZ.toArray 25)).freshg hch5 C4.size⟩
  · generalize (dd.take kk).length = M at hcd ⊢
    clear hrd hk
    go_wp2_with (first | ((with_reducible refine gate (.store 25 (.tmp 11) _) rfl ?_); refine wp_store rfl rfl 25 _ _ rfl w3.heap.size 0 25 VZ (.agg #[.int .i64 k, .int .u64 n, .string s, .slice Ak m ck, .int .i64 o, .slice Bk d cb]) rfl rfl [.int .i64 k, .int .u64 n, .string s, .slice Ak m ck, .int .i64 o, .slice Bk d cb] rfl size_va ht.one (Row.alloc w3 VZ 25) (by simp) ?_; intro w5 hrow5 hch5; have y0 : w5.cell? ⟨w3.heap.size, 0, none⟩ = some (.int .i64 k) := hrow5.cell 0 _ rfl; have y1 : w5.cell? ⟨w3.heap.size, 1, none⟩ = some (.int .u64 n) := hrow5.cell 1 _ rfl))
    go_ret
    exact ⟨rfl, (C4.alloc (.cells VZ.toArray 25)).freshg hch5 C4.size⟩
  · generalize (dd ++ l).length = M at hcd ⊢
    clear hrd
    go_wp2_with (first | ((with_reducible refine gate (.store 25 (.tmp 11) _) rfl ?_); refine wp_store rfl rfl 25 _ _ rfl w3.heap.size 0 25 VZ (.agg #[.int .i64 k, .int .u64 n, .string s, .slice Ak m ck, .int .i64 o, .slice Bk d cb]) rfl rfl [.int .i64 k, .int .u64 n, .string s, .slice Ak m ck, .int .i64 o, .slice Bk d cb] rfl size_va ht.one (Row.alloc w3 VZ 25) (by simp) ?_; intro w5 hrow5 hch5; have y0 : w5.cell? ⟨w3.heap.size, 0, none⟩ = some (.int .i64 k) := hrow5.cell 0 _ rfl; have y1 : w5.cell? ⟨w3.heap.size, 1, none⟩ = some (.int .u64 n) := hrow5.cell 1 _ rfl))
    go_ret
    exact ⟨rfl, (C4.alloc (.cells VZ.toArray 25)).freshg hch5 C4.size⟩

set_option maxRecDepth 100000 in
set_option maxHeartbeats 4000000 in
theorem lawMs_uns (k n o : Int) (s : ByteArray) (m d : Nat) (K : Fin m → Va) (D : Fin d → Va) (Ak Bk : Option Addr) (ck cb : Nat) (f : Int) (A : Option Addr) (l : List Int) (cap : Nat) (cut : Int) (w : World) (hT : Lds w) (ht : VaP w (.mk k n s m K o d D) [.int .i64 k, .int .u64 n, .string s, .slice Ak m ck, .int .i64 o, .slice Bk d cb]) (hf0 : 0 ≤ f) (hf1 : f < 18446744073709551616) (hr : Rd u8 w A l) (hle : l.length ≤ cap) (hb : Byt l) (h2 : 2 ≤ k) (h5 : k ≤ 5) (hbn : n ≤ 1099511627776) :
    Calls Tryd.prog 4 #[.agg #[.int .i64 k, .int .u64 n, .string s, .slice Ak m ck, .int .i64 o, .slice Bk d cb, .int .u64 f, .slice A l.length cap, .int .i64 cut]] w fun e w' => e = .returned (.bool true) ∧ Ch No w w' := by
  have d2 : decide (2 ≤ k) = true := decide_eq_true (by omega)
  have d5 : decide (k ≤ 5) = true := decide_eq_true (by omega)
  have d6 : decide (6 ≤ k) = false := decide_eq_false (by omega)
  have d9 : decide (k ≤ 9) = true := decide_eq_true (by omega)
  have dn : decide (1099511627776 < n) = false := decide_eq_false (by omega)
  have HKN := hid (And.intro h2 (And.intro h5 hbn))
  clear h2 h5 hbn
  have hB := Row.alloc w [.int .i64 k, .int .u64 n, .string s, .slice Ak m ck, .int .i64 o, .slice Bk d cb, .int .u64 f, .slice A l.length cap, .int .i64 cut] 28
  have q0 := hB.cell 0 _ rfl
  have q1 := hB.cell 1 _ rfl
  have q2 := hB.cell 2 _ rfl
  have q3 := hB.cell 3 _ rfl
  have q4 := hB.cell 4 _ rfl
  have q5 := hB.cell 5 _ rfl
  have q6 := hB.cell 6 _ rfl
  have q7 := hB.cell 7 _ rfl
  have q8 := hB.cell 8 _ rfl
  have C1 : Ch No w (w.alloc (.cells #[.int .i64 k, .int .u64 n, .string s, .slice Ak m ck, .int .i64 o, .slice Bk d cb, .int .u64 f, .slice A l.length cap, .int .i64 cut] 28)) := (Ch.refl No w).alloc _
  by_cases hbig : 2147483647 < l.length
  · have hzz := fun W => zz_calls (.int .i64 k) (.int .u64 n) (.string s) (.slice Ak m ck) (.int .i64 o) (.slice Bk d cb) f A l.length cap cut W false (by show _ = true; exact decide_eq_true (by omega))
    go_enter Tryd.func4, Tryd.ntmps4
    go_wp2_with fail
    refine (hzz _).mono ?_
    rintro e w1 ⟨rfl, hch1⟩
    go_wp2_with fail
    go_ret
    exact ⟨rfl, C1.no_no hch1⟩
  have hzz := fun W => zz_calls (.int .i64 k) (.int .u64 n) (.string s) (.slice Ak m ck) (.int .i64 o) (.slice Bk d cb) f A l.length cap cut W true (by show _ = false; exact decide_eq_false (by omega))
  go_enter Tryd.func4, Tryd.ntmps4
  go_wp2_with fail
  refine (hzz _).mono ?_
  rintro e w1 ⟨rfl, hch1⟩
  have C2 := C1.no_no hch1
  have hB1 := hB.keep0 hch1
  have hT1 := hT.keep0 C2
  clear hzz
  have qa0 := hB1.cell 0 _ rfl
  have qa1 := hB1.cell 1 _ rfl
  have qa2 := hB1.cell 2 _ rfl
  have qa3 := hB1.cell 3 _ rfl
  have qa4 := hB1.cell 4 _ rfl
  have qa5 := hB1.cell 5 _ rfl
  have qa6 := hB1.cell 6 _ rfl
  have qa7 := hB1.cell 7 _ rfl
  have qa8 := hB1.cell 8 _ rfl
  go_wp2_with fail
  refine (awake_ms w1).mono ?_
  rintro e w2 ⟨Aa, ca, rfl, hra, _, hch2⟩
  have C3 := (C2.alloc (.cells #[.int .u8 82, .int .u8 5] 5)).no_no hch2
  have hB2 := (hB1.keep0 ((Ch.refl No w1).alloc (.cells #[.int .u8 82, .int .u8 5] 5))).keep0 hch2
  have r0 := hB2.cell 0 _ rfl
  have r1 := hB2.cell 1 _ rfl
  have r2 := hB2.cell 2 _ rfl
  have r3 := hB2.cell 3 _ rfl
  have r4 := hB2.cell 4 _ rfl
  have r5 := hB2.cell 5 _ rfl
  have r6 := hB2.cell 6 _ rfl
  have r7 := hB2.cell 7 _ rfl
  have r8 := hB2.cell 8 _ rfl
  have hT2 := hT.keep0 C3
  go_wp2_with fail
  refine (data_calls k n o s m d K D (.int .i64 k) (.int .u64 n) (.string s) (.slice Ak m ck) (.int .i64 o) Bk cb f A l cap cut w w2 C3 hT2 ht hf0 hf1 (hr.keep0 C3)).mono ?_
  rintro e w3 ⟨hch3, hdt⟩
  have C4 := C3.no_no hch3
  have hB3 := hB2.keep0 hch3
  have hT3 := hT.keep0 C4
  have s0 := hB3.cell 0 _ rfl
  have s1 := hB3.cell 1 _ rfl
  have s2 := hB3.cell 2 _ rfl
  have s3 := hB3.cell 3 _ rfl
  have s4 := hB3.cell 4 _ rfl
  have s5 := hB3.cell 5 _ rfl
  have s6 := hB3.cell 6 _ rfl
  have s7 := hB3.cell 7 _ rfl
  have s8 := hB3.cell 8 _ rfl
  rcases hdt with ⟨x, y, cc, rfl⟩ | ⟨hask, Ad, cd, dd, hd, hdl, ⟨kk, hk, rfl, hrd, hcd⟩ | ⟨rfl, hrd, hcd⟩⟩
  · go_wp2_with (first | ((with_reducible refine gate (.store 25 (.tmp 11) _) rfl ?_); refine wp_store rfl rfl 25 _ _ rfl w3.heap.size 0 25 VZ (.agg #[.int .i64 k, .int .u64 n, .string s, .slice Ak m ck, .int .i64 o, .slice Bk d cb]) rfl rfl [.int .i64 k, .int .u64 n, .string s, .slice Ak m ck, .int .i64 o, .slice Bk d cb] rfl size_va ht.one (Row.alloc w3 VZ 25) (by simp) ?_; intro w5 hrow5 hch5; have y0 : w5.cell? ⟨w3.heap.size, 0, none⟩ = some (.int .i64 k) := hrow5.cell 0 _ rfl; have y1 : w5.cell? ⟨w3.heap.size, 1, none⟩ = some (.int .u64 n) := hrow5.cell 1 _ rfl))
    go_ret
    exact ⟨rfl, (C4.alloc (.cells VZ.toArray 25)).freshg hch5 C4.size⟩
  · have hno := hid (fun W (hW : Ch No w3 W) => milli_refused Ad cd (dd.take kk) W (hrd.keep0 hW) (by have := hask.bl; simp only [List.length_take, List.length_append]; omega) (hT3.keep0 hW).2 (ms_cut HKN.out.1 HKN.out.2.1 hask.ds hask.fit hd kk hk))
    generalize (dd.take kk).length = M at hno hcd ⊢
    clear hk hrd
    go_wp2_with (first | ((with_reducible refine gate (.store 25 (.tmp 11) _) rfl ?_); refine wp_store rfl rfl 25 _ _ rfl w3.heap.size 0 25 VZ (.agg #[.int .i64 k, .int .u64 n, .string s, .slice Ak m ck, .int .i64 o, .slice Bk d cb]) rfl rfl [.int .i64 k, .int .u64 n, .string s, .slice Ak m ck, .int .i64 o, .slice Bk d cb] rfl size_va ht.one (Row.alloc w3 VZ 25) (by simp) ?_; intro w5 hrow5 hch5; have y0 : w5.cell? ⟨w3.heap.size, 0, none⟩ = some (.int .i64 k) := hrow5.cell 0 _ rfl; have y1 : w5.cell? ⟨w3.heap.size, 1, none⟩ = some (.int .u64 n) := hrow5.cell 1 _ rfl))
    have K5 : Ch No w3 w5 := ((Ch.refl No w3).alloc (.cells VZ.toArray 25)).freshg hch5 (Nat.le_refl _)
    refine (hno.out w5 K5).mono ?_
    rintro e w6 ⟨rfl, hch6⟩
    have z0 := hch6.cell0 y0
    go_wp2_with fail
    go_ret
    exact ⟨rfl, (C4.no_no K5).no_no hch6⟩
  · have hok := hid (fun W (hW : Ch No w3 W) => milli_taken Ad cd (dd ++ l) W (hrd.keep0 hW) (by have := hask.bl; simp only [List.length_take, List.length_append]; omega) ((wr_byt _ 6 hask.fit).2.2 dd hd |>.append hb) dd.length n (fit_parts hask.fit).2.2.2.2.1 HKN.out.2.2 (ms_whole l HKN.out.1 HKN.out.2.1 hask.ds hask.fit hd))
    rw [List.drop_left] at hok
    have hlf := hid (fun (A5 : Option Addr) (c5 : Nat) W (h5 : Rd u8 W A5 l) (h : Ch No w W) => left_calls A5 A c5 cap l W h5 (hr.keep0 h))
    have hbn := HKN.out.2.2
    have hn0 := (fit_parts hask.fit).2.2.2.2.1
    have hw1 : IntKind.i64.wrap n = n := by simp [IntKind.wrap, IntKind.bits, IntKind.signed]; omega
    have hw2 : IntKind.i64.wrap (n * 1000000) = n * 1000000 := by simp [IntKind.wrap, IntKind.bits, IntKind.signed]; omega
    generalize (dd ++ l).length = M at hok hcd ⊢
    clear hrd hbn
    go_wp2_with (first | ((with_reducible refine gate (.store 25 (.tmp 11) _) rfl ?_); refine wp_store rfl rfl 25 _ _ rfl w3.heap.size 0 25 VZ (.agg #[.int .i64 k, .int .u64 n, .string s, .slice Ak m ck, .int .i64 o, .slice Bk d cb]) rfl rfl [.int .i64 k, .int .u64 n, .string s, .slice Ak m ck, .int .i64 o, .slice Bk d cb] rfl size_va ht.one (Row.alloc w3 VZ 25) (by simp) ?_; intro w5 hrow5 hch5; have y0 : w5.cell? ⟨w3.heap.size, 0, none⟩ = some (.int .i64 k) := hrow5.cell 0 _ rfl; have y1 : w5.cell? ⟨w3.heap.size, 1, none⟩ = some (.int .u64 n) := hrow5.cell 1 _ rfl))
    have K5 : Ch No w3 w5 := ((Ch.refl No w3).alloc (.cells VZ.toArray 25)).freshg hch5 (Nat.le_refl _)
    refine (hok.out w5 K5).mono ?_
    rintro e w6 ⟨A6, c6, rfl, hr6, hc6, hch6⟩
    have z0 := hch6.cell0 y0
    have z1 := hch6.cell0 y1
    have C6 := (C4.no_no K5).no_no hch6
    go_wp2_with fail
    refine (hlf.out A6 c6 w6 hr6 C6).mono ?_
    rintro e w7 ⟨rfl, hch7⟩
    go_wp2_with fail
    go_ret
    exact ⟨rfl, C6.no_no hch7⟩

set_option maxRecDepth 100000 in
set_option maxHeartbeats 4000000 in
theorem lawMs_lo (k n o : Int) (s : ByteArray) (m d : Nat) (K : Fin m → Va) (D : Fin d → Va) (Ak Bk : Option Addr) (ck cb : Nat) (f : Int) (A : Option Addr) (l : List Int) (cap : Nat) (cut : Int) (w : World) (hT : Lds w) (ht : VaP w (.mk k n s m K o d D) [.int .i64 k, .int .u64 n, .string s, .slice Ak m ck, .int .i64 o, .slice Bk d cb]) (hf0 : 0 ≤ f) (hf1 : f < 18446744073709551616) (hr : Rd u8 w A l) (hle : l.length ≤ cap) (hb : Byt l) (h2 : k < 2) :
    Calls Tryd.prog 4 #[.agg #[.int .i64 k, .int .u64 n, .string s, .slice Ak m ck, .int .i64 o, .slice Bk d cb, .int .u64 f, .slice A l.length cap, .int .i64 cut]] w fun e w' => e = .returned (.bool true) ∧ Ch No w w' := by
  have d2 : decide (2 ≤ k) = false := decide_eq_false (by omega)
  have d5 : decide (k ≤ 5) = true := decide_eq_true (by omega)
  have d6 : decide (6 ≤ k) = false := decide_eq_false (by omega)
  have d9 : decide (k ≤ 9) = true := decide_eq_true (by omega)
  obtain ⟨bn, dn⟩ : ∃ b, decide ((1099511627776 : Int) < n) = b := ⟨_, rfl⟩
  cases bn
  all_goals
    have HKN := hid (And.intro h2 trivial)
    clear h2
    have hB := Row.alloc w [.int .i64 k, .int .u64 n, .string s, .slice Ak m ck, .int .i64 o, .slice Bk d cb, .int .u64 f, .slice A l.length cap, .int .i64 cut] 28
    have q0 := hB.cell 0 _ rfl
    have q1 := hB.cell 1 _ rfl
    have q2 := hB.cell 2 _ rfl
    have q3 := hB.cell 3 _ rfl
    have q4 := hB.cell 4 _ rfl
    have q5 := hB.cell 5 _ rfl
    have q6 := hB.cell 6 _ rfl
    have q7 := hB.cell 7 _ rfl
    have q8 := hB.cell 8 _ rfl
    have C1 : Ch No w (w.alloc (.cells #[.int .i64 k, .int .u64 n, .string s, .slice Ak m ck, .int .i64 o, .slice Bk d cb, .int .u64 f, .slice A l.length cap, .int .i64 cut] 28)) := (Ch.refl No w).alloc _
    by_cases hbig : 2147483647 < l.length
    · have hzz := fun W => zz_calls (.int .i64 k) (.int .u64 n) (.string s) (.slice Ak m ck) (.int .i64 o) (.slice Bk d cb) f A l.length cap cut W false (by show _ = true; exact decide_eq_true (by omega))
      go_enter Tryd.func4, Tryd.ntmps4
      go_wp2_with fail
      refine (hzz _).mono ?_
      rintro e w1 ⟨rfl, hch1⟩
      go_wp2_with fail
      go_ret
      exact ⟨rfl, C1.no_no hch1⟩
    have hzz := fun W => zz_calls (.int .i64 k) (.int .u64 n) (.string s) (.slice Ak m ck) (.int .i64 o) (.slice Bk d cb) f A l.length cap cut W true (by show _ = false; exact decide_eq_false (by omega))
    go_enter Tryd.func4, Tryd.ntmps4
    go_wp2_with fail
    refine (hzz _).mono ?_
    rintro e w1 ⟨rfl, hch1⟩
    have C2 := C1.no_no hch1
    have hB1 := hB.keep0 hch1
    have hT1 := hT.keep0 C2
    clear hzz
    have qa0 := hB1.cell 0 _ rfl
    have qa1 := hB1.cell 1 _ rfl
    have qa2 := hB1.cell 2 _ rfl
    have qa3 := hB1.cell 3 _ rfl
    have qa4 := hB1.cell 4 _ rfl
    have qa5 := hB1.cell 5 _ rfl
    have qa6 := hB1.cell 6 _ rfl
    have qa7 := hB1.cell 7 _ rfl
    have qa8 := hB1.cell 8 _ rfl
    go_wp2_with fail
    refine (awake_ms w1).mono ?_
    rintro e w2 ⟨Aa, ca, rfl, hra, _, hch2⟩
    have C3 := (C2.alloc (.cells #[.int .u8 82, .int .u8 5] 5)).no_no hch2
    have hB2 := (hB1.keep0 ((Ch.refl No w1).alloc (.cells #[.int .u8 82, .int .u8 5] 5))).keep0 hch2
    have r0 := hB2.cell 0 _ rfl
    have r1 := hB2.cell 1 _ rfl
    have r2 := hB2.cell 2 _ rfl
    have r3 := hB2.cell 3 _ rfl
    have r4 := hB2.cell 4 _ rfl
    have r5 := hB2.cell 5 _ rfl
    have r6 := hB2.cell 6 _ rfl
    have r7 := hB2.cell 7 _ rfl
    have r8 := hB2.cell 8 _ rfl
    have hT2 := hT.keep0 C3
    go_wp2_with fail
    refine (data_calls k n o s m d K D (.int .i64 k) (.int .u64 n) (.string s) (.slice Ak m ck) (.int .i64 o) Bk cb f A l cap cut w w2 C3 hT2 ht hf0 hf1 (hr.keep0 C3)).mono ?_
    rintro e w3 ⟨hch3, hdt⟩
    have C4 := C3.no_no hch3
    have hB3 := hB2.keep0 hch3
    have hT3 := hT.keep0 C4
    have s0 := hB3.cell 0 _ rfl
    have s1 := hB3.cell 1 _ rfl
    have s2 := hB3.cell 2 _ rfl
    have s3 := hB3.cell 3 _ rfl
    have s4 := hB3.cell 4 _ rfl
    have s5 := hB3.cell 5 _ rfl
    have s6 := hB3.cell 6 _ rfl
    have s7 := hB3.cell 7 _ rfl
    have s8 := hB3.cell 8 _ rfl
    rcases hdt with ⟨x, y, cc, rfl⟩ | ⟨hask, Ad, cd, dd, hd, hdl, ⟨kk, hk, rfl, hrd, hcd⟩ | ⟨rfl, hrd, hcd⟩⟩
    · go_wp2_with (first | ((with_reducible refine gate (.store 25 (.tmp 11) _) rfl ?_); refine wp_store rfl rfl 25 _ _ rfl w3.heap.size 0 25 VZ (.agg #[.int .i64 k, .int .u64 n, .string s, .slice Ak m ck, .int .i64 o, .slice Bk d cb]) rfl rfl [.int .i64 k, .int .u64 n, .string s, .slice Ak m ck, .int .i64 o, .slice Bk d cb] rfl size_va ht.one (Row.alloc w3 VZ 25) (by simp) ?_; intro w5 hrow5 hch5; have y0 : w5.cell? ⟨w3.heap.size, 0, none⟩ = some (.int .i64 k) := hrow5.cell 0 _ rfl; have y1 : w5.cell? ⟨w3.heap.size, 1, none⟩ = some (.int .u64 n) := hrow5.cell 1 _ rfl))
      go_ret
      exact ⟨rfl, (C4.alloc (.cells VZ.toArray 25)).freshg hch5 C4.size⟩
    · have hno := hid (fun W (hW : Ch No w3 W) => milli_refused Ad cd (dd.take kk) W (hrd.keep0 hW) (by have := hask.bl; simp only [List.length_take, List.length_append]; omega) (hT3.keep0 hW).2 ((ms_other (.inl HKN.out.1) hask.ds hask.fit hd).1 kk))
      generalize (dd.take kk).length = M at hno hcd ⊢
      clear hk hrd
      go_wp2_with (first | ((with_reducible refine gate (.store 25 (.tmp 11) _) rfl ?_); refine wp_store rfl rfl 25 _ _ rfl w3.heap.size 0 25 VZ (.agg #[.int .i64 k, .int .u64 n, .string s, .slice Ak m ck, .int .i64 o, .slice Bk d cb]) rfl rfl [.int .i64 k, .int .u64 n, .string s, .slice Ak m ck, .int .i64 o, .slice Bk d cb] rfl size_va ht.one (Row.alloc w3 VZ 25) (by simp) ?_; intro w5 hrow5 hch5; have y0 : w5.cell? ⟨w3.heap.size, 0, none⟩ = some (.int .i64 k) := hrow5.cell 0 _ rfl; have y1 : w5.cell? ⟨w3.heap.size, 1, none⟩ = some (.int .u64 n) := hrow5.cell 1 _ rfl))
      have K5 : Ch No w3 w5 := ((Ch.refl No w3).alloc (.cells VZ.toArray 25)).freshg hch5 (Nat.le_refl _)
      refine (hno.out w5 K5).mono ?_
      rintro e w6 ⟨rfl, hch6⟩
      have z0 := hch6.cell0 y0
      go_wp2_with fail
      go_ret
      exact ⟨rfl, (C4.no_no K5).no_no hch6⟩
    · have hno := hid (fun W (hW : Ch No w3 W) => milli_refused Ad cd (dd ++ l) W (hrd.keep0 hW) (by have := hask.bl; simp only [List.length_take, List.length_append]; omega) (hT3.keep0 hW).2 ((ms_other (.inl HKN.out.1) hask.ds hask.fit hd).2 l))
      generalize (dd ++ l).length = M at hno hcd ⊢
      clear hrd
      go_wp2_with (first | ((with_reducible refine gate (.store 25 (.tmp 11) _) rfl ?_); refine wp_store rfl rfl 25 _ _ rfl w3.heap.size 0 25 VZ (.agg #[.int .i64 k, .int .u64 n, .string s, .slice Ak m ck, .int .i64 o, .slice Bk d cb]) rfl rfl [.int .i64 k, .int .u64 n, .string s, .slice Ak m ck, .int .i64 o, .slice Bk d cb] rfl size_va ht.one (Row.alloc w3 VZ 25) (by simp) ?_; intro w5 hrow5 hch5; have y0 : w5.cell? ⟨w3.heap.size, 0, none⟩ = some (.int .i64 k) := hrow5.cell 0 _ rfl; have y1 : w5.cell? ⟨w3.heap.size, 1, none⟩ = some (.int .u64 n) := hrow5.cell 1 _ rfl))
      have K5 : Ch No w3 w5 := ((Ch.refl No w3).alloc (.cells VZ.toArray 25)).freshg hch5 (Nat.le_refl _)
      refine (hno.out w5 K5).mono ?_
      rintro e w6 ⟨rfl, hch6⟩
      have z0 := hch6.cell0 y0
      go_wp2_with fail
      go_ret
      exact ⟨rfl, (C4.no_no K5).no_no hch6⟩

set_option maxRecDepth 100000 in
set_option maxHeartbeats 4000000 in
theorem lawMs_hi (k n o : Int) (s : ByteArray) (m d : Nat) (K : Fin m → Va) (D : Fin d → Va) (Ak Bk : Option Addr) (ck cb : Nat) (f : Int) (A : Option Addr) (l : List Int) (cap : Nat) (cut : Int) (w : World) (hT : Lds w) (ht : VaP w (.mk k n s m K o d D) [.int .i64 k, .int .u64 n, .string s, .slice Ak m ck, .int .i64 o, .slice Bk d cb]) (hf0 : 0 ≤ f) (hf1 : f < 18446744073709551616) (hr : Rd u8 w A l) (hle : l.length ≤ cap) (hb : Byt l) (h9 : 9 < k) :
    Calls Tryd.prog 4 #[.agg #[.int .i64 k, .int .u64 n, .string s, .slice Ak m ck, .int .i64 o, .slice Bk d cb, .int .u64 f, .slice A l.length cap, .int .i64 cut]] w fun e w' => e = .returned (.bool true) ∧ Ch No w w' := by
  have d2 : decide (2 ≤ k) = true := decide_eq_true (by omega)
  have d5 : decide (k ≤ 5) = false := decide_eq_false (by omega)
  have d6 : decide (6 ≤ k) = true := decide_eq_true (by omega)
  have d9 : decide (k ≤ 9) = false := decide_eq_false (by omega)
  obtain ⟨bn, dn⟩ : ∃ b, decide ((1099511627776 : Int) < n) = b := ⟨_, rfl⟩
  cases bn
  all_goals
    have HKN := hid (And.intro h9 trivial)
    clear h9
    have hB := Row.alloc w [.int .i64 k, .int .u64 n, .string s, .slice Ak m ck, .int .i64 o, .slice Bk d cb, .int .u64 f, .slice A l.length cap, .int .i64 cut] 28
    have q0 := hB.cell 0 _ rfl
    have q1 := hB.cell 1 _ rfl
    have q2 := hB.cell 2 _ rfl
    have q3 := hB.cell 3 _ rfl
    have q4 := hB.cell 4 _ rfl
    have q5 := hB.cell 5 _ rfl
    have q6 := hB.cell 6 _ rfl
    have q7 := hB.cell 7 _ rfl
    have q8 := hB.cell 8 _ rfl
    have C1 : Ch No w (w.alloc (.cells #[.int .i64 k, .int .u64 n, .string s, .slice Ak m ck, .int .i64 o, .slice Bk d cb, .int .u64 f, .slice A l.length cap, .int .i64 cut] 28)) := (Ch.refl No w).alloc _
    by_cases hbig : 2147483647 < l.length
    · have hzz := fun W => zz_calls (.int .i64 k) (.int .u64 n) (.string s) (.slice Ak m ck) (.int .i64 o) (.slice Bk d cb) f A l.length cap cut W false (by show _ = true; exact decide_eq_true (by omega))
      go_enter Tryd.func4, Tryd.ntmps4
      go_wp2_with fail
      refine (hzz _).mono ?_
      rintro e w1 ⟨rfl, hch1⟩
      go_wp2_with fail
      go_ret
      exact ⟨rfl, C1.no_no hch1⟩
    have hzz := fun W => zz_calls (.int .i64 k) (.int .u64 n) (.string s) (.slice Ak m ck) (.int .i64 o) (.slice Bk d cb) f A l.length cap cut W true (by show _ = false; exact decide_eq_false (by omega))
    go_enter Tryd.func4, Tryd.ntmps4
    go_wp2_with fail
    refine (hzz _).mono ?_
    rintro e w1 ⟨rfl, hch1⟩
    have C2 := C1.no_no hch1
    have hB1 := hB.keep0 hch1
    have hT1 := hT.keep0 C2
    clear hzz
    have qa0 := hB1.cell 0 _ rfl
    have qa1 := hB1.cell 1 _ rfl
    have qa2 := hB1.cell 2 _ rfl
    have qa3 := hB1.cell 3 _ rfl
    have qa4 := hB1.cell 4 _ rfl
    have qa5 := hB1.cell 5 _ rfl
    have qa6 := hB1.cell 6 _ rfl
    have qa7 := hB1.cell 7 _ rfl
    have qa8 := hB1.cell 8 _ rfl
    go_wp2_with fail
    refine (awake_ms w1).mono ?_
    rintro e w2 ⟨Aa, ca, rfl, hra, _, hch2⟩
    have C3 := (C2.alloc (.cells #[.int .u8 82, .int .u8 5] 5)).no_no hch2
    have hB2 := (hB1.keep0 ((Ch.refl No w1).alloc (.cells #[.int .u8 82, .int .u8 5] 5))).keep0 hch2
    have r0 := hB2.cell 0 _ rfl
    have r1 := hB2.cell 1 _ rfl
    have r2 := hB2.cell 2 _ rfl
    have r3 := hB2.cell 3 _ rfl
    have r4 := hB2.cell 4 _ rfl
    have r5 := hB2.cell 5 _ rfl
    have r6 := hB2.cell 6 _ rfl
    have r7 := hB2.cell 7 _ rfl
    have r8 := hB2.cell 8 _ rfl
    have hT2 := hT.keep0 C3
    go_wp2_with fail
    refine (data_calls k n o s m d K D (.int .i64 k) (.int .u64 n) (.string s) (.slice Ak m ck) (.int .i64 o) Bk cb f A l cap cut w w2 C3 hT2 ht hf0 hf1 (hr.keep0 C3)).mono ?_
    rintro e w3 ⟨hch3, hdt⟩
    have C4 := C3.no_no hch3
    have hB3 := hB2.keep0 hch3
    have hT3 := hT.keep0 C4
    have s0 := hB3.cell 0 _ rfl
    have s1 := hB3.cell 1 _ rfl
    have s2 := hB3.cell 2 _ rfl
    have s3 := hB3.cell 3 _ rfl
    have s4 := hB3.cell 4 _ rfl
    have s5 := hB3.cell 5 _ rfl
    have s6 := hB3.cell 6 _ rfl
    have s7 := hB3.cell 7 _ rfl
    have s8 := hB3.cell 8 _ rfl
    rcases hdt with ⟨x, y, cc, rfl⟩ | ⟨hask, Ad, cd, dd, hd, hdl, ⟨kk, hk, rfl, hrd, hcd⟩ | ⟨rfl, hrd, hcd⟩⟩
    · go_wp2_with (first | ((with_reducible refine gate (.store 25 (.tmp 11) _) rfl ?_); refine wp_store rfl rfl 25 _ _ rfl w3.heap.size 0 25 VZ (.agg #[.int .i64 k, .int .u64 n, .string s, .slice Ak m ck, .int .i64 o, .slice Bk d cb]) rfl rfl [.int .i64 k, .int .u64 n, .string s, .slice Ak m ck, .int .i64 o, .slice Bk d cb] rfl size_va ht.one (Row.alloc w3 VZ 25) (by simp) ?_; intro w5 hrow5 hch5; have y0 : w5.cell? ⟨w3.heap.size, 0, none⟩ = some (.int .i64 k) := hrow5.cell 0 _ rfl; have y1 : w5.cell? ⟨w3.heap.size, 1, none⟩ = some (.int .u64 n) := hrow5.cell 1 _ rfl))
      go_ret
      exact ⟨rfl, (C4.alloc (.cells VZ.toArray 25)).freshg hch5 C4.size⟩
    · have hno := hid (fun W (hW : Ch No w3 W) => milli_refused Ad cd (dd.take kk) W (hrd.keep0 hW) (by have := hask.bl; simp only [List.length_take, List.length_append]; omega) (hT3.keep0 hW).2 ((ms_other (.inr HKN.out.1) hask.ds hask.fit hd).1 kk))
      generalize (dd.take kk).length = M at hno hcd ⊢
      clear hk hrd
      go_wp2_with (first | ((with_reducible refine gate (.store 25 (.tmp 11) _) rfl ?_); refine wp_store rfl rfl 25 _ _ rfl w3.heap.size 0 25 VZ (.agg #[.int .i64 k, .int .u64 n, .string s, .slice Ak m ck, .int .i64 o, .slice Bk d cb]) rfl rfl [.int .i64 k, .int .u64 n, .string s, .slice Ak m ck, .int .i64 o, .slice Bk d cb] rfl size_va ht.one (Row.alloc w3 VZ 25) (by simp) ?_; intro w5 hrow5 hch5; have y0 : w5.cell? ⟨w3.heap.size, 0, none⟩ = some (.int .i64 k) := hrow5.cell 0 _ rfl; have y1 : w5.cell? ⟨w3.heap.size, 1, none⟩ = some (.int .u64 n) := hrow5.cell 1 _ rfl))
      have K5 : Ch No w3 w5 := ((Ch.refl No w3).alloc (.cells VZ.toArray 25)).freshg hch5 (Nat.le_refl _)
      refine (hno.out w5 K5).mono ?_
      rintro e w6 ⟨rfl, hch6⟩
      have z0 := hch6.cell0 y0
      go_wp2_with fail
      go_ret
      exact ⟨rfl, (C4.no_no K5).no_no hch6⟩
    · have hno := hid (fun W (hW : Ch No w3 W) => milli_refused Ad cd (dd ++ l) W (hrd.keep0 hW) (by have := hask.bl; simp only [List.length_take, List.length_append]; omega) (hT3.keep0 hW).2 ((ms_other (.inr HKN.out.1) hask.ds hask.fit hd).2 l))
      generalize (dd ++ l).length = M at hno hcd ⊢
      clear hrd
      go_wp2_with (first | ((with_reducible refine gate (.store 25 (.tmp 11) _) rfl ?_); refine wp_store rfl rfl 25 _ _ rfl w3.heap.size 0 25 VZ (.agg #[.int .i64 k, .int .u64 n, .string s, .slice Ak m ck, .int .i64 o, .slice Bk d cb]) rfl rfl [.int .i64 k, .int .u64 n, .string s, .slice Ak m ck, .int .i64 o, .slice Bk d cb] rfl size_va ht.one (Row.alloc w3 VZ 25) (by simp) ?_; intro w5 hrow5 hch5; have y0 : w5.cell? ⟨w3.heap.size, 0, none⟩ = some (.int .i64 k) := hrow5.cell 0 _ rfl; have y1 : w5.cell? ⟨w3.heap.size, 1, none⟩ = some (.int .u64 n) := hrow5.cell 1 _ rfl))
      have K5 : Ch No w3 w5 := ((Ch.refl No w3).alloc (.cells VZ.toArray 25)).freshg hch5 (Nat.le_refl _)
      refine (hno.out w5 K5).mono ?_
      rintro e w6 ⟨rfl, hch6⟩
      have z0 := hch6.cell0 y0
      go_wp2_with fail
      go_ret
      exact ⟨rfl, (C4.no_no K5).no_no hch6⟩

theorem FnReadMillisecondsLaw (t : Va) (v0 v1 v2 v3 v4 v5 : Value) (f : Int) (A : Option Addr) (l : List Int) (cap : Nat) (cut : Int) (w : World) (hT : Lds w) (ht : VaP w t [v0, v1, v2, v3, v4, v5]) (hf0 : 0 ≤ f) (hf1 : f < 18446744073709551616) (hr : Rd u8 w A l) (hle : l.length ≤ cap) (hb : Byt l) :
    Calls Tryd.prog 4 #[.agg #[v0, v1, v2, v3, v4, v5, .int .u64 f, .slice A l.length cap, .int .i64 cut]] w fun e w' => e = .returned (.bool true) ∧ Ch No w w' := by
  obtain ⟨k, n, s, m, K, o, d, D⟩ := t
  have ht' := ht
  obtain ⟨Ak, ck, Bk, cb, he, _⟩ := ht'
  simp only [List.cons.injEq, and_true] at he
  obtain ⟨rfl, rfl, rfl, rfl, rfl, rfl⟩ := he
  by_cases h2 : k < 2
  · exact lawMs_lo k n o s m d K D Ak Bk ck cb f A l cap cut w hT ht hf0 hf1 hr hle hb h2
  by_cases h5 : k ≤ 5
  · by_cases hn : n ≤ 1099511627776
    · exact lawMs_uns k n o s m d K D Ak Bk ck cb f A l cap cut w hT ht hf0 hf1 hr hle hb (by omega) h5 hn
    · exact lawMs_big k n o s m d K D Ak Bk ck cb f A l cap cut w hT ht hf0 hf1 hr hle hb (by omega) h5 (by omega)
  by_cases h9 : k ≤ 9
  · exact lawMs_sgn k n o s m d K D Ak Bk ck cb f A l cap cut w hT ht hf0 hf1 hr hle hb (by omega) h9
  · exact lawMs_hi k n o s m d K D Ak Bk ck cb f A l cap cut w hT ht hf0 hf1 hr hle hb (by omega)

end Go.Proofs.YtbdgkikipekmlaaDoor
