/- The plain law: what the bytes of a value begin with, and that they are bytes. No program in sight. The walk of the comparison of bytes. The law of AMQP's reader of milliseconds. No condition. -/
import Derived.Test.YtbdgkikipekmlaaDoorPco
import Derived.Test.YtbdgkikipekmlaaDoorRdb
import Derived.Test.YtbdgkikipekmlaaDoorHnd
import Derived.Lib.ConvBytes
import Derived.Laws.BytesArg
namespace Go.Proofs.YtbdgkikipekmlaaDoor
set_option linter.unusedVariables false
set_option linter.unusedSimpArgs false
open Go.RowKit

theorem lenh_byt (cnt : Int) (sz : Nat) : Byt (lenh cnt sz) := by
  unfold lenh
  split
  · exact byt_bg _ _
  · exact fun x hx => by cases hx
theorem LenD.byt {sh lo cnt c : Int} {data b : List Int} (h : LenD sh lo data cnt c b) (hd : Byt data) : Byt b := by
  rcases h with ⟨_, _, _, rfl⟩ | ⟨_, rfl⟩
  · exact ((byt_bg _ _).append (lenh_byt _ _)).append hd
  · exact ((byt_bg _ _).append (lenh_byt _ _)).append hd
theorem byt_bys (s : ByteArray) : Byt (bys s) := fun x hx => by
  obtain ⟨b, _, rfl⟩ := List.mem_map.1 hx
  have := b.toNat_lt
  omega
theorem byt_cat (es : Nat → List Int) : ∀ n, (∀ i, i < n → Byt (es i)) → Byt (cat es n)
  | 0, _ => fun x hx => by cases hx
  | n + 1, h => (byt_cat es n (fun i hi => h i (by omega))).append (h n (by omega))
theorem NumW.byt {k n c : Int} {b : List Int} (h : NumW k n c b) : Byt b := by
  rcases h with ⟨_, rfl⟩ | ⟨_, ⟨_, _, rfl⟩ | ⟨_, _, rfl⟩⟩ | ⟨_, ⟨_, _, rfl⟩ | ⟨_, _, rfl⟩⟩ | ⟨_, _, _, rfl⟩ | ⟨_, _, _, rfl⟩
  all_goals first
  | exact byt_bg _ _
  | exact fun x hx => by cases hx
theorem byt_mod (c : Int) : 0 ≤ c % 256 ∧ c % 256 < 256 := by omega
theorem byt_cons {x : Int} {l : List Int} (h0 : 0 ≤ x ∧ x < 256) (h : Byt l) : Byt (x :: l) := fun y hy => by
  rcases List.mem_cons.1 hy with rfl | hy
  · exact h0
  · exact h y hy
theorem wr_byt : ∀ (t : Va) (lv : Int), FitV t lv → (∀ c b, (Wr t).pc c b → Byt b) ∧ (∀ b, (Wr t).ds b → Byt b) ∧ (∀ b, (Wr t).pv b → Byt b) := by
  intro t
  induction t with
  | mk k n s m K o d D ihK ihD =>
    intro lv hf
    obtain ⟨_, _, _, _, _, _, hd1, hm, hs, hn0, _, hcf, hfd, hfk⟩ := hf
    have hkv : ∀ es : Nat → List Int, (∀ i : Fin m, (Wr (K i)).pv (es i.val)) → Byt (cat es m) := fun es he => byt_cat es m fun i hi => (ihK ⟨i, hi⟩ (lv - 1) (hfk ⟨i, hi⟩)).2.2 _ (he ⟨i, hi⟩)
    have hpc : ∀ c b, (Wr (.mk k n s m K o d D)).pc c b → Byt b := by
      intro c b h
      unfold Wr at h
      dsimp only at h
      rcases h with ⟨_, _, rfl⟩ | ⟨hk1, ⟨_, rfl⟩ | ⟨_, rfl⟩⟩ | ⟨_, _, rfl⟩ | ⟨_, _, rfl⟩ | ⟨_, h⟩ | ⟨_, h⟩ | ⟨_, h⟩ | ⟨_, _, _, h⟩ | ⟨_, ⟨_, _, rfl⟩ | ⟨es, he, h⟩⟩ | ⟨_, es, he, h⟩ | ⟨_, kd, code, es, pre, hp0, hp1, _, _, he, h⟩
      · exact fun x hx => by cases hx
      · exact fun x hx => by cases hx
      · have := hcf.1 hk1
        exact byt_cons (by omega) (fun x hx => by cases hx)
      · exact byt_bys s
      · exact byt_bys s
      · exact h.byt (byt_bys s)
      · exact h.byt (byt_bys s)
      · exact h.byt (byt_bys s)
      · exact h.byt
      · exact fun x hx => by cases hx
      · exact h.byt (hkv es he)
      · exact h.byt (hkv es he)
      · refine h.byt (Byt.append ?_ (byt_cons (byt_mod code) (byt_cat es m fun i hi => (ihK ⟨i, hi⟩ (lv - 1) (hfk ⟨i, hi⟩)).1 _ _ (he ⟨i, hi⟩))))
        by_cases h0 : 0 < m
        · exact (ihK ⟨0, h0⟩ (lv - 1) (hfk ⟨0, h0⟩)).2.1 _ (hp1 h0).2
        · obtain ⟨_, rfl⟩ := hp0 (by omega)
          exact fun x hx => by cases hx
    have hds : ∀ b, (Wr (.mk k n s m K o d D)).ds b → Byt b := by
      intro b h
      unfold Wr at h
      dsimp only at h
      rcases h with ⟨_, rfl⟩ | ⟨h0, x, hx, rfl⟩
      · exact fun x hx => by cases hx
      · exact byt_cons (by omega) ((ihD ⟨0, h0⟩ (lv - 1) (hfd ⟨0, h0⟩).1).2.2 _ hx)
    refine ⟨hpc, hds, fun b h => ?_⟩
    have h' : ∃ pre c x, (Wr (.mk k n s m K o d D)).ds pre ∧ (Wr (.mk k n s m K o d D)).pc c x ∧ b = pre ++ c % 256 :: x := by
      unfold Wr at h ⊢
      exact h
    obtain ⟨pre, c, x, h1, h2, rfl⟩ := h'
    exact (hds _ h1).append (byt_cons (byt_mod c) (hpc _ _ h2))
/-- A value without a descriptor: a code, and what stands behind it. -/
theorem wr_top {t : Va} {d : List Int} (h0 : t.descs = 0) (h : (Wr t).pv d) : ∃ c x, (Wr t).pc c x ∧ d = c % 256 :: x := by
  obtain ⟨k, n, s, m, K, o, dd, D⟩ := t
  have h' : ∃ pre c x, (Wr (.mk k n s m K o dd D)).ds pre ∧ (Wr (.mk k n s m K o dd D)).pc c x ∧ d = pre ++ c % 256 :: x := by
    unfold Wr at h ⊢
    exact h
  obtain ⟨pre, c, x, h1, h2, rfl⟩ := h'
  refine ⟨c, x, h2, ?_⟩
  have hdd : dd = 0 := h0
  unfold Wr at h1
  dsimp only at h1
  rcases h1 with ⟨_, rfl⟩ | ⟨h3, _⟩
  · rfl
  · omega
/-- The codes of a kind. -/
def codL : List (Int × Int) := [(0, 64), (1, 65), (1, 66), (1, 86), (2, 80), (3, 96), (4, 112), (4, 82), (4, 67), (5, 128), (5, 83), (5, 68), (6, 81), (7, 97), (8, 113), (8, 84), (9, 129), (9, 85), (10, 114), (11, 130), (12, 116), (13, 132), (14, 148), (15, 115), (16, 131), (17, 152), (18, 160), (18, 176), (19, 161), (19, 177), (20, 163), (20, 179), (21, 69), (21, 192), (21, 208), (22, 193), (22, 209), (23, 224), (23, 240)]
def Cod (k c : Int) : Prop := (k, c) ∈ codL
theorem Cod.all {p : Int × Int → Bool} (h : codL.all p = true) {k c : Int} (hc : Cod k c) : p (k, c) = true := List.all_eq_true.1 h _ hc
theorem LenD.code {sh lo cnt c : Int} {data b : List Int} (h : LenD sh lo data cnt c b) : c = sh ∨ c = lo := by
  rcases h with ⟨h, _⟩ | ⟨h, _⟩
  · exact .inl h
  · exact .inr h
theorem NumW.code {k n c : Int} {b : List Int} (h : NumW k n c b) : c = cdOf k ∨ (k = 4 ∧ (c = 82 ∨ c = 67)) ∨ (k = 5 ∧ (c = 83 ∨ c = 68)) ∨ (k = 8 ∧ c = 84) ∨ (k = 9 ∧ c = 85) := by
  rcases h with ⟨h, _⟩ | ⟨hk, ⟨h, _⟩ | ⟨h, _⟩⟩ | ⟨hk, ⟨h, _⟩ | ⟨h, _⟩⟩ | ⟨hk, h, _⟩ | ⟨hk, h, _⟩ <;> simp [*]
theorem wr_code {k n o : Int} {s : ByteArray} {m d : Nat} {K : Fin m → Va} {D : Fin d → Va} {c : Int} {b : List Int} (hn0 : 0 ≤ n) (hn : k = 1 → n ≤ 1) (h : (Wr (.mk k n s m K o d D)).pc c b) : Cod k c := by
  unfold Wr at h
  dsimp only at h
  unfold Cod
  rcases h with ⟨rfl, rfl, _⟩ | ⟨rfl, ⟨hc, _⟩ | ⟨rfl, _⟩⟩ | ⟨rfl, rfl, _⟩ | ⟨rfl, rfl, _⟩ | ⟨rfl, h⟩ | ⟨rfl, h⟩ | ⟨rfl, h⟩ | ⟨h2, h16, h14, h⟩ | ⟨rfl, ⟨_, rfl, _⟩ | ⟨es, he, h⟩⟩ | ⟨rfl, es, he, h⟩ | ⟨rfl, kd, code, es, pre, hp0, hp1, _, _, he, h⟩
  · decide
  · have := hn rfl
    obtain rfl | rfl : c = 65 ∨ c = 66 := by omega
    · decide
    · decide
  · decide
  · decide
  · decide
  · rcases h.code with rfl | rfl <;> decide
  · rcases h.code with rfl | rfl <;> decide
  · rcases h.code with rfl | rfl <;> decide
  · have h9 := h.code
    obtain rfl | rfl | rfl | rfl | rfl | rfl | rfl | rfl | rfl | rfl | rfl | rfl | rfl | rfl : k = 2 ∨ k = 3 ∨ k = 4 ∨ k = 5 ∨ k = 6 ∨ k = 7 ∨ k = 8 ∨ k = 9 ∨ k = 10 ∨ k = 11 ∨ k = 12 ∨ k = 13 ∨ k = 15 ∨ k = 16 := by omega
    all_goals
      rcases h9 with rfl | ⟨h7, h8⟩ | ⟨h7, h8⟩ | ⟨h7, h8⟩ | ⟨h7, h8⟩
      all_goals first
      | decide
      | (exfalso; omega)
      | (subst h8; decide)
      | (rcases h8 with rfl | rfl <;> decide)
  · decide
  · rcases h.code with rfl | rfl <;> decide
  · rcases h.code with rfl | rfl <;> decide
  · rcases h.code with rfl | rfl <;> decide
end Go.Proofs.YtbdgkikipekmlaaDoor

namespace Go.Proofs.YtbdgkikipekmlaaDoor
set_option linter.unusedVariables false
set_option linter.unusedSimpArgs false
open Go.RowKit

theorem conv_rd {w : World} {A : Option Addr} {c : Nat} {l : List Int} (h : Rd u8 w A l) : ∀ W : World, Ch No w W → (convert 26 9 (.slice A l.length c)).run Tryd.prog W = .ok (.string (strOfNums l)) W := by
  intro W hW
  have h := h.keep0 hW
  rcases Nat.eq_zero_or_pos l.length with h0 | h0
  · obtain rfl : l = [] := List.eq_nil_of_length_eq_zero h0
    cases A with
    | none => exact run_convert_bytes_nil W 26 5 Tryd.underlying26 Tryd.underlying5 0 c 9 Tryd.underlying9
    | some ad =>
      have hl : (loadCells ad 0).run Tryd.prog W = .ok (([] : List Int).map (Value.int .u8)).toArray W := by simpa using run_loadCells_list (P := Tryd.prog) W ad [] (by simp)
      have h1 := run_convert_bytes_string (P := Tryd.prog) W 26 9 5 (some ad) 0 c Tryd.underlying26 Tryd.underlying5 Tryd.underlying9
      rw [run_bytesToString W ad 0 c [] hl, foldl_push_bytes] at h1
      exact h1
  · obtain ⟨b, o, rfl, hc⟩ := h h0
    exact run_convert_bytes_arg W 26 5 Tryd.underlying26 Tryd.underlying5 b o l.length c l rfl (fun i hi => by
      rw [List.getD_eq_getElem?_getD, List.getElem?_eq_getElem hi]
      exact hc i _ (List.getElem?_eq_getElem hi)) 9 Tryd.underlying9
theorem left_calls (A1 A2 : Option Addr) (c1 c2 : Nat) (l : List Int) (w : World) (h1 : Rd u8 w A1 l) (h2 : Rd u8 w A2 l) :
    Calls Tryd.prog 15 #[.slice A1 l.length c1, .slice A2 l.length c2] w fun e w' => e = .returned (.bool true) ∧ Ch No w w' := by
  have hcon0 : ∀ nq, (convert 26 9 (.slice A1 l.length c1)).run Tryd.prog (w.drewN nq) = .ok (.string (strOfNums l)) (w.drewN nq) := fun nq => conv_rd h1 _ ((Ch.refl _ _).drewN _)
  have hcon1 : ∀ nq, (convert 26 9 (.slice A2 l.length c2)).run Tryd.prog (w.drewN nq) = .ok (.string (strOfNums l)) (w.drewN nq) := fun nq => conv_rd h2 _ ((Ch.refl _ _).drewN _)
  have hcon2 : (convert 26 9 (.slice A1 l.length c1)).run Tryd.prog w = .ok (.string (strOfNums l)) w := conv_rd h1 _ (Ch.refl _ _)
  have hcon3 : (convert 26 9 (.slice A2 l.length c2)).run Tryd.prog w = .ok (.string (strOfNums l)) w := conv_rd h2 _ (Ch.refl _ _)
  generalize l.length = m at hcon0 hcon1 hcon2 hcon3 ⊢
  go_enter Tryd.func15, Tryd.ntmps15
  go_wp2_with (go_quiet (fail))
  go_ret
  exact ⟨by simp, by repeat (first | exact Ch.refl _ _ | apply Ch.drewN | apply Ch.drew)⟩
end Go.Proofs.YtbdgkikipekmlaaDoor

namespace Go.Proofs.YtbdgkikipekmlaaDoor
set_option linter.unusedVariables false
set_option linter.unusedSimpArgs false
open Go.RowKit

theorem eof_ne {w : World} {p : Nat} (h : Eof w) (hp : w.heap.size ≤ p) : 4 ≠ p := by
  obtain ⟨T, v, hv⟩ := h
  have h9 := World.block_lt_of_cell? _ _ hv
  simp only at h9
  omega
/-- Bytes that are no integer without a sign. -/
def RefMs (l : List Int) : Prop := l = [] ∨ ∃ b r, l = b :: r ∧ ((b ≠ 67 ∧ b ≠ 68 ∧ b ≠ 80 ∧ b ≠ 82 ∧ b ≠ 83 ∧ b ≠ 96 ∧ b ≠ 112 ∧ b ≠ 128) ∨ ((b = 80 ∨ b = 82 ∨ b = 83) ∧ r.length < 1) ∨ (b = 96 ∧ r.length < 2) ∨ (b = 112 ∧ r.length < 4) ∨ (b = 128 ∧ r.length < 8))
theorem refMs_calls {p : Nat} {A : Option Addr} {c : Nat} {l : List Int} {w : World} (h : RbS p A c l 0 w) (hE : Eof w) (hp : 4 ≠ p) (hl : RefMs l) :
    Calls Tryd.prog 71 #[.pointer (some ⟨p, 0, none⟩)] w (RuNo p w) := by
  rcases hl with rfl | ⟨b, r, rfl, hb⟩
  · exact runum_end h (by simp) hE
  · have h0 : (0 : Nat) < (b :: r).length := by simp
    rcases hb with hb | ⟨rfl | rfl | rfl, hb⟩ | ⟨rfl, hb⟩ | ⟨rfl, hb⟩ | ⟨rfl, hb⟩
    · exact runum_other h h0 hb
    · exact runum_80_no h h0 (by simp; omega) rfl hE hp
    · exact runum_82_no h h0 (by simp; omega) rfl hE hp
    · exact runum_83_no h h0 (by simp; omega) rfl hE hp
    · exact runum_96_no h h0 (by simp; omega) rfl hE hp
    · exact runum_112_no h h0 (by simp; omega) rfl hE hp
    · exact runum_128_no h h0 (by simp; omega) rfl hE hp
theorem milli_refused (A0 : Option Addr) (c0 : Nat) (l : List Int) (w : World) (hr0 : Rd u8 w A0 l) (hl : l.length ≤ 1099511627776) (hE : Eof w) (h : RefMs l) :
    Calls Tryd.prog 16 #[.slice A0 l.length c0] w (BhNo (.int .i64 0) w) :=
  implMilli_no A0 c0 l w hr0 hl fun p A c W hp hW hR => refMs_calls hR (hE.keep0 hW) (eof_ne hE hp) h
/-- Bytes that are one, and of what length it is. -/
def OkMs (l : List Int) (j : Nat) (z : Int) : Prop := ∃ b r k, l = b :: r ∧ ((b = 67 ∨ b = 68) ∧ k = 0 ∨ (b = 80 ∨ b = 82 ∨ b = 83) ∧ k = 1 ∨ b = 96 ∧ k = 2 ∨ b = 112 ∧ k = 4 ∨ b = 128 ∧ k = 8) ∧ k ≤ r.length ∧ beN (r.take k) = z ∧ j = 1 + k
theorem okMs_calls {p : Nat} {A : Option Addr} {c : Nat} {l : List Int} {j : Nat} {z : Int} {w : World} (h : RbS p A c l 0 w) (hby : Byt l) (hl : OkMs l j z) :
    Calls Tryd.prog 71 #[.pointer (some ⟨p, 0, none⟩)] w (RuYes p A c l j z w) := by
  obtain ⟨b, r, k, rfl, hk, hkr, rfl, rfl⟩ := hl
  rcases hk with ⟨rfl | rfl, rfl⟩ | ⟨rfl | rfl | rfl, rfl⟩ | ⟨rfl, rfl⟩ | ⟨rfl, rfl⟩ | ⟨rfl, rfl⟩
  · exact runum_67_ok h (by simp; try omega) rfl hby
  · exact runum_68_ok h (by simp; try omega) rfl hby
  · exact runum_80_ok h (by simp; try omega) rfl hby
  · exact runum_82_ok h (by simp; try omega) rfl hby
  · exact runum_83_ok h (by simp; try omega) rfl hby
  · exact runum_96_ok h (by simp; try omega) rfl hby
  · exact runum_112_ok h (by simp; try omega) rfl hby
  · exact runum_128_ok h (by simp; try omega) rfl hby

theorem milli_taken (A0 : Option Addr) (c0 : Nat) (l : List Int) (w : World) (hr0 : Rd u8 w A0 l) (hl : l.length ≤ 1099511627776) (hby : Byt l) (j : Nat) (z : Int) (h0 : 0 ≤ z) (h1 : z ≤ 1099511627776) (h : OkMs l j z) :
    Calls Tryd.prog 16 #[.slice A0 l.length c0] w (RvT (.int .i64 (z * 1000000)) (l.drop j) w) :=
  implMilli_ok A0 c0 l w hr0 hl j z h0 h1 fun p A c W hR => okMs_calls hR hby h
theorem beN_bgr1 (u : Int) (h0 : 0 ≤ u) (h1 : u < 256) : beN (bg u 1) = u := by
  simp [bg, beN, List.range, List.range.loop]
  all_goals omega
theorem beN_bgr2 (u : Int) (h0 : 0 ≤ u) (h1 : u < 65536) : beN (bg u 2) = u := by
  simp [bg, beN, List.range, List.range.loop]
  all_goals omega
theorem beN_bgr4 (u : Int) (h0 : 0 ≤ u) (h1 : u < 4294967296) : beN (bg u 4) = u := by
  simp [bg, beN, List.range, List.range.loop]
  all_goals omega
theorem beN_bgr8 (u : Int) (h0 : 0 ≤ u) (h1 : u < 18446744073709551616) : beN (bg u 8) = u := by
  simp [bg, beN, List.range, List.range.loop]
  all_goals omega

/-! ### What is written of a value -/
theorem wr_num {k n o : Int} {s : ByteArray} {m d : Nat} {K : Fin m → Va} {D : Fin d → Va} {c : Int} {b : List Int} (hk0 : 2 ≤ k) (hk1 : k ≤ 16) (hk2 : k ≠ 14) (h : (Wr (.mk k n s m K o d D)).pc c b) : NumW k n c b := by
  unfold Wr at h
  dsimp only at h
  rcases h with ⟨e, _⟩ | ⟨e, _⟩ | ⟨e, _⟩ | ⟨e, _⟩ | ⟨e, _⟩ | ⟨e, _⟩ | ⟨e, _⟩ | ⟨_, _, _, h⟩ | ⟨e, _⟩ | ⟨e, _⟩ | ⟨e, _⟩
  all_goals first
  | exact h
  | (exfalso; omega)
theorem fit_parts {k n o : Int} {s : ByteArray} {m d : Nat} {K : Fin m → Va} {D : Fin d → Va} {lv : Int} (h : FitV (.mk k n s m K o d D) lv) : 0 ≤ k ∧ k < 24 ∧ m ≤ 1000 ∧ s.size ≤ 131072 ∧ 0 ≤ n ∧ n < 18446744073709551616 ∧ ContF k n s o K :=
  ⟨h.2.1, h.2.2.1, h.2.2.2.2.2.2.2.1, h.2.2.2.2.2.2.2.2.1, h.2.2.2.2.2.2.2.2.2.1, h.2.2.2.2.2.2.2.2.2.2.1, h.2.2.2.2.2.2.2.2.2.2.2.1⟩
/-- An integer without a sign is one of the forms that are read; what is cut off it is not. -/
theorem uns_form {k n o : Int} {s : ByteArray} {m d : Nat} {K : Fin m → Va} {D : Fin d → Va} {dd : List Int} (hk0 : 2 ≤ k) (hk1 : k ≤ 5) (hd0 : d = 0) (hf : FitV (.mk k n s m K o d D) 6) (h : (Wr (.mk k n s m K o d D)).pv dd) :
    ∃ c k', dd = c :: bg n k' ∧ ((c = 67 ∨ c = 68) ∧ k' = 0 ∨ (c = 80 ∨ c = 82 ∨ c = 83) ∧ k' = 1 ∨ c = 96 ∧ k' = 2 ∨ c = 112 ∧ k' = 4 ∨ c = 128 ∧ k' = 8) ∧ beN (bg n k') = n := by
  obtain ⟨c, x, hpc, rfl⟩ := wr_top (t := .mk k n s m K o d D) hd0 h
  have hnw := wr_num hk0 (by omega) (by omega) hpc
  obtain ⟨_, _, _, _, hn0, hn1, hcf⟩ := fit_parts hf
  rcases hnw with ⟨rfl, rfl⟩ | ⟨rfl, ⟨rfl, h2, rfl⟩ | ⟨rfl, h2, rfl⟩⟩ | ⟨rfl, ⟨rfl, h2, rfl⟩ | ⟨rfl, h2, rfl⟩⟩ | ⟨h2, _⟩ | ⟨h2, _⟩
  · obtain rfl | rfl | rfl | rfl : k = 2 ∨ k = 3 ∨ k = 4 ∨ k = 5 := by omega
    · exact ⟨80, 1, rfl, by omega, beN_bgr1 n hn0 (hcf.2.1 rfl)⟩
    · exact ⟨96, 2, rfl, by omega, beN_bgr2 n hn0 (hcf.2.2.1 rfl)⟩
    · exact ⟨112, 4, rfl, by omega, beN_bgr4 n hn0 (hcf.2.2.2.1 (.inl rfl))⟩
    · exact ⟨128, 8, rfl, by omega, beN_bgr8 n hn0 hn1⟩
  · exact ⟨82, 1, rfl, by omega, beN_bgr1 n hn0 h2⟩
  · exact ⟨67, 0, rfl, by omega, by rw [h2]; rfl⟩
  · exact ⟨83, 1, rfl, by omega, beN_bgr1 n hn0 h2⟩
  · exact ⟨68, 0, rfl, by omega, by rw [h2]; rfl⟩
  · omega
  · omega
end Go.Proofs.YtbdgkikipekmlaaDoor
