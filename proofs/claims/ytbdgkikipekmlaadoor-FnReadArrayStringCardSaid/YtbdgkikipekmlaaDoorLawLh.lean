/- The law of AMQP's reader of the heads of lists. No condition. -/
import Derived.Test.YtbdgkikipekmlaaDoorLws
namespace Go.Proofs.YtbdgkikipekmlaaDoor
set_option linter.unusedVariables false
set_option linter.unusedSimpArgs false
open Go.RowKit

/-- A value's bytes are never none. -/
theorem wr_some {t : Va} {b : List Int} (h : (Wr t).pv b) : 1 ≤ b.length := by
  obtain ⟨k, n, s, m, K, o, dd, D⟩ := t
  have h' : ∃ pre c x, (Wr (.mk k n s m K o dd D)).ds pre ∧ (Wr (.mk k n s m K o dd D)).pc c x ∧ b = pre ++ c % 256 :: x := by
    unfold Wr at h ⊢
    exact h
  obtain ⟨pre, c, x, _, _, rfl⟩ := h'
  rw [List.length_append, List.length_cons]
  omega
theorem cat_ge (es : Nat → List Int) : ∀ n, (∀ i, i < n → 1 ≤ (es i).length) → n ≤ (cat es n).length
  | 0, _ => Nat.zero_le _
  | n + 1, h => by
    show n + 1 ≤ (cat es n ++ es n).length
    rw [List.length_append]
    have := cat_ge es n (fun i hi => h i (by omega))
    have := h n (by omega)
    omega
theorem wr_list {n o : Int} {s : ByteArray} {m d : Nat} {K : Fin m → Va} {D : Fin d → Va} {c : Int} {b : List Int} (h : (Wr (.mk 21 n s m K o d D)).pc c b) : (m = 0 ∧ c = 69 ∧ b = []) ∨ ∃ es : Nat → List Int, (∀ i : Fin m, (Wr (K i)).pv (es i.val)) ∧ LenD 192 208 (cat es m) m c b := by
  unfold Wr at h
  dsimp only at h
  rcases h with ⟨e, _⟩ | ⟨e, _⟩ | ⟨e, _⟩ | ⟨e, _⟩ | ⟨e, _⟩ | ⟨e, _⟩ | ⟨e, _⟩ | ⟨_, e, _⟩ | ⟨_, h⟩ | ⟨e, _⟩ | ⟨e, _⟩
  all_goals first
  | exact h
  | (exfalso; omega)
theorem lenh_nat (m sz : Nat) : lenh (m : Int) sz = bg m sz := by
  unfold lenh
  rw [if_pos (by omega)]
/-- What is counted, behind its length: the bytes one by one. -/
theorem LenD.nat {sh lo c : Int} {data b : List Int} {m : Nat} (h : LenD sh lo data m c b) (hm : m ≤ 1000) (hd : data.length ≤ 262200000) :
    (c = sh ∧ m ≤ 255 ∧ data.length + 1 ≤ 255 ∧ b = ((data.length + 1 : Nat) : Int) :: (m : Int) :: data) ∨ (c = lo ∧ b = bg ((data.length + 4 : Nat) : Int) 4 ++ bg (m : Int) 4 ++ data) := by
  rcases h with ⟨h1, h2, h3, h4⟩ | ⟨h1, h2⟩
  · rw [lenh_nat, bg_len] at h3 h4
    refine .inl ⟨h1, by omega, h3, ?_⟩
    rw [h4]
    have e1 : bg ((data.length + 1 : Nat) : Int) 1 = [((data.length + 1 : Nat) : Int)] := by
      simp [bg, List.range, List.range.loop]
      omega
    have e2 : bg (m : Int) 1 = [(m : Int)] := by
      simp [bg, List.range, List.range.loop]
      omega
    rw [e1, e2]
    rfl
  · rw [lenh_nat, bg_len] at h2
    exact .inr ⟨h1, h2⟩
theorem beN_bg4 (u : Int) (h0 : 0 ≤ u) (h1 : u < 4294967296) : beN (bg u 4) = u := beN_bgr4 u h0 h1
theorem headLen_calls (c j : Int) (w : World) (h : (c = 69 ∧ j = 1) ∨ (c = 192 ∧ j = 3) ∨ (c = 208 ∧ j = 9)) : Calls Tryd.prog 18 #[.int .u8 c] w fun e w' => e = .returned (.int .i64 j) ∧ Ch No w w' := by
  rcases h with ⟨rfl, rfl⟩ | ⟨rfl, rfl⟩ | ⟨rfl, rfl⟩
  all_goals
    go_enter Tryd.func18, Tryd.ntmps18
    go_wp2_with fail
    go_ret
    exact ⟨rfl, Ch.refl _ _⟩
/-- A list is one of the forms whose head is read. -/
theorem lh_form {n o : Int} {s : ByteArray} {m d : Nat} {K : Fin m → Va} {D : Fin d → Va} {dd : List Int} (hd0 : d = 0) (hf : FitV (.mk 21 n s m K o d D) 6) (hcn : cntV (.mk 21 n s m K o d D) ≤ 500) (h : (Wr (.mk 21 n s m K o d D)).pv dd) :
    ∃ (c : Int) (j : Nat), (∃ x, dd = c :: x) ∧ ((c = 69 ∧ j = 1) ∨ (c = 192 ∧ j = 3) ∨ (c = 208 ∧ j = 9)) ∧ j ≤ dd.length ∧ ∀ (bh : List Int) (p : Nat) (A : Option Addr) (cc : Nat) (W : World), bh.length ≤ 100 → RbS p A cc (dd ++ bh) 0 W → Byt (dd ++ bh) →
      Calls Tryd.prog 72 #[.pointer (some ⟨p, 0, none⟩)] W (HdYes p A cc (dd ++ bh) j m W) := by
  obtain ⟨c, x, hpc, rfl⟩ := wr_top (t := .mk 21 n s m K o d D) hd0 h
  obtain ⟨_, _, hm, _, hn0, hn1, hcf⟩ := fit_parts hf
  have hfk := hf.2.2.2.2.2.2.2.2.2.2.2.2.2
  rcases wr_list hpc with ⟨rfl, rfl, rfl⟩ | ⟨es, hes, hl⟩
  · exact ⟨69, 1, ⟨[], rfl⟩, .inl ⟨rfl, rfl⟩, by simp, fun bh p A cc W hbh hR hby => rlist_nil hR (by simp) rfl⟩
  · have hge : m ≤ (cat es m).length := cat_ge es m fun i hi => wr_some (hes ⟨i, hi⟩)
    have hle : (cat es m).length ≤ 65600000 := by
      have h9 := cat_le es (fun i => if h : i < m then cntV (K ⟨i, h⟩) * 131100 else 0) m (fun i hi => by simp only [dif_pos hi]; exact (wr_len (K ⟨i, hi⟩) 5 (hfk ⟨i, hi⟩)).2.2 _ (hes ⟨i, hi⟩))
      rw [psum_mul K 131100 m (Nat.le_refl _)] at h9
      have h8 := cnt_mk 21 n s m K o d D
      omega
    obtain ⟨D', hD'⟩ : ∃ D', cat es m = D' := ⟨_, rfl⟩
    rw [hD'] at hl hge hle
    rcases hl.nat hm (by omega) with ⟨rfl, h1, h2, rfl⟩ | ⟨rfl, rfl⟩
    · refine ⟨192, 3, ⟨_, rfl⟩, .inr (.inl ⟨rfl, rfl⟩), by simp, fun bh p A cc W hbh hR hby => ?_⟩
      have h9 := rlist_192 hR (by simp) rfl hby ((D'.length + 1 : Nat) : Int) (m : Int) rfl rfl
      simp only [show ((0 : Nat) : Int) + 2 + ((D'.length + 1 : Nat) : Int) ≤ ((192 % 256 :: ((D'.length + 1 : Nat) : Int) :: (m : Int) :: D' ++ bh).length : Nat) ∧ (m : Int) + 1 ≤ ((D'.length + 1 : Nat) : Int) from ⟨by simp only [List.length_append, List.length_cons]; omega, by omega⟩, and_self, if_true] at h9
      exact h9
    · have e4 : ∀ u : Int, (bg u 4).length = 4 := fun u => bg_len u 4
      refine ⟨208, 9, ⟨_, rfl⟩, .inr (.inr ⟨rfl, rfl⟩), by simp [e4]; omega, fun bh p A cc W hbh hR hby => ?_⟩
      have b1 : beN (((208 % 256 :: (bg ((D'.length + 4 : Nat) : Int) 4 ++ bg (m : Int) 4 ++ D') ++ bh).drop (0 + 1)).take 4) = ((D'.length + 4 : Nat) : Int) := by
        simp only [List.cons_append, Nat.zero_add, List.drop_succ_cons, List.drop_zero, List.append_assoc]
        rw [List.take_append_of_le_length (by rw [e4]; omega), List.take_of_length_le (by rw [e4]; omega)]
        exact beN_bg4 _ (by omega) (by omega)
      have b2 : beN (((208 % 256 :: (bg ((D'.length + 4 : Nat) : Int) 4 ++ bg (m : Int) 4 ++ D') ++ bh).drop (0 + 5)).take 4) = (m : Int) := by
        simp only [List.cons_append, Nat.zero_add, List.drop_succ_cons, List.append_assoc]
        rw [List.drop_append_of_le_length (by rw [e4]; omega), List.drop_of_length_le (by rw [e4]; omega), List.nil_append, List.take_append_of_le_length (by rw [e4]; omega), List.take_of_length_le (by rw [e4]; omega)]
        exact beN_bg4 _ (by omega) (by omega)
      have h9 := rlist_208 hR (by simp [e4]; omega) rfl hby ((D'.length + 4 : Nat) : Int) (m : Int) b1 b2
      simp only [show ((0 : Nat) : Int) + 5 + ((D'.length + 4 : Nat) : Int) ≤ ((208 % 256 :: (bg ((D'.length + 4 : Nat) : Int) 4 ++ bg (m : Int) 4 ++ D') ++ bh).length : Nat) ∧ (m : Int) ≤ 65536 ∧ (m : Int) + 4 ≤ ((D'.length + 4 : Nat) : Int) from ⟨by simp only [List.length_append, List.length_cons, e4]; omega, by omega, by omega⟩, and_self, if_true] at h9
      exact h9
theorem lh_other {k n o : Int} {s : ByteArray} {m d : Nat} {K : Fin m → Va} {D : Fin d → Va} {dd : List Int} (hk : k ≠ 21) (hd0 : d = 0) (hf : FitV (.mk k n s m K o d D) 6) (h : (Wr (.mk k n s m K o d D)).pv dd) : ∃ c x, dd = c :: x ∧ c ≠ 69 ∧ c ≠ 192 ∧ c ≠ 208 := by
  obtain ⟨c, x, hpc, rfl⟩ := wr_top (t := .mk k n s m K o d D) hd0 h
  obtain ⟨_, _, _, _, hn0, hn1, hcf⟩ := fit_parts hf
  have hc := wr_code hn0 hcf.1 hpc
  have h9 := hc.all (p := fun q => decide (q.1 = 21) || decide (q.2 % 256 ≠ 69 ∧ q.2 % 256 ≠ 192 ∧ q.2 % 256 ≠ 208)) (by decide)
  simp only [Bool.or_eq_true, decide_eq_true_eq] at h9
  rcases h9 with h9 | h9
  · exact absurd h9 hk
  · exact ⟨_, x, rfl, h9⟩
theorem awake_lh (w : World) : Calls Tryd.prog 17 #[.slice (some ⟨w.heap.size, 0, none⟩) 4 4] (w.alloc (.cells #[.int .u8 192, .int .u8 2, .int .u8 1, .int .u8 64] 5)) (RvT (.int .i64 1) [64] (w.alloc (.cells #[.int .u8 192, .int .u8 2, .int .u8 1, .int .u8 64] 5))) :=
  implListHead_ok (some ⟨w.heap.size, 0, none⟩) 4 [192, 2, 1, 64] _ (Ow.lit 5 u8 w [192, 2, 1, 64] (by simp [maxLen])).rd (by simp) 3 1 fun p A c W hR => by
    have h9 := rlist_192 hR (by simp) rfl (fun x hx => by simp at hx; omega) 2 1 rfl rfl
    simpa using h9
end Go.Proofs.YtbdgkikipekmlaaDoor
