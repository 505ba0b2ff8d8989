/- The plain law of AMQP's bytes, and what the reader does with them. No condition. -/
import Derived.Test.YtbdgkikipekmlaaDoorSmT
import Derived.Test.YtbdgkikipekmlaaDoorLawLh
import Derived.Test.YtbdgkikipekmlaaDoorRdL
import Derived.Test.YtbdgkikipekmlaaDoorWrB
namespace Go.Proofs.YtbdgkikipekmlaaDoor
set_option linter.unusedVariables false
set_option linter.unusedSimpArgs false
open Go.RowKit

theorem bg_1 (n : Nat) (h : n < 256) : bg (n : Int) 1 = [(n : Int)] := by
  simp [bg, List.range, List.range.loop]
  omega
/-- Bytes that are no binary. -/
def RefBn (l : List Int) : Prop := l = [] ∨ ∃ b r, l = b :: r ∧ ((b ≠ 160 ∧ b ≠ 176) ∨ (b = 160 ∧ (r = [] ∨ ∃ (n : Nat) (r' : List Int), r = (n : Int) :: r' ∧ r'.length < n)) ∨ (b = 176 ∧ (r.length < 4 ∨ ∃ n : Nat, beN (r.take 4) = n ∧ r.length < 4 + n)))
theorem refBn_calls {p : Nat} {A : Option Addr} {c : Nat} {l : List Int} {w : World} (h : RbS p A c l 0 w) (hby : Byt l) (hE : Eof w) (hp : 4 ≠ p) (hl : RefBn l) :
    Calls Tryd.prog 77 #[.pointer (some ⟨p, 0, none⟩)] w (BnNo p w) := by
  rcases hl with rfl | ⟨b, r, rfl, hb⟩
  · exact rbin_end h (by simp) hE
  · have h0 : (0 : Nat) < (b :: r).length := by simp
    rcases hb with hb | ⟨rfl, rfl | ⟨n, r', rfl, hn⟩⟩ | ⟨rfl, hb | ⟨n, hb, hn⟩⟩
    · exact rbin_other h h0 hb
    · exact rbin_160_cut h (by simp) rfl hE hp
    · exact rbin_160_no h (by simp) rfl hby n (by simp [beN]) (by simp; omega)
    · exact rbin_176_cut h h0 (by simp; omega) rfl
    · by_cases h4 : r.length < 4
      · exact rbin_176_cut h h0 (by simp; omega) rfl
      · exact rbin_176_no h (by simp; omega) rfl hby n (by simpa using hb) (by simp; omega)
theorem bin_refused (A0 : Option Addr) (c0 : Nat) (l : List Int) (w : World) (hr0 : Rd u8 w A0 l) (hl : l.length ≤ 1099511627776) (hby : Byt l) (hE : Eof w) (h : RefBn l) :
    Calls Tryd.prog 20 #[.slice A0 l.length c0] w (BhNo (.slice none 0 0) w) :=
  implBinary_no A0 c0 l w hr0 hl fun p A c W hp hW hR => refBn_calls hR hby (hE.keep0 hW) (eof_ne hE hp) h
/-- A binary: its two forms. -/
def BinW (es d : List Int) : Prop := (es.length < 256 ∧ d = 160 :: (es.length : Int) :: es) ∨ d = 176 :: (bg (es.length : Int) 4 ++ es)
theorem bin_read {p : Nat} {A : Option Addr} {c : Nat} {es d bh : List Int} {w : World} (hd : BinW es d) (hes : es.length ≤ 131072) (h : RbS p A c (d ++ bh) 0 w) (hby : Byt (d ++ bh)) :
    Calls Tryd.prog 77 #[.pointer (some ⟨p, 0, none⟩)] w (BnYes p A c (d ++ bh) d.length es w) := by
  rcases hd with ⟨h1, rfl⟩ | rfl
  · by_cases hz : es.length = 0
    · obtain rfl := List.eq_nil_of_length_eq_zero hz
      exact rbin_160_nil h (by simp) rfl hby 0 (by simp [beN]) rfl
    · have h9 := rbin_160_ok h (by simp) rfl hby es.length (by simp [beN]) (by omega) (by simp only [List.cons_append, List.length_cons, List.length_append]; omega)
      simp only [List.cons_append, Nat.zero_add, List.drop_succ_cons, List.drop_zero, List.take_left] at h9
      rw [show 2 + es.length = ((160 : Int) :: (es.length : Int) :: es).length from by simp only [List.length_cons]; omega] at h9
      exact h9
  · have e4 : ∀ u : Int, (bg u 4).length = 4 := fun u => bg_len u 4
    have b1 : beN (((176 :: (bg (es.length : Int) 4 ++ es) ++ bh).drop (0 + 1)).take 4) = (es.length : Int) := by
      simp only [List.cons_append, Nat.zero_add, List.drop_succ_cons, List.drop_zero, List.append_assoc]
      rw [List.take_append_of_le_length (by rw [e4]; omega), List.take_of_length_le (by rw [e4]; omega)]
      exact beN_bg4 _ (by omega) (by omega)
    by_cases hz : es.length = 0
    · obtain rfl := List.eq_nil_of_length_eq_zero hz
      have h9 := rbin_176_nil h (by simp [e4]) rfl hby 0 b1 rfl
      simpa [e4] using h9
    · have h9 := rbin_176_ok h (by simp [e4]) rfl hby es.length b1 (by omega) (by simp only [List.cons_append, List.length_cons, List.length_append, e4]; omega)
      have b2 : ((176 :: (bg (es.length : Int) 4 ++ es) ++ bh).drop (0 + 5)).take es.length = es := by
        simp only [List.cons_append, Nat.zero_add, List.drop_succ_cons, List.append_assoc]
        rw [List.drop_append_of_le_length (by rw [e4]; omega), List.drop_of_length_le (by rw [e4]; omega), List.nil_append, List.take_left]
      rw [b2, show 0 + 5 + es.length = ((176 : Int) :: (bg (es.length : Int) 4 ++ es)).length from by simp only [List.length_cons, List.length_append, e4]; omega] at h9
      exact h9
theorem bin_cut {es d : List Int} (hd : BinW es d) (hes : es.length ≤ 131072) (kk : Nat) (hk : kk < d.length ∨ d = []) : RefBn (d.take kk) := by
  rcases hd with ⟨h1, rfl⟩ | rfl
  · rcases hk with hk | hk
    · cases kk with
      | zero => exact .inl rfl
      | succ j =>
        cases j with
        | zero => exact .inr ⟨160, [], rfl, .inr (.inl ⟨rfl, .inl rfl⟩)⟩
        | succ j =>
          simp only [List.length_cons] at hk
          exact .inr ⟨160, _, rfl, .inr (.inl ⟨rfl, .inr ⟨es.length, es.take j, rfl, by rw [List.length_take]; omega⟩⟩)⟩
    · cases hk
  · have e4 : ∀ u : Int, (bg u 4).length = 4 := fun u => bg_len u 4
    rcases hk with hk | hk
    · cases kk with
      | zero => exact .inl rfl
      | succ j =>
        simp only [List.length_cons, List.length_append, e4] at hk
        refine .inr ⟨176, (bg (es.length : Int) 4 ++ es).take j, rfl, .inr (.inr ⟨rfl, ?_⟩)⟩
        by_cases h4 : j < 4
        · exact .inl (by rw [List.length_take]; omega)
        · refine .inr ⟨es.length, ?_, by rw [List.length_take, List.length_append, e4]; omega⟩
          rw [List.take_take, Nat.min_eq_left (by omega), List.take_append_of_le_length (by rw [e4]; omega), List.take_of_length_le (by rw [e4]; omega)]
          exact beN_bg4 _ (by omega) (by omega)
    · cases hk
theorem bn_form {n o : Int} {s : ByteArray} {m d : Nat} {K : Fin m → Va} {D : Fin d → Va} {dd : List Int} (hd0 : d = 0) (hf : FitV (.mk 18 n s m K o d D) 6) (h : (Wr (.mk 18 n s m K o d D)).pv dd) : BinW (bys s) dd ∧ (bys s).length ≤ 131072 := by
  obtain ⟨c, x, hpc, rfl⟩ := wr_top (t := .mk 18 n s m K o d D) hd0 h
  have hs : s.size ≤ 131072 := (fit_parts hf).2.2.2.1
  have hl := bys_len s
  refine ⟨?_, by omega⟩
  unfold Wr at hpc
  dsimp only at hpc
  rcases hpc with ⟨e, _⟩ | ⟨e, _⟩ | ⟨e, _⟩ | ⟨e, _⟩ | ⟨_, h⟩ | ⟨e, _⟩ | ⟨e, _⟩ | ⟨_, e, _⟩ | ⟨e, _⟩ | ⟨e, _⟩ | ⟨e, _⟩
  case inr.inr.inr.inr.inl =>
    have e1 : lenh (-1) 1 = [] := rfl
    have e4 : lenh (-1) 4 = [] := rfl
    rcases h with ⟨rfl, _, h2, rfl⟩ | ⟨rfl, rfl⟩
    · rw [e1] at h2 ⊢
      simp only [List.length_nil, Nat.add_zero, List.append_nil] at h2 ⊢
      exact .inl ⟨by omega, by rw [bg_1 _ (by omega)]; rfl⟩
    · rw [e4]
      simp only [List.length_nil, Nat.add_zero, List.append_nil]
      exact .inr rfl
  all_goals (exfalso; omega)
theorem bn_other {k n o : Int} {s : ByteArray} {m d : Nat} {K : Fin m → Va} {D : Fin d → Va} {dd : List Int} (hk : k ≠ 18) (hd0 : d = 0) (hf : FitV (.mk k n s m K o d D) 6) (h : (Wr (.mk k n s m K o d D)).pv dd) : ∃ c x, dd = c :: x ∧ c ≠ 160 ∧ c ≠ 176 := by
  obtain ⟨c, x, hpc, rfl⟩ := wr_top (t := .mk k n s m K o d D) hd0 h
  obtain ⟨_, _, _, _, hn0, hn1, hcf⟩ := fit_parts hf
  have hc := wr_code hn0 hcf.1 hpc
  have h9 := hc.all (p := fun q => decide (q.1 = 18) || decide (q.2 % 256 ≠ 160 ∧ q.2 % 256 ≠ 176)) (by decide)
  simp only [Bool.or_eq_true, decide_eq_true_eq] at h9
  rcases h9 with h9 | h9
  · exact absurd h9 hk
  · exact ⟨_, x, rfl, h9⟩
theorem refBn_other {dd : List Int} (h : ∃ c x, dd = c :: x ∧ c ≠ 160 ∧ c ≠ 176) : (∀ kk, RefBn (dd.take kk)) ∧ ∀ l, RefBn (dd ++ l) := by
  obtain ⟨c, x, rfl, hc⟩ := h
  refine ⟨fun kk => ?_, fun l => .inr ⟨c, x ++ l, rfl, .inl hc⟩⟩
  cases kk with
  | zero => exact .inl rfl
  | succ j => exact .inr ⟨c, x.take j, rfl, .inl hc⟩
end Go.Proofs.YtbdgkikipekmlaaDoor
