/- The law of AMQP's reader of doubles. No condition. -/
import Derived.Test.YtbdgkikipekmlaaDoorSmT
import Derived.Test.YtbdgkikipekmlaaDoorLawLh
import Derived.Test.YtbdgkikipekmlaaDoorWrD
namespace Go.Proofs.YtbdgkikipekmlaaDoor
set_option linter.unusedVariables false
set_option linter.unusedSimpArgs false
open Go.RowKit

def RefDb (l : List Int) : Prop := l = [] ∨ ∃ b r, l = b :: r ∧ (b ≠ 130 ∨ r.length < 8)
theorem double_refused (A0 : Option Addr) (c0 : Nat) (l : List Int) (w : World) (hr0 : Rd u8 w A0 l) (hl : l.length ≤ 1099511627776) (hE : Eof w) (h : RefDb l) :
    Calls Tryd.prog 12 #[.slice A0 l.length c0] w (BhNo (.int .u64 0) w) :=
  implReadDouble_no A0 c0 l w hr0 hl fun p A c W hp hW hR => by
    have hE' := hE.keep0 hW
    rcases h with rfl | ⟨b, r, rfl, hb⟩
    · exact rdouble_end hR (by simp) hE'
    · by_cases h1 : b = 130
      · subst h1
        exact rdouble_short hR (by simp) (by simp; omega) rfl hE' (eof_ne hE hp)
      · exact rdouble_other hR (by simp) h1
theorem db_form {n o : Int} {s : ByteArray} {m d : Nat} {K : Fin m → Va} {D : Fin d → Va} {dd : List Int} (hd0 : d = 0) (h : (Wr (.mk 11 n s m K o d D)).pv dd) : dd = 130 :: bg n 8 := by
  obtain ⟨c, x, hpc, rfl⟩ := wr_top (t := .mk 11 n s m K o d D) hd0 h
  rcases wr_num (by omega) (by omega) (by omega) hpc with ⟨rfl, rfl⟩ | ⟨h2, _⟩ | ⟨h2, _⟩ | ⟨h2, _⟩ | ⟨h2, _⟩
  · rfl
  all_goals omega
theorem db_other {k n o : Int} {s : ByteArray} {m d : Nat} {K : Fin m → Va} {D : Fin d → Va} {dd : List Int} (hk : k ≠ 11) (hd0 : d = 0) (hf : FitV (.mk k n s m K o d D) 6) (h : (Wr (.mk k n s m K o d D)).pv dd) : ∃ c x, dd = c :: x ∧ c ≠ 130 := by
  obtain ⟨c, x, hpc, rfl⟩ := wr_top (t := .mk k n s m K o d D) hd0 h
  obtain ⟨_, _, _, _, hn0, hn1, hcf⟩ := fit_parts hf
  have hc := wr_code hn0 hcf.1 hpc
  have h9 := hc.all (p := fun q => decide (q.1 = 11) || decide (q.2 % 256 ≠ 130)) (by decide)
  simp only [Bool.or_eq_true, decide_eq_true_eq] at h9
  rcases h9 with h9 | h9
  · exact absurd h9 hk
  · exact ⟨_, x, rfl, h9⟩
theorem refDb_cut {dd : List Int} (h : (∃ n, dd = 130 :: bg n 8) ∨ ∃ c x, dd = c :: x ∧ c ≠ 130) (kk : Nat) (hk : kk < dd.length ∨ dd = []) : RefDb (dd.take kk) := by
  rcases h with ⟨n, rfl⟩ | ⟨c, x, rfl, hc⟩
  · cases kk with
    | zero => exact .inl rfl
    | succ j =>
      have := bg_len n 8
      rcases hk with hk | hk
      · simp only [List.length_cons] at hk
        exact .inr ⟨130, (bg n 8).take j, rfl, .inr (by rw [List.length_take]; omega)⟩
      · cases hk
  · cases kk with
    | zero => exact .inl rfl
    | succ j => exact .inr ⟨c, x.take j, rfl, .inl hc⟩
/-- What a value without kids has besides: no kids, no text. -/
theorem fit_plain {k n o : Int} {s : ByteArray} {m d : Nat} {K : Fin m → Va} {D : Fin d → Va} {lv : Int} (h : FitV (.mk k n s m K o d D) lv) : (k ≠ 21 → k ≠ 22 → k ≠ 23 → m = 0) ∧ (k ≠ 14 → k < 17 ∨ 20 < k → s.toList = []) ∧ (k < 1 ∨ 16 < k ∨ k = 14 → n = 0) :=
  ⟨h.2.2.2.1, h.2.2.2.2.1, h.2.2.2.2.2.1⟩
theorem bytes_nil {s : ByteArray} (h : s.toList = []) : s = ⟨#[]⟩ := by
  obtain ⟨a⟩ := s
  have hd := ByteArray.toList_eq ⟨a⟩
  rw [h] at hd
  have : a.toList = [] := hd.symm
  rw [Array.toList_eq_nil_iff] at this
  rw [this]
end Go.Proofs.YtbdgkikipekmlaaDoor
