/- A key of a map read in place. No condition. -/
import Derived.Test.YtooifcdkpddlmaaDoorSkZ
namespace Go.Proofs.YtooifcdkpddlmaaDoor
set_option linter.unusedVariables false
set_option linter.unusedSimpArgs false
open Go.RowKit

theorem putD_six {n x : Int} {s : ByteArray} {m : Nat} {K : Fin m → Pk} {d : List Int} (h : PutD (.mk 6 n s x m K) d) : ∃ hd, HdB 160 32 [(217, 1), (218, 2), (219, 4)] s.size hd ∧ d = hd ++ bys s := by
  unfold PutD at h
  rcases h with ⟨e, _⟩ | ⟨e, _⟩ | ⟨e, _⟩ | ⟨e, _⟩ | ⟨e, _⟩ | ⟨e, _⟩ | ⟨e, _⟩ | ⟨_, h⟩ | ⟨e, _⟩ | ⟨e, _⟩ | ⟨e, _⟩ | ⟨e, _⟩
  all_goals first
  | exact h
  | (exfalso; omega)
theorem zc_text {n x : Int} {s : ByteArray} {m : Nat} {K : Fin m → Pk} {d : List Int} (hd : PutD (.mk 6 n s x m K) d) (R : List Int) (A : Option Addr) (c : Nat) (w : World) (hb : Byt R) (hr : Rd u8 w A (d ++ R)) (hc : (d ++ R).length ≤ c) :
    Calls Tryd.prog 45 #[.slice A (d ++ R).length c] w (ZcOk (bys s) R w) := by
  obtain ⟨hd', hh, rfl⟩ := putD_six hd
  have hL := bys_len s
  have e1 : (bys s ++ R).take s.size = bys s := by rw [← hL, List.take_left']; rfl
  have e2 : (bys s ++ R).drop s.size = R := by rw [← hL, List.drop_left']; rfl
  have h8 : s.size ≤ (bys s ++ R).length := by rw [List.length_append]; omega
  have hby : Byt (bys s ++ R) := (byt_bys s).append hb
  rcases hh with ⟨_, h32, rfl⟩ | ⟨f, hf, ho, rfl⟩
  · have h := zc_fix A c (160 + (s.size : Int)) (bys s ++ R) s.size w hr hc (by omega) (by omega) (by omega) h8
    rw [e1, e2] at h
    exact h
  · simp only [List.mem_cons, List.not_mem_nil, or_false] at hf
    rcases hf with rfl | rfl | rfl
    · simp only [okf_1, decide_eq_true_eq] at ho
      have hq := beN_bgq1 s.size (by omega) (by omega)
      have hd3 : (bg s.size 1 ++ (bys s ++ R)).drop 1 = bys s ++ R := bg_drop3 _ _ _
      have e : (((217 : Int) :: bg s.size 1) ++ bys s) ++ R = 217 :: (bg s.size 1 ++ (bys s ++ R)) := by simp
      rw [e] at hr hc ⊢
      have h := zc_217 A c 217 (bg s.size 1 ++ (bys s ++ R)) s.size w hr hc rfl ((byt_bg _ _).append hby) (by rw [List.length_append, bg_len]; omega) (by rw [bg_take3, hq]) (by rw [hd3]; exact h8)
      rw [hd3, e1, e2] at h
      exact h
    · simp only [okf_2, decide_eq_true_eq] at ho
      have hq := beN_bgq2 s.size (by omega) (by omega)
      have hd3 : (bg s.size 2 ++ (bys s ++ R)).drop 2 = bys s ++ R := bg_drop3 _ _ _
      have e : (((218 : Int) :: bg s.size 2) ++ bys s) ++ R = 218 :: (bg s.size 2 ++ (bys s ++ R)) := by simp
      rw [e] at hr hc ⊢
      have h := zc_218 A c 218 (bg s.size 2 ++ (bys s ++ R)) s.size w hr hc rfl ((byt_bg _ _).append hby) (by rw [List.length_append, bg_len]; omega) (by rw [bg_take3, hq]) (by rw [hd3]; exact h8)
      rw [hd3, e1, e2] at h
      exact h
    · simp only [okf_4, decide_eq_true_eq] at ho
      have hq := beN_bgq4 s.size (by omega) (by omega)
      have hd3 : (bg s.size 4 ++ (bys s ++ R)).drop 4 = bys s ++ R := bg_drop3 _ _ _
      have e : (((219 : Int) :: bg s.size 4) ++ bys s) ++ R = 219 :: (bg s.size 4 ++ (bys s ++ R)) := by simp
      rw [e] at hr hc ⊢
      have h := zc_219 A c 219 (bg s.size 4 ++ (bys s ++ R)) s.size w hr hc rfl ((byt_bg _ _).append hby) (by rw [List.length_append, bg_len]; omega) (by rw [bg_take3, hq]) (by rw [hd3]; exact h8)
      rw [hd3, e1, e2] at h
      exact h

theorem unsafe_calls (A : Option Addr) (c : Nat) (l : List Int) (w : World) (hr : Rd u8 w A l) : Calls Tryd.prog 46 #[.slice A l.length c] w fun e w' => e = .returned (.string (strOfNums l)) ∧ Ch No w w' := by
  have h0 := conv_rd (c := c) hr w (Ch.refl _ _)
  generalize l.length = m at h0 ⊢
  go_enter Tryd.func46, Tryd.ntmps46
  go_wp2_with fail
  go_ret
  exact ⟨rfl, Ch.refl _ _⟩
end Go.Proofs.YtooifcdkpddlmaaDoor
