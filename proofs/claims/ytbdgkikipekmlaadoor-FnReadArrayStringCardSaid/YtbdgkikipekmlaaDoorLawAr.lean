/- The plain law of AMQP's arrays: their heads, their elements. No condition. -/
import Derived.Test.YtbdgkikipekmlaaDoorSmT
import Derived.Test.YtbdgkikipekmlaaDoorLawLh
namespace Go.Proofs.YtbdgkikipekmlaaDoor
set_option linter.unusedVariables false
set_option linter.unusedSimpArgs false
open Go.RowKit

theorem wr_arr {n o : Int} {s : ByteArray} {m d : Nat} {K : Fin m → Va} {D : Fin d → Va} {c : Int} {b : List Int} (h : (Wr (.mk 23 n s m K o d D)).pc c b) :
    ∃ (kd code : Int) (es : Nat → List Int) (pre : List Int), (m = 0 → kd = o ∧ pre = []) ∧ (∀ h : 0 < m, kd = (K ⟨0, h⟩).kind ∧ (Wr (K ⟨0, h⟩)).ds pre) ∧ (code = shOf kd ∨ code = cdOf kd) ∧ code ≠ 0 ∧ (∀ i : Fin m, (Wr (K i)).pc code (es i.val)) ∧ LenD 224 240 (pre ++ code % 256 :: cat es m) m c b := by
  unfold Wr at h
  dsimp only at h
  rcases h with ⟨e, _⟩ | ⟨e, _⟩ | ⟨e, _⟩ | ⟨e, _⟩ | ⟨e, _⟩ | ⟨e, _⟩ | ⟨e, _⟩ | ⟨_, e, _⟩ | ⟨e, _⟩ | ⟨e, _⟩ | ⟨_, h⟩
  all_goals first
  | exact h
  | (exfalso; omega)
/-- An array's bytes: the head, at j the body E. -/
structure ArrD (dd E : List Int) (m j : Nat) : Prop where
  form : (dd = 224 :: ((E.length + 1 : Nat) : Int) :: (m : Int) :: E ∧ j = 3 ∧ m ≤ 255 ∧ E.length + 1 ≤ 255) ∨ (dd = 240 :: (bg ((E.length + 4 : Nat) : Int) 4 ++ bg (m : Int) 4 ++ E) ∧ j = 9)
  hm : m ≤ 1000
  hE : E.length ≤ 70000000
theorem ArrD.len {dd E : List Int} {m j : Nat} (h : ArrD dd E m j) : dd.length = j + E.length ∧ dd.drop j = E := by
  have e4 : ∀ u : Int, (bg u 4).length = 4 := fun u => bg_len u 4
  rcases h.form with ⟨rfl, rfl, _, _⟩ | ⟨rfl, rfl⟩
  · exact ⟨by simp only [List.length_cons]; omega, rfl⟩
  · refine ⟨by simp only [List.length_cons, List.length_append, e4]; omega, ?_⟩
    simp only [List.drop_succ_cons, List.append_assoc]
    rw [← List.append_assoc, List.drop_append_of_le_length (by simp [e4]), List.drop_of_length_le (by simp [e4]), List.nil_append]
/-- The head is read: refused where the body is shorter than its count. -/
theorem ArrD.head {dd E bh : List Int} {m j : Nat} (h : ArrD dd E m j) {p : Nat} {A : Option Addr} {cc : Nat} {W : World} (hR : RbS p A cc (dd ++ bh) 0 W) (hby : Byt (dd ++ bh)) :
    Calls Tryd.prog 80 #[.pointer (some ⟨p, 0, none⟩)] W (fun e w' => if m ≤ E.length then HdYes p A cc (dd ++ bh) j m W e w' else HdNo p W e w') := by
  have e4 : ∀ u : Int, (bg u 4).length = 4 := fun u => bg_len u 4
  have hm := h.hm
  have hE := h.hE
  rcases h.form with ⟨rfl, rfl, h1, h2⟩ | ⟨rfl, rfl⟩
  · have h9 := rarr_224 hR (by simp) rfl hby ((E.length + 1 : Nat) : Int) (m : Int) rfl rfl
    have hc : (((0 : Nat) : Int) + 2 + ((E.length + 1 : Nat) : Int) ≤ ((224 :: ((E.length + 1 : Nat) : Int) :: (m : Int) :: E ++ bh).length : Nat) ∧ (m : Int) + 1 ≤ ((E.length + 1 : Nat) : Int)) ↔ m ≤ E.length := by
      simp only [List.length_append, List.length_cons]
      omega
    simp only [hc] at h9
    exact h9
  · have b1 : beN (((240 :: (bg ((E.length + 4 : Nat) : Int) 4 ++ bg (m : Int) 4 ++ E) ++ bh).drop (0 + 1)).take 4) = ((E.length + 4 : Nat) : Int) := by
      simp only [List.cons_append, Nat.zero_add, List.drop_succ_cons, List.drop_zero, List.append_assoc]
      rw [List.take_append_of_le_length (by rw [e4]; omega), List.take_of_length_le (by rw [e4]; omega)]
      exact beN_bg4 _ (by omega) (by omega)
    have b2 : beN (((240 :: (bg ((E.length + 4 : Nat) : Int) 4 ++ bg (m : Int) 4 ++ E) ++ bh).drop (0 + 5)).take 4) = (m : Int) := by
      simp only [List.cons_append, Nat.zero_add, List.drop_succ_cons, List.append_assoc]
      rw [List.drop_append_of_le_length (by rw [e4]; omega), List.drop_of_length_le (by rw [e4]; omega), List.nil_append, List.take_append_of_le_length (by rw [e4]; omega), List.take_of_length_le (by rw [e4]; omega)]
      exact beN_bg4 _ (by omega) (by omega)
    have h9 := rarr_240 hR (by simp [e4]; omega) rfl hby ((E.length + 4 : Nat) : Int) (m : Int) b1 b2
    have hc : (((0 : Nat) : Int) + 5 + ((E.length + 4 : Nat) : Int) ≤ ((240 :: (bg ((E.length + 4 : Nat) : Int) 4 ++ bg (m : Int) 4 ++ E) ++ bh).length : Nat) ∧ (m : Int) ≤ 65536 ∧ (m : Int) + 4 ≤ ((E.length + 4 : Nat) : Int)) ↔ m ≤ E.length := by
      simp only [List.length_append, List.length_cons, e4]
      omega
    simp only [hc] at h9
    exact h9
/-- The head of an array that is cut off is refused. -/
theorem ArrD.cut {dd E : List Int} {m j : Nat} (h : ArrD dd E m j) (hby : Byt dd) (kk : Nat) (hk : kk < dd.length ∨ dd = []) {p : Nat} {A : Option Addr} {cc : Nat} {W : World} (hR : RbS p A cc (dd.take kk) 0 W) (hEo : Eof W) :
    Calls Tryd.prog 80 #[.pointer (some ⟨p, 0, none⟩)] W (HdNo p W) := by
  have e4 : ∀ u : Int, (bg u 4).length = 4 := fun u => bg_len u 4
  have hm := h.hm
  have hE := h.hE
  have hkl : kk < dd.length := by
    rcases hk with hk | rfl
    · exact hk
    · rcases h.form with ⟨h, _⟩ | ⟨h, _⟩ <;> cases h
  have hby' := hby.take kk
  by_cases h0 : kk = 0
  · subst h0
    exact rarr_end hR (by simp) hEo
  rcases h.form with ⟨rfl, rfl, h1, h2⟩ | ⟨rfl, rfl⟩
  · have hl : ((224 :: ((E.length + 1 : Nat) : Int) :: (m : Int) :: E).take kk).length = kk := by rw [List.length_take]; omega
    by_cases h3 : kk < 3
    · exact rarr_224_cut hR (by omega) (by omega) (by rw [List.getElem_take]; rfl)
    · have h9 := rarr_224 hR (by omega) (by rw [List.getElem_take]; rfl) hby' ((E.length + 1 : Nat) : Int) (m : Int) (by rw [List.getElem_take]; rfl) (by rw [List.getElem_take]; rfl)
      have hc : (((0 : Nat) : Int) + 2 + ((E.length + 1 : Nat) : Int) ≤ (((224 :: ((E.length + 1 : Nat) : Int) :: (m : Int) :: E).take kk).length : Nat) ∧ (m : Int) + 1 ≤ ((E.length + 1 : Nat) : Int)) = False := eq_false (fun h => by
        rw [hl] at h
        simp only [List.length_cons] at hkl
        omega)
      simp only [hc, if_false] at h9
      exact h9
  · have hl : ((240 :: (bg ((E.length + 4 : Nat) : Int) 4 ++ bg (m : Int) 4 ++ E)).take kk).length = kk := by rw [List.length_take]; omega
    by_cases h3 : kk < 9
    · exact rarr_240_cut hR (by omega) (by omega) (by rw [List.getElem_take]; rfl)
    · obtain ⟨k', rfl⟩ : ∃ k', kk = k' + 9 := ⟨kk - 9, by omega⟩
      have b1 : beN ((((240 :: (bg ((E.length + 4 : Nat) : Int) 4 ++ bg (m : Int) 4 ++ E)).take (k' + 9)).drop (0 + 1)).take 4) = ((E.length + 4 : Nat) : Int) := by
        simp only [List.take_succ_cons, Nat.zero_add, List.drop_succ_cons, List.drop_zero, List.append_assoc]
        rw [List.take_take, Nat.min_eq_left (by omega), List.take_append_of_le_length (by rw [e4]; omega), List.take_of_length_le (by rw [e4]; omega)]
        exact beN_bg4 _ (by omega) (by omega)
      have h9 := rarr_240 hR (by omega) (by rw [List.getElem_take]; rfl) hby' ((E.length + 4 : Nat) : Int) _ b1 rfl
      generalize beN ((((240 :: (bg ((E.length + 4 : Nat) : Int) 4 ++ bg (m : Int) 4 ++ E)).take (k' + 9)).drop (0 + 5)).take 4) = z at h9
      have hc : (((0 : Nat) : Int) + 5 + ((E.length + 4 : Nat) : Int) ≤ (((240 :: (bg ((E.length + 4 : Nat) : Int) 4 ++ bg (m : Int) 4 ++ E)).take (k' + 9)).length : Nat) ∧ z ≤ 65536 ∧ z + 4 ≤ ((E.length + 4 : Nat) : Int)) = False := eq_false (fun h => by
        rw [hl] at h
        simp only [List.length_cons, List.length_append, e4] at hkl
        omega)
      simp only [hc, if_false] at h9
      exact h9
/-- What is written of an array. -/
theorem arr_form {n o : Int} {s : ByteArray} {m d : Nat} {K : Fin m → Va} {D : Fin d → Va} {dd : List Int} (hd0 : d = 0) (hf : FitV (.mk 23 n s m K o d D) 6) (hcn : cntV (.mk 23 n s m K o d D) ≤ 500) (h : (Wr (.mk 23 n s m K o d D)).pv dd) :
    ∃ (kd code : Int) (es : Nat → List Int) (pre : List Int) (j : Nat), ArrD dd (pre ++ code % 256 :: cat es m) m j ∧ 0 ≤ kd ∧ kd < 24 ∧ (m = 0 → kd = o ∧ pre = []) ∧ (∀ h : 0 < m, kd = (K ⟨0, h⟩).kind ∧ (Wr (K ⟨0, h⟩)).ds pre) ∧ (code = shOf kd ∨ code = cdOf kd) ∧ code ≠ 0 ∧ (∀ i : Fin m, (Wr (K i)).pc code (es i.val)) := by
  obtain ⟨c, x, hpc, rfl⟩ := wr_top (t := .mk 23 n s m K o d D) hd0 h
  obtain ⟨_, _, hm, _, hn0, hn1, hcf⟩ := fit_parts hf
  have haf : ArrF o K := hcf.2.2.2.2.2.2.2.2 rfl
  have hfk := hf.2.2.2.2.2.2.2.2.2.2.2.2.2
  obtain ⟨kd, code, es, pre, h0, h1, h2, h3, h4, hl⟩ := wr_arr hpc
  have hkd : 0 ≤ kd ∧ kd < 24 := by
    rcases Nat.eq_zero_or_pos m with hz | hz
    · rw [(h0 hz).1]; exact haf.1 hz
    · rw [(h1 hz).1]
      have h9 := hfk ⟨0, hz⟩
      revert h9
      cases K ⟨0, hz⟩
      exact fun h => ⟨h.2.1, h.2.2.1⟩
  obtain ⟨E, hEe⟩ : ∃ E, pre ++ code % 256 :: cat es m = E := ⟨_, rfl⟩
  rw [hEe] at hl
  have hE : E.length ≤ 70000000 := by
    have h9 := (wr_len (.mk 23 n s m K o d D) 6 hf).1 c x hpc
    have h8 := cnt_parts (.mk 23 n s m K o d D)
    have h7 : E.length ≤ x.length := by
      rcases hl with ⟨_, _, _, rfl⟩ | ⟨_, rfl⟩
      · simp only [List.length_append]; omega
      · simp only [List.length_append]; omega
    omega
  refine ⟨kd, code, es, pre, if c = 224 then 3 else 9, ?_, hkd.1, hkd.2, h0, h1, h2, h3, h4⟩
  rw [hEe]
  rcases hl.nat hm (by omega) with ⟨rfl, g1, g2, rfl⟩ | ⟨rfl, rfl⟩
  · exact ⟨.inl ⟨rfl, rfl, g1, g2⟩, hm, hE⟩
  · exact ⟨.inr ⟨rfl, rfl⟩, hm, hE⟩
theorem arr_other {k n o : Int} {s : ByteArray} {m d : Nat} {K : Fin m → Va} {D : Fin d → Va} {dd : List Int} (hk : k ≠ 23) (hd0 : d = 0) (hf : FitV (.mk k n s m K o d D) 6) (h : (Wr (.mk k n s m K o d D)).pv dd) : ∃ c x, dd = c :: x ∧ c ≠ 224 ∧ c ≠ 240 := by
  obtain ⟨c, x, hpc, rfl⟩ := wr_top (t := .mk k n s m K o d D) hd0 h
  obtain ⟨_, _, _, _, hn0, hn1, hcf⟩ := fit_parts hf
  have hc := wr_code hn0 hcf.1 hpc
  have h9 := hc.all (p := fun q => decide (q.1 = 23) || decide (q.2 % 256 ≠ 224 ∧ q.2 % 256 ≠ 240)) (by decide)
  simp only [Bool.or_eq_true, decide_eq_true_eq] at h9
  rcases h9 with h9 | h9
  · exact absurd h9 hk
  · exact ⟨_, x, rfl, h9⟩
/-- Bytes that are no array: their head is refused. -/
theorem arr_refused {L : List Int} (h : L = [] ∨ ∃ c x, L = c :: x ∧ c ≠ 224 ∧ c ≠ 240) {p : Nat} {A : Option Addr} {cc : Nat} {W : World} (hR : RbS p A cc L 0 W) (hEo : Eof W) :
    Calls Tryd.prog 80 #[.pointer (some ⟨p, 0, none⟩)] W (HdNo p W) := by
  rcases h with rfl | ⟨c, x, rfl, hc⟩
  · exact rarr_end hR (by simp) hEo
  · exact rarr_other hR (by simp) hc
end Go.Proofs.YtbdgkikipekmlaaDoor
