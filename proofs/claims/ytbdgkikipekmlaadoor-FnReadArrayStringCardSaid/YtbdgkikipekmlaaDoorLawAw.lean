/- What the laws of AMQP's arrays share. No condition. -/
import Derived.Test.YtbdgkikipekmlaaDoorLawAr
import Derived.Test.YtbdgkikipekmlaaDoorArb
namespace Go.Proofs.YtbdgkikipekmlaaDoor
set_option linter.unusedVariables false
set_option linter.unusedSimpArgs false
open Go.RowKit

def Va.num : Va → Int
  | .mk _ n _ _ _ _ _ _ => n
def Va.txt : Va → ByteArray
  | .mk _ _ s _ _ _ _ _ => s
def numAt {m : Nat} (K : Fin m → Va) (i : Nat) : Int := if h : i < m then (K ⟨i, h⟩).num else 0
def txtAt {m : Nat} (K : Fin m → Va) (i : Nat) : ByteArray := if h : i < m then (K ⟨i, h⟩).txt else ⟨#[]⟩
theorem va_bounds {w : World} {k n o : Int} {s : ByteArray} {m d : Nat} {K : Fin m → Va} {D : Fin d → Va} {cs : List Value} (h : VaP w (.mk k n s m K o d D) cs) : m ≤ 9223372036854775807 ∧ ∀ i : Fin m, (K i).descs ≤ 9223372036854775807 := by
  obtain ⟨A, cap, B, capB, _, _, _, _, _, h5, h6, _, _, hk, _⟩ := h
  have hml : maxLen ≤ 9223372036854775807 := by decide
  refine ⟨by omega, fun i => ?_⟩
  obtain ⟨_, _, cs', _, _, _, h9⟩ := hk i
  revert h9
  cases K i
  rintro ⟨_, _, _, _, _, _, _, _, _, _, _, g1, g2, _⟩
  show _ ≤ 9223372036854775807
  simp only [Va.descs]
  omega
theorem ds_nil {t : Va} {b : List Int} (h0 : t.descs = 0) (h : (Wr t).ds b) : b = [] := by
  obtain ⟨k, n, s, m, K, o, d, D⟩ := t
  unfold Wr at h
  have hd : d = 0 := h0
  rcases h with ⟨_, rfl⟩ | ⟨h, _⟩
  · rfl
  · omega
theorem ds_zero {t : Va} {b : List Int} (h0 : t.descs ≠ 0) (h : (Wr t).ds b) : ∃ x, b = 0 :: x := by
  obtain ⟨k, n, s, m, K, o, d, D⟩ := t
  unfold Wr at h
  have hd : d ≠ 0 := h0
  rcases h with ⟨h, _⟩ | ⟨_, x, _, rfl⟩
  · exact absurd h hd
  · exact ⟨x, rfl⟩
theorem cat_same_len (S : Nat) (es : Nat → List Int) : ∀ m, (∀ i, i < m → (es i).length = S) → (cat es m).length = S * m
  | 0, _ => rfl
  | m + 1, h => by
    show (cat es m ++ es m).length = _
    rw [List.length_append, cat_same_len S es m (fun i hi => h i (by omega)), h m (by omega), Nat.mul_succ]
theorem cat_cut (es : Nat → List Int) (m : Nat) : ∀ j i, i + j = m → ∃ T, cat es m = cat es i ++ T
  | 0, i, h => ⟨[], by rw [List.append_nil]; congr 1; omega⟩
  | j + 1, i, h => by
    obtain ⟨T, hT⟩ := cat_cut es m j (i + 1) (by omega)
    exact ⟨es i ++ T, by rw [hT]; show (cat es i ++ es i) ++ T = _; rw [List.append_assoc]⟩
theorem cat_at (S : Nat) (es : Nat → List Int) (m : Nat) (L : List Int) (h : ∀ i, i < m → (es i).length = S) (i : Nat) (hi : i < m) : ((cat es m ++ L).drop (S * i)).take S = es i := by
  obtain ⟨T, hT⟩ := cat_cut es m (m - (i + 1)) (i + 1) (by omega)
  have h1 := cat_same_len S es i (fun j hj => h j (by omega))
  have h2 := h i hi
  rw [hT]
  show ((((cat es i ++ es i) ++ T) ++ L).drop (S * i)).take S = es i
  rw [List.append_assoc, List.append_assoc, ← h1, List.drop_left, List.take_append_of_le_length (by omega), List.take_of_length_le (by omega)]
/-- The kids of an array of numbers. -/
theorem kid_num {kd o n : Int} {s : ByteArray} {m d : Nat} {K : Fin m → Va} {D : Fin d → Va} (hk : kd < 17) (hk4 : kd ≠ 14) (hf : FitV (.mk 23 n s m K o d D) 6) (hr : Right 23 o K kd) (i : Nat) (h : i < m) :
    ∃ (o0 : Int) (K0 : Fin 0 → Va) (D0 : Fin 0 → Va), K ⟨i, h⟩ = .mk kd (numAt K i) ⟨#[]⟩ 0 K0 o0 0 D0 ∧ FitV (K ⟨i, h⟩) 5 := by
  have hfk : FitV (K ⟨i, h⟩) (6 - 1) := hf.2.2.2.2.2.2.2.2.2.2.2.2.2 ⟨i, h⟩
  have hg := hr.2.2 ⟨i, h⟩
  have hn : numAt K i = (K ⟨i, h⟩).num := by unfold numAt; rw [dif_pos h]
  rw [hn]
  revert hfk hg
  cases K ⟨i, h⟩ with
  | mk k' n' s' m' K' o' d' D' =>
    intro hfk hg
    obtain ⟨hg1, hg2⟩ := hg
    replace hg1 : k' = kd := hg1
    replace hg2 : d' = 0 := hg2
    subst hg1
    subst hg2
    have hp := fit_plain hfk
    obtain rfl : m' = 0 := hp.1 (by omega) (by omega) (by omega)
    obtain rfl := bytes_nil (hp.2.1 hk4 (.inl hk))
    exact ⟨o', K', D', rfl, hfk⟩
theorem ar_other (kd0 : Int) (cs : List Int) (hx0 : ∀ q : Fin 24, (q.val : Int) ≠ kd0 → shOf q.val % 256 ∉ cs ∧ cdOf q.val % 256 ∉ cs) (hx1 : (0 : Int) ∉ cs) {n o : Int} {s : ByteArray} {m d : Nat} {K : Fin m → Va} {D : Fin d → Va} {dd : List Int} (hd0 : d = 0) (hf : FitV (.mk 23 n s m K o d D) 6) (hcn : cntV (.mk 23 n s m K o d D) ≤ 500) (h : (Wr (.mk 23 n s m K o d D)).pv dd) (hm : 0 < m) (hx : ¬ Right 23 o K kd0) :
    ∃ (x : Int) (E : List Int) (j : Nat), ArrD dd (x :: E) m j ∧ x ∉ cs := by
  have haf : ArrF o K := (fit_parts hf).2.2.2.2.2.2.2.2.2.2.2.2.2.2 rfl
  obtain ⟨kd, code, es, pre, j, hA, g0, g1, _, h1, h2, h3, h4⟩ := arr_form hd0 hf hcn h
  obtain ⟨e1, e2⟩ := h1 hm
  by_cases hds : (K ⟨0, hm⟩).descs = 0
  · obtain rfl := ds_nil hds e2
    have hkd : kd ≠ kd0 := fun he => hx ⟨rfl, fun h0 => absurd h0 (by omega), fun i => by
      have h9 := haf.2 i ⟨0, hm⟩
      rw [h9.1, h9.2, hds, ← e1]
      exact ⟨he, rfl⟩⟩
    obtain ⟨q, rfl⟩ : ∃ q : Nat, kd = q := ⟨kd.toNat, by omega⟩
    have h9 := hx0 ⟨q, by omega⟩ hkd
    refine ⟨code % 256, cat es m, j, hA, ?_⟩
    rcases h2 with rfl | rfl
    · exact h9.1
    · exact h9.2
  · obtain ⟨x, rfl⟩ := ds_zero hds e2
    exact ⟨0, x ++ code % 256 :: cat es m, j, hA, hx1⟩
/-- The code and the pieces of an array of the right kind. -/
theorem ar_right {kd0 n o : Int} {s : ByteArray} {m d : Nat} {K : Fin m → Va} {D : Fin d → Va} {dd : List Int} (hd0 : d = 0) (hf : FitV (.mk 23 n s m K o d D) 6) (hcn : cntV (.mk 23 n s m K o d D) ≤ 500) (h : (Wr (.mk 23 n s m K o d D)).pv dd) (hr : Right 23 o K kd0) :
    ∃ (code : Int) (es : Nat → List Int) (j : Nat), ArrD dd (code % 256 :: cat es m) m j ∧ (code = shOf kd0 ∨ code = cdOf kd0) ∧ code ≠ 0 ∧ ∀ i : Fin m, (Wr (K i)).pc code (es i.val) := by
  obtain ⟨kd, code, es, pre, j, hA, g0, g1, h0, h1, h2, h3, h4⟩ := arr_form hd0 hf hcn h
  have hkp : kd = kd0 ∧ pre = [] := by
    rcases Nat.eq_zero_or_pos m with hz | hz
    · exact ⟨by rw [(h0 hz).1]; exact hr.2.1 hz, (h0 hz).2⟩
    · exact ⟨by rw [(h1 hz).1]; exact (hr.2.2 ⟨0, hz⟩).1, ds_nil (hr.2.2 ⟨0, hz⟩).2 (h1 hz).2⟩
  obtain ⟨rfl, rfl⟩ := hkp
  exact ⟨code, es, j, hA, h2, h3, h4⟩
theorem ar_any {n o : Int} {s : ByteArray} {m d : Nat} {K : Fin m → Va} {D : Fin d → Va} {dd : List Int} (hd0 : d = 0) (hf : FitV (.mk 23 n s m K o d D) 6) (hcn : cntV (.mk 23 n s m K o d D) ≤ 500) (h : (Wr (.mk 23 n s m K o d D)).pv dd) : ∃ (E : List Int) (j : Nat), ArrD dd E m j := by
  obtain ⟨kd, code, es, pre, j, hA, _⟩ := arr_form hd0 hf hcn h
  exact ⟨_, j, hA⟩
/-! ### The reader's answers -/
theorem getE {dd bh E : List Int} {m j : Nat} {x : Int} (hA : ArrD dd (x :: E) m j) : ∃ h : j < (dd ++ bh).length, (dd ++ bh)[j] = x ∧ (dd ++ bh).drop (j + 1) = E ++ bh ∧ (dd ++ bh).length = j + 1 + E.length + bh.length := by
  obtain ⟨h1, h2⟩ := hA.len
  rw [List.length_cons] at h1
  have hj : j < (dd ++ bh).length := by rw [List.length_append]; omega
  have h3 : (dd ++ bh).drop j = x :: (E ++ bh) := by
    rw [List.drop_append_of_le_length (by omega), h2]
    rfl
  refine ⟨hj, ?_, ?_, by rw [List.length_append]; omega⟩
  · have h4 := List.drop_eq_getElem_cons hj
    rw [h3] at h4
    injection h4 with h5 _
    exact h5.symm
  · rw [← List.drop_drop, h3]
    rfl
theorem va_kids {w : World} {k n o : Int} {s : ByteArray} {m d : Nat} {K : Fin m → Va} {D : Fin d → Va} {A B : Option Addr} {cap capB : Nat} (h : VaP w (.mk k n s m K o d D) [.int .i64 k, .int .u64 n, .string s, .slice A m cap, .int .i64 o, .slice B d capB]) :
    ∀ i : Fin m, ∃ b o cs', A = some ⟨b, o, none⟩ ∧ cs'.length = 6 ∧ (∀ j, j < 6 → w.cell? ⟨b, o + (i.val * 6 + j), none⟩ = cs'[j]?) ∧ VaP w (K i) cs' := by
  obtain ⟨A', cap', B', capB', h1, _, _, _, _, _, _, _, _, hk, _⟩ := h
  simp only [List.cons.injEq, Value.slice.injEq, and_true, true_and] at h1
  obtain ⟨⟨rfl, rfl⟩, _⟩ := h1
  exact hk
/-- The pairs that a law makes of an array of numbers. -/
def prN {m : Nat} (K : Fin m → Va) (i : Nat) : Int × ByteArray := (numAt K i, ⟨#[]⟩)
end Go.Proofs.YtbdgkikipekmlaaDoor
