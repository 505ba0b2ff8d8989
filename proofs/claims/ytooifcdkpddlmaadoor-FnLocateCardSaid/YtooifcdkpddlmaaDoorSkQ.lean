/- What MessagePack's sizes tell of each form. No condition. -/
import Derived.Test.YtooifcdkpddlmaaDoorSkP
namespace Go.Proofs.YtooifcdkpddlmaaDoor
set_option linter.unusedVariables false
set_option linter.unusedSimpArgs false
open Go.RowKit

theorem bg_take3 (u : Int) (n : Nat) (l : List Int) : (bg u n ++ l).take n = bg u n := by
  rw [List.take_append_of_le_length (by simp [bg_len]), List.take_of_length_le (by simp [bg_len])]
theorem bg_drop3 (u : Int) (n : Nat) (l : List Int) : (bg u n ++ l).drop n = l := by
  rw [List.drop_append_of_le_length (by simp [bg_len]), List.drop_of_length_le (by simp [bg_len]), List.nil_append]
theorem beN_bgq1 (u : Int) (h0 : 0 ≤ u) (h1 : u < 256) : beN (bg u 1) = u := by
  simp [bg, beN, List.range, List.range.loop]
  all_goals omega
theorem beN_bgq2 (u : Int) (h0 : 0 ≤ u) (h1 : u < 65536) : beN (bg u 2) = u := by
  simp [bg, beN, List.range, List.range.loop]
  all_goals omega
theorem beN_bgq4 (u : Int) (h0 : 0 ≤ u) (h1 : u < 4294967296) : beN (bg u 4) = u := by
  simp [bg, beN, List.range, List.range.loop]
  all_goals omega
theorem gsp_196 (ns : Nat) (t : List Int) (hns : (ns : Int) < 256) (hl : 2 ≤ 2 + t.length) : GsP (196 :: (bg ns 1 ++ t)) (2 + ns) 0 := fun R A c w hr hc hb => by
  have h := gs_196 A c (bg ns 1 ++ t ++ R) ns w hr hc (fun y hy => hb y (List.mem_cons_of_mem _ hy)) (by simp only [List.length_cons, List.length_append, bg_len]; omega) (by rw [List.append_assoc, bg_take3, beN_bgq1 ns (by omega) hns])
  have e1 : (((2 + ns) : Nat) : Int) = 2 + (ns : Int) := by omega
  have e2 : ((0 : Nat) : Int) = 0 := by omega
  rw [e1, e2]
  exact h
theorem gsp_197 (ns : Nat) (t : List Int) (hns : (ns : Int) < 65536) (hl : 3 ≤ 3 + t.length) : GsP (197 :: (bg ns 2 ++ t)) (3 + ns) 0 := fun R A c w hr hc hb => by
  have h := gs_197 A c (bg ns 2 ++ t ++ R) ns w hr hc (fun y hy => hb y (List.mem_cons_of_mem _ hy)) (by simp only [List.length_cons, List.length_append, bg_len]; omega) (by rw [List.append_assoc, bg_take3, beN_bgq2 ns (by omega) hns])
  have e1 : (((3 + ns) : Nat) : Int) = 3 + (ns : Int) := by omega
  have e2 : ((0 : Nat) : Int) = 0 := by omega
  rw [e1, e2]
  exact h
theorem gsp_198 (ns : Nat) (t : List Int) (hns : (ns : Int) < 4294967296) (hl : 5 ≤ 5 + t.length) : GsP (198 :: (bg ns 4 ++ t)) (5 + ns) 0 := fun R A c w hr hc hb => by
  have h := gs_198 A c (bg ns 4 ++ t ++ R) ns w hr hc (fun y hy => hb y (List.mem_cons_of_mem _ hy)) (by simp only [List.length_cons, List.length_append, bg_len]; omega) (by rw [List.append_assoc, bg_take3, beN_bgq4 ns (by omega) hns])
  have e1 : (((5 + ns) : Nat) : Int) = 5 + (ns : Int) := by omega
  have e2 : ((0 : Nat) : Int) = 0 := by omega
  rw [e1, e2]
  exact h
theorem gsp_199 (ns : Nat) (t : List Int) (hns : (ns : Int) < 256) (hl : 3 ≤ 2 + t.length) : GsP (199 :: (bg ns 1 ++ t)) (3 + ns) 0 := fun R A c w hr hc hb => by
  have h := gs_199 A c (bg ns 1 ++ t ++ R) ns w hr hc (fun y hy => hb y (List.mem_cons_of_mem _ hy)) (by simp only [List.length_cons, List.length_append, bg_len]; omega) (by rw [List.append_assoc, bg_take3, beN_bgq1 ns (by omega) hns])
  have e1 : (((3 + ns) : Nat) : Int) = 3 + (ns : Int) := by omega
  have e2 : ((0 : Nat) : Int) = 0 := by omega
  rw [e1, e2]
  exact h
theorem gsp_200 (ns : Nat) (t : List Int) (hns : (ns : Int) < 65536) (hl : 4 ≤ 3 + t.length) : GsP (200 :: (bg ns 2 ++ t)) (4 + ns) 0 := fun R A c w hr hc hb => by
  have h := gs_200 A c (bg ns 2 ++ t ++ R) ns w hr hc (fun y hy => hb y (List.mem_cons_of_mem _ hy)) (by simp only [List.length_cons, List.length_append, bg_len]; omega) (by rw [List.append_assoc, bg_take3, beN_bgq2 ns (by omega) hns])
  have e1 : (((4 + ns) : Nat) : Int) = 4 + (ns : Int) := by omega
  have e2 : ((0 : Nat) : Int) = 0 := by omega
  rw [e1, e2]
  exact h
theorem gsp_201 (ns : Nat) (t : List Int) (hns : (ns : Int) < 4294967296) (hl : 6 ≤ 5 + t.length) : GsP (201 :: (bg ns 4 ++ t)) (6 + ns) 0 := fun R A c w hr hc hb => by
  have h := gs_201 A c (bg ns 4 ++ t ++ R) ns w hr hc (fun y hy => hb y (List.mem_cons_of_mem _ hy)) (by simp only [List.length_cons, List.length_append, bg_len]; omega) (by rw [List.append_assoc, bg_take3, beN_bgq4 ns (by omega) hns])
  have e1 : (((6 + ns) : Nat) : Int) = 6 + (ns : Int) := by omega
  have e2 : ((0 : Nat) : Int) = 0 := by omega
  rw [e1, e2]
  exact h
theorem gsp_217 (ns : Nat) (t : List Int) (hns : (ns : Int) < 256) (hl : 2 ≤ 2 + t.length) : GsP (217 :: (bg ns 1 ++ t)) (2 + ns) 0 := fun R A c w hr hc hb => by
  have h := gs_217 A c (bg ns 1 ++ t ++ R) ns w hr hc (fun y hy => hb y (List.mem_cons_of_mem _ hy)) (by simp only [List.length_cons, List.length_append, bg_len]; omega) (by rw [List.append_assoc, bg_take3, beN_bgq1 ns (by omega) hns])
  have e1 : (((2 + ns) : Nat) : Int) = 2 + (ns : Int) := by omega
  have e2 : ((0 : Nat) : Int) = 0 := by omega
  rw [e1, e2]
  exact h
theorem gsp_218 (ns : Nat) (t : List Int) (hns : (ns : Int) < 65536) (hl : 3 ≤ 3 + t.length) : GsP (218 :: (bg ns 2 ++ t)) (3 + ns) 0 := fun R A c w hr hc hb => by
  have h := gs_218 A c (bg ns 2 ++ t ++ R) ns w hr hc (fun y hy => hb y (List.mem_cons_of_mem _ hy)) (by simp only [List.length_cons, List.length_append, bg_len]; omega) (by rw [List.append_assoc, bg_take3, beN_bgq2 ns (by omega) hns])
  have e1 : (((3 + ns) : Nat) : Int) = 3 + (ns : Int) := by omega
  have e2 : ((0 : Nat) : Int) = 0 := by omega
  rw [e1, e2]
  exact h
theorem gsp_219 (ns : Nat) (t : List Int) (hns : (ns : Int) < 4294967296) (hl : 5 ≤ 5 + t.length) : GsP (219 :: (bg ns 4 ++ t)) (5 + ns) 0 := fun R A c w hr hc hb => by
  have h := gs_219 A c (bg ns 4 ++ t ++ R) ns w hr hc (fun y hy => hb y (List.mem_cons_of_mem _ hy)) (by simp only [List.length_cons, List.length_append, bg_len]; omega) (by rw [List.append_assoc, bg_take3, beN_bgq4 ns (by omega) hns])
  have e1 : (((5 + ns) : Nat) : Int) = 5 + (ns : Int) := by omega
  have e2 : ((0 : Nat) : Int) = 0 := by omega
  rw [e1, e2]
  exact h
theorem gsp_220 (ns : Nat) (t : List Int) (hns : (ns : Int) < 65536) (hl : 3 ≤ 3 + t.length) : GsP (220 :: (bg ns 2 ++ t)) 3 ns := fun R A c w hr hc hb => by
  have h := gs_220 A c (bg ns 2 ++ t ++ R) ns w hr hc (fun y hy => hb y (List.mem_cons_of_mem _ hy)) (by simp only [List.length_cons, List.length_append, bg_len]; omega) (by rw [List.append_assoc, bg_take3, beN_bgq2 ns (by omega) hns])
  have e1 : ((3 : Nat) : Int) = 3 := by omega
  have e2 : ((ns : Nat) : Int) = (ns : Int) := by omega
  rw [e1, e2]
  exact h
theorem gsp_221 (ns : Nat) (t : List Int) (hns : (ns : Int) < 4294967296) (hl : 5 ≤ 5 + t.length) : GsP (221 :: (bg ns 4 ++ t)) 5 ns := fun R A c w hr hc hb => by
  have h := gs_221 A c (bg ns 4 ++ t ++ R) ns w hr hc (fun y hy => hb y (List.mem_cons_of_mem _ hy)) (by simp only [List.length_cons, List.length_append, bg_len]; omega) (by rw [List.append_assoc, bg_take3, beN_bgq4 ns (by omega) hns])
  have e1 : ((5 : Nat) : Int) = 5 := by omega
  have e2 : ((ns : Nat) : Int) = (ns : Int) := by omega
  rw [e1, e2]
  exact h
theorem gsp_222 (ns : Nat) (t : List Int) (hns : (ns : Int) < 65536) (hl : 3 ≤ 3 + t.length) : GsP (222 :: (bg ns 2 ++ t)) 3 (2 * ns) := fun R A c w hr hc hb => by
  have h := gs_222 A c (bg ns 2 ++ t ++ R) ns w hr hc (fun y hy => hb y (List.mem_cons_of_mem _ hy)) (by simp only [List.length_cons, List.length_append, bg_len]; omega) (by rw [List.append_assoc, bg_take3, beN_bgq2 ns (by omega) hns])
  have e1 : ((3 : Nat) : Int) = 3 := by omega
  have e2 : (((2 * ns) : Nat) : Int) = 2 * (ns : Int) := by omega
  rw [e1, e2]
  exact h
theorem gsp_223 (ns : Nat) (t : List Int) (hns : (ns : Int) < 4294967296) (hl : 5 ≤ 5 + t.length) : GsP (223 :: (bg ns 4 ++ t)) 5 (2 * ns) := fun R A c w hr hc hb => by
  have h := gs_223 A c (bg ns 4 ++ t ++ R) ns w hr hc (fun y hy => hb y (List.mem_cons_of_mem _ hy)) (by simp only [List.length_cons, List.length_append, bg_len]; omega) (by rw [List.append_assoc, bg_take3, beN_bgq4 ns (by omega) hns])
  have e1 : ((5 : Nat) : Int) = 5 := by omega
  have e2 : (((2 * ns) : Nat) : Int) = 2 * (ns : Int) := by omega
  rw [e1, e2]
  exact h

/-- A head and what stands behind it: how much getSize takes. -/
theorem size_put {k n x lv : Int} {s : ByteArray} {m : Nat} {K : Fin m → Pk} {d : List Int} (h : PutD (.mk k n s x m K) d) (hn : NumP (.mk k n s x m K)) (hf : FitP (.mk k n s x m K) lv) :
    ∃ (sz : Nat) (ds : Nat → List Int), 0 < sz ∧ sz ≤ d.length ∧ d.drop sz = cat ds m ∧ (∀ i : Fin m, PutD (K i) (ds i)) ∧ GsP d sz m := by
  unfold NumP at hn
  obtain ⟨hn0, hn1, hn2, _⟩ := hn
  unfold FitP at hf
  obtain ⟨_, _, _, hm0, _, _, _, _, _, _, _, hev, hm, hs, _⟩ := hf
  have hL := bys_len s
  unfold PutD at h
  -- one that has no values behind it
  have one : k ≠ 8 → k ≠ 9 → 0 < d.length → GsP d d.length 0 → ∃ (sz : Nat) (ds : Nat → List Int), 0 < sz ∧ sz ≤ d.length ∧ d.drop sz = cat ds m ∧ (∀ i : Fin m, PutD (K i) (ds i)) ∧ GsP d sz m := fun h8 h9 hp hg => by
    have hz := hm0 h8 h9
    subst hz
    exact ⟨d.length, fun _ => [], hp, Nat.le_refl _, by rw [List.drop_length]; rfl, fun i => i.elim0, hg⟩
  have pos : ∀ d, PosD n d → 0 < d.length ∧ GsP d d.length 0 := fun d hd => by
    rcases hd with ⟨h2, rfl⟩ | ⟨f, hf, _, rfl⟩ | ⟨f, hf, _, rfl⟩
    · exact ⟨by simp, show GsP [n] 1 0 from GsP.fix hn0 (by omega) (bspec_1 h2) (by omega) (by omega) (by omega)⟩
    · simp only [List.mem_cons, List.not_mem_nil, or_false] at hf
      rcases hf with rfl | rfl | rfl | rfl <;> exact ⟨by simp, by rw [List.length_cons, bg_len]; exact GsP.fix (by omega) (by omega) (by decide) (by omega) (by omega) (by omega)⟩
    · simp only [List.mem_cons, List.not_mem_nil, or_false] at hf
      rcases hf with rfl | rfl | rfl | rfl <;> exact ⟨by simp, by rw [List.length_cons, bg_len]; exact GsP.fix (by omega) (by omega) (by decide) (by omega) (by omega) (by omega)⟩
  have neg : ∀ d, NegD n d → 0 < d.length ∧ GsP d d.length 0 := fun d hd => by
    rcases hd with ⟨h2, rfl⟩ | ⟨f, hf, _, rfl⟩
    · exact ⟨by simp, show GsP [n % 256] 1 0 from GsP.fix (by omega) (by omega) (bspec_5 (by omega)) (by omega) (by omega) (by omega)⟩
    · simp only [List.mem_cons, List.not_mem_nil, or_false] at hf
      rcases hf with rfl | rfl | rfl | rfl <;> exact ⟨by simp, by rw [List.length_cons, bg_len]; exact GsP.fix (by omega) (by omega) (by decide) (by omega) (by omega) (by omega)⟩
  rcases h with ⟨rfl, rfl⟩ | ⟨rfl, rfl⟩ | ⟨rfl, _, h⟩ | ⟨rfl, _, h⟩ | ⟨rfl, h⟩ | ⟨rfl, rfl⟩ | ⟨rfl, rfl⟩ | ⟨rfl, hd, hh, rfl⟩ | ⟨rfl, hd, hh, rfl⟩ | ⟨rfl, hd, hh, rfl⟩ | ⟨rfl, hd, ds, hh, rfl, ha⟩ | ⟨rfl, hd, ds, hh, rfl, ha⟩
  · exact one (by omega) (by omega) (by simp) (show GsP [192] 1 0 from GsP.fix (by omega) (by omega) (by decide) (by omega) (by omega) (by omega))
  · refine one (by omega) (by omega) (by simp) (show GsP [194 + n] 1 0 from ?_)
    have := hn2 rfl
    obtain rfl | rfl : n = 0 ∨ n = 1 := by omega
    · exact GsP.fix (by omega) (by omega) (by decide) (by omega) (by omega) (by omega)
    · exact GsP.fix (by omega) (by omega) (by decide) (by omega) (by omega) (by omega)
  · exact one (by omega) (by omega) (neg d h).1 (neg d h).2
  · exact one (by omega) (by omega) (pos d h).1 (pos d h).2
  · exact one (by omega) (by omega) (pos d h).1 (pos d h).2
  · exact one (by omega) (by omega) (by simp) (by rw [List.length_cons, bg_len]; exact GsP.fix (by omega) (by omega) (by decide) (by omega) (by omega) (by omega))
  · exact one (by omega) (by omega) (by simp) (by rw [List.length_cons, bg_len]; exact GsP.fix (by omega) (by omega) (by decide) (by omega) (by omega) (by omega))
  · rcases hh with ⟨a1, a2, rfl⟩ | ⟨f, hf, ho, rfl⟩
    · refine one (by omega) (by omega) (by simp) ?_
      rw [show ([160 + (s.size : Int)] ++ bys s).length = 1 + s.size by rw [List.length_append, hL]; rfl]
      exact GsP.fix (by omega) (by omega) (by rw [bspec_4 (by omega) (by omega)]; congr 1; omega) (by omega) (by omega) (by omega)
    · simp only [List.mem_cons, List.not_mem_nil, or_false] at hf
      rcases hf with rfl | rfl | rfl
      · refine one (by omega) (by omega) (by simp) ?_
        simp only [okf_1, decide_eq_true_eq] at ho
        rw [show (((217 : Int) :: bg s.size 1) ++ bys s).length = 2 + s.size by rw [List.length_append, List.length_cons, bg_len, hL]]
        exact gsp_217 s.size (bys s) (by omega) (by omega)
      · refine one (by omega) (by omega) (by simp) ?_
        simp only [okf_2, decide_eq_true_eq] at ho
        rw [show (((218 : Int) :: bg s.size 2) ++ bys s).length = 3 + s.size by rw [List.length_append, List.length_cons, bg_len, hL]]
        exact gsp_218 s.size (bys s) (by omega) (by omega)
      · refine one (by omega) (by omega) (by simp) ?_
        simp only [okf_4, decide_eq_true_eq] at ho
        rw [show (((219 : Int) :: bg s.size 4) ++ bys s).length = 5 + s.size by rw [List.length_append, List.length_cons, bg_len, hL]]
        exact gsp_219 s.size (bys s) (by omega) (by omega)
  · rcases hh with ⟨a1, a2, rfl⟩ | ⟨f, hf, ho, rfl⟩
    · omega
    · simp only [List.mem_cons, List.not_mem_nil, or_false] at hf
      rcases hf with rfl | rfl | rfl
      · refine one (by omega) (by omega) (by simp) ?_
        simp only [okf_1, decide_eq_true_eq] at ho
        rw [show (((196 : Int) :: bg s.size 1) ++ bys s).length = 2 + s.size by rw [List.length_append, List.length_cons, bg_len, hL]]
        exact gsp_196 s.size (bys s) (by omega) (by omega)
      · refine one (by omega) (by omega) (by simp) ?_
        simp only [okf_2, decide_eq_true_eq] at ho
        rw [show (((197 : Int) :: bg s.size 2) ++ bys s).length = 3 + s.size by rw [List.length_append, List.length_cons, bg_len, hL]]
        exact gsp_197 s.size (bys s) (by omega) (by omega)
      · refine one (by omega) (by omega) (by simp) ?_
        simp only [okf_4, decide_eq_true_eq] at ho
        rw [show (((198 : Int) :: bg s.size 4) ++ bys s).length = 5 + s.size by rw [List.length_append, List.length_cons, bg_len, hL]]
        exact gsp_198 s.size (bys s) (by omega) (by omega)
  · rcases hh with ⟨p, hp, hz, rfl⟩ | ⟨f, hf, ho, rfl⟩
    · simp only [List.mem_cons, List.not_mem_nil, or_false] at hp
      rcases hp with rfl | rfl | rfl | rfl | rfl
      · refine one (by omega) (by omega) (by simp) ?_
        replace hz : (s.size : Int) = 1 := hz
        rw [show ([(212 : Int), x % 256] ++ bys s).length = 3 by rw [List.length_append, hL]; show 2 + s.size = _; omega]
        exact GsP.fix (by omega) (by omega) (by decide) (by omega) (by omega) (by omega)
      · refine one (by omega) (by omega) (by simp) ?_
        replace hz : (s.size : Int) = 2 := hz
        rw [show ([(213 : Int), x % 256] ++ bys s).length = 4 by rw [List.length_append, hL]; show 2 + s.size = _; omega]
        exact GsP.fix (by omega) (by omega) (by decide) (by omega) (by omega) (by omega)
      · refine one (by omega) (by omega) (by simp) ?_
        replace hz : (s.size : Int) = 4 := hz
        rw [show ([(214 : Int), x % 256] ++ bys s).length = 6 by rw [List.length_append, hL]; show 2 + s.size = _; omega]
        exact GsP.fix (by omega) (by omega) (by decide) (by omega) (by omega) (by omega)
      · refine one (by omega) (by omega) (by simp) ?_
        replace hz : (s.size : Int) = 8 := hz
        rw [show ([(215 : Int), x % 256] ++ bys s).length = 10 by rw [List.length_append, hL]; show 2 + s.size = _; omega]
        exact GsP.fix (by omega) (by omega) (by decide) (by omega) (by omega) (by omega)
      · refine one (by omega) (by omega) (by simp) ?_
        replace hz : (s.size : Int) = 16 := hz
        rw [show ([(216 : Int), x % 256] ++ bys s).length = 18 by rw [List.length_append, hL]; show 2 + s.size = _; omega]
        exact GsP.fix (by omega) (by omega) (by decide) (by omega) (by omega) (by omega)
    · simp only [List.mem_cons, List.not_mem_nil, or_false] at hf
      rcases hf with rfl | rfl | rfl
      · refine one (by omega) (by omega) (by simp) ?_
        simp only [okf_1, decide_eq_true_eq] at ho
        have e : (((199 : Int) :: bg s.size 1) ++ [x % 256]) ++ bys s = 199 :: (bg s.size 1 ++ (x % 256 :: bys s)) := by simp
        rw [e, show ((199 : Int) :: (bg s.size 1 ++ (x % 256 :: bys s))).length = 3 + s.size by rw [List.length_cons, List.length_append, bg_len, List.length_cons, hL]; omega]
        exact gsp_199 s.size (x % 256 :: bys s) (by omega) (by rw [List.length_cons]; omega)
      · refine one (by omega) (by omega) (by simp) ?_
        simp only [okf_2, decide_eq_true_eq] at ho
        have e : (((200 : Int) :: bg s.size 2) ++ [x % 256]) ++ bys s = 200 :: (bg s.size 2 ++ (x % 256 :: bys s)) := by simp
        rw [e, show ((200 : Int) :: (bg s.size 2 ++ (x % 256 :: bys s))).length = 4 + s.size by rw [List.length_cons, List.length_append, bg_len, List.length_cons, hL]; omega]
        exact gsp_200 s.size (x % 256 :: bys s) (by omega) (by rw [List.length_cons]; omega)
      · refine one (by omega) (by omega) (by simp) ?_
        simp only [okf_4, decide_eq_true_eq] at ho
        have e : (((201 : Int) :: bg s.size 4) ++ [x % 256]) ++ bys s = 201 :: (bg s.size 4 ++ (x % 256 :: bys s)) := by simp
        rw [e, show ((201 : Int) :: (bg s.size 4 ++ (x % 256 :: bys s))).length = 6 + s.size by rw [List.length_cons, List.length_append, bg_len, List.length_cons, hL]; omega]
        exact gsp_201 s.size (x % 256 :: bys s) (by omega) (by rw [List.length_cons]; omega)
  · rcases hh with ⟨a1, a2, rfl⟩ | ⟨f, hf, ho, rfl⟩
    · refine ⟨1, ds, by omega, by simp, rfl, ha, ?_⟩
      exact GsP.fix (by omega) (by omega) (by rw [bspec_3 (by omega) (by omega)]; congr 1; omega) (by omega) (by omega) (by omega)
    · simp only [List.mem_cons, List.not_mem_nil, or_false] at hf
      rcases hf with rfl | rfl
      · simp only [okf_2, decide_eq_true_eq] at ho
        refine ⟨3, ds, by omega, by rw [List.length_append, List.length_cons, bg_len]; omega, ?_, ha, ?_⟩
        · show (bg (m : Int) 2 ++ cat ds m).drop 2 = _
          exact bg_drop3 _ _ _
        · exact gsp_220 m (cat ds m) (by omega) (by omega)
      · simp only [okf_4, decide_eq_true_eq] at ho
        refine ⟨5, ds, by omega, by rw [List.length_append, List.length_cons, bg_len]; omega, ?_, ha, ?_⟩
        · show (bg (m : Int) 4 ++ cat ds m).drop 4 = _
          exact bg_drop3 _ _ _
        · exact gsp_221 m (cat ds m) (by omega) (by omega)
  · rcases hh with ⟨a1, a2, rfl⟩ | ⟨f, hf, ho, rfl⟩
    all_goals have he := hev rfl
    · refine ⟨1, ds, by omega, by simp, rfl, ha, ?_⟩
      exact GsP.fix (by omega) (by omega) (by rw [bspec_2 (by omega) (by omega)]; congr 1; omega) (by omega) (by omega) (by omega)
    · simp only [List.mem_cons, List.not_mem_nil, or_false] at hf
      rcases hf with rfl | rfl
      · simp only [okf_2, decide_eq_true_eq] at ho
        refine ⟨3, ds, by omega, by rw [List.length_append, List.length_cons, bg_len]; omega, ?_, ha, ?_⟩
        · show (bg ((m / 2 : Nat) : Int) 2 ++ cat ds m).drop 2 = _
          exact bg_drop3 _ _ _
        · have hg := gsp_222 (m / 2) (cat ds m) (by omega) (by omega)
          rwa [show 2 * (m / 2) = m by omega] at hg
      · simp only [okf_4, decide_eq_true_eq] at ho
        refine ⟨5, ds, by omega, by rw [List.length_append, List.length_cons, bg_len]; omega, ?_, ha, ?_⟩
        · show (bg ((m / 2 : Nat) : Int) 4 ++ cat ds m).drop 4 = _
          exact bg_drop3 _ _ _
        · have hg := gsp_223 (m / 2) (cat ds m) (by omega) (by omega)
          rwa [show 2 * (m / 2) = m by omega] at hg

end Go.Proofs.YtooifcdkpddlmaaDoor
