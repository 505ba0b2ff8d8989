/- The plain law of MessagePack's bytes: what is written is read, what is refused. No condition. -/
import Derived.Test.YtcipapjlkibleaaDoorReadN
import Derived.Test.YtcipapjlkibleaaDoorNumL
import Derived.Test.YtcipapjlkibleaaDoorPutK
namespace Go.Proofs.YtcipapjlkibleaaDoor
set_option linter.unusedVariables false
set_option linter.unusedSimpArgs false
open Go.RowKit

def TabN : List (Int × Nat) := [(196, 1), (197, 2), (198, 4)]
def RefN (L : List Int) : Prop :=
  L = [] ∨ ∃ b r, L = b :: r ∧ 0 ≤ b ∧ b < 256 ∧ ((b ≠ 196 ∧ b ≠ 197 ∧ b ≠ 198) ∨ ∃ p ∈ TabN, b = p.1 ∧ (r.length < p.2 ∨ (Byt r ∧ p.2 ≤ r.length ∧ ((r.drop p.2).length : Int) < beN (r.take p.2))))
theorem readN_refused (A : Option Addr) (c : Nat) (L : List Int) (w : World) (hr : Rd u8 w A L) (hc : L.length ≤ c) (hs : Sh w) (h : RefN L) : Calls Tryd.prog 12 #[.slice A L.length c] w (BinNo w) := by
  rcases h with rfl | ⟨b, r, rfl, h0, h1, h⟩
  · exact getBin_no _ _ (readM_no _ _ (readN_nil A c w hs))
  · rcases h with ⟨h6, h7, h8⟩ | ⟨p, hp, e, h⟩
    · exact getBin_no _ _ (readM_no _ _ (readN_other A c b r w hr hc h0 h1 h6 h7 h8))
    · simp only [TabN, List.mem_cons, List.not_mem_nil, or_false] at hp
      rcases hp with rfl | rfl | rfl
      · rcases h with h | ⟨hb, hn, hq⟩
        · exact getBin_no _ _ (readM_no _ _ (readN_short_1 A c b r w hr hc hs h e))
        · exact getBin_no _ _ (readM_no _ _ (readN_cut_1 A c b r w hr hc hb hn hs hq e))
      · rcases h with h | ⟨hb, hn, hq⟩
        · exact getBin_no _ _ (readM_no _ _ (readN_short_2 A c b r w hr hc hs h e))
        · exact getBin_no _ _ (readM_no _ _ (readN_cut_2 A c b r w hr hc hb hn hs hq e))
      · rcases h with h | ⟨hb, hn, hq⟩
        · exact getBin_no _ _ (readM_no _ _ (readN_short_4 A c b r w hr hc hs h e))
        · exact getBin_no _ _ (readM_no _ _ (readN_cut_4 A c b r w hr hc hb hn hs hq e))

theorem putD_seven {n x : Int} {s : ByteArray} {m : Nat} {K : Fin m → Pk} {d : List Int} (h : PutD (.mk 7 n s x m K) d) : ∃ p ∈ TabN, (s.size : Int) < 256 ^ p.2 ∧ d = p.1 :: (bg s.size p.2 ++ bys s) := by
  unfold PutD at h
  have hh : ∃ hd, HdB (-1) 0 [(196, 1), (197, 2), (198, 4)] s.size hd ∧ d = hd ++ bys s := by
    rcases h with ⟨e, _⟩ | ⟨e, _⟩ | ⟨e, _⟩ | ⟨e, _⟩ | ⟨e, _⟩ | ⟨e, _⟩ | ⟨e, _⟩ | ⟨e, _⟩ | ⟨_, h⟩ | ⟨e, _⟩ | ⟨e, _⟩ | ⟨e, _⟩
    all_goals first
    | exact h
    | (exfalso; omega)
  obtain ⟨hd, h1, rfl⟩ := hh
  rcases h1 with ⟨h1, _⟩ | ⟨f, hf, ho, rfl⟩
  · omega
  · refine ⟨f, hf, ?_, rfl⟩
    simp only [List.mem_cons, List.not_mem_nil, or_false] at hf
    rcases hf with rfl | rfl | rfl
    · simp only [okf_1, decide_eq_true_eq] at ho; show (s.size : Int) < 256 ^ 1; omega
    · simp only [okf_2, decide_eq_true_eq] at ho; show (s.size : Int) < 256 ^ 2; omega
    · simp only [okf_4, decide_eq_true_eq] at ho; show (s.size : Int) < 256 ^ 4; omega
theorem beN_bgt (p : Int × Nat) (hp : p ∈ TabN) (u : Int) (h0 : 0 ≤ u) (h1 : u < 256 ^ p.2) : beN (bg u p.2) = u := by
  simp only [TabN, List.mem_cons, List.not_mem_nil, or_false] at hp
  rcases hp with rfl | rfl | rfl
  · exact beN_bgr1 u h0 h1
  · exact beN_bgr2 u h0 h1
  · exact beN_bgr4 u h0 h1
theorem getBin_good {n x : Int} {s : ByteArray} {m : Nat} {K : Fin m → Pk} {d : List Int} (hd : PutD (.mk 7 n s x m K) d) (hs : s.size ≤ 131072) (A : Option Addr) (c : Nat) (l : List Int) (w : World) (hl : l.length ≤ 100) (hb : Byt l) (hr : Rd u8 w A (d ++ l)) (hc : (d ++ l).length ≤ c) :
    Calls Tryd.prog 12 #[.slice A (d ++ l).length c] w (BinOk (bys s) l w) := by
  obtain ⟨p, hp, hq, rfl⟩ := putD_seven hd
  have hbe := beN_bgt p hp s.size (by omega) hq
  have hL := bys_len s
  have hby : Byt (bg s.size p.2 ++ bys s ++ l) := ((byt_bg _ _).append (byt_bys s)).append hb
  have ht : (bg s.size p.2 ++ bys s ++ l).take p.2 = bg s.size p.2 := by rw [List.append_assoc, bg_take]
  have hdr : (bg s.size p.2 ++ bys s ++ l).drop p.2 = bys s ++ l := by rw [List.append_assoc, bg_drop]
  have hln : p.2 ≤ (bg s.size p.2 ++ bys s ++ l).length := by rw [List.length_append, List.length_append, bg_len]; omega
  refine getBin_ok _ _ _ _ (by omega) (by omega) (readM_ok _ _ _ _ ?_)
  by_cases h0 : s.size = 0
  · have hnil : bys s = [] := List.eq_nil_of_length_eq_zero (by omega)
    have hz : beN ((bg s.size p.2 ++ bys s ++ l).take p.2) = 0 := by rw [ht, hbe, h0]; rfl
    simp only [TabN, List.mem_cons, List.not_mem_nil, or_false] at hp
    rcases hp with rfl | rfl | rfl
    · have hdr' : (bg s.size 1 ++ bys s ++ l).drop 1 = bys s ++ l := hdr
      have h := readN_zero_1 A c 196 (bg s.size 1 ++ bys s ++ l) w hr hc hby hln hz rfl
      rw [hdr'] at h
      have e3 : bys s ++ l = l := by rw [hnil, List.nil_append]
      rw [e3] at h
      rw [hnil]
      rw [hnil] at h
      exact h
    · have hdr' : (bg s.size 2 ++ bys s ++ l).drop 2 = bys s ++ l := hdr
      have h := readN_zero_2 A c 197 (bg s.size 2 ++ bys s ++ l) w hr hc hby hln hz rfl
      rw [hdr'] at h
      have e3 : bys s ++ l = l := by rw [hnil, List.nil_append]
      rw [e3] at h
      rw [hnil]
      rw [hnil] at h
      exact h
    · have hdr' : (bg s.size 4 ++ bys s ++ l).drop 4 = bys s ++ l := hdr
      have h := readN_zero_4 A c 198 (bg s.size 4 ++ bys s ++ l) w hr hc hby hln hz rfl
      rw [hdr'] at h
      have e3 : bys s ++ l = l := by rw [hnil, List.nil_append]
      rw [e3] at h
      rw [hnil]
      rw [hnil] at h
      exact h

  · have hz : beN ((bg s.size p.2 ++ bys s ++ l).take p.2) = (s.size : Nat) := by rw [ht, hbe]
    have hq8 : s.size ≤ ((bg s.size p.2 ++ bys s ++ l).drop p.2).length := by rw [hdr, List.length_append]; omega
    have e1 : (bys s ++ l).take s.size = bys s := by rw [← hL, List.take_left']; rfl
    have e2 : (bys s ++ l).drop s.size = l := by rw [← hL, List.drop_left']; rfl
    simp only [TabN, List.mem_cons, List.not_mem_nil, or_false] at hp
    rcases hp with rfl | rfl | rfl
    · have hdr' : (bg s.size 1 ++ bys s ++ l).drop 1 = bys s ++ l := hdr
      have h := readN_some_1 A c 196 (bg s.size 1 ++ bys s ++ l) w hr hc hby hln s.size (by omega) hz hq8 rfl
      rw [hdr', e1, e2] at h
      exact h
    · have hdr' : (bg s.size 2 ++ bys s ++ l).drop 2 = bys s ++ l := hdr
      have h := readN_some_2 A c 197 (bg s.size 2 ++ bys s ++ l) w hr hc hby hln s.size (by omega) hz hq8 rfl
      rw [hdr', e1, e2] at h
      exact h
    · have hdr' : (bg s.size 4 ++ bys s ++ l).drop 4 = bys s ++ l := hdr
      have h := readN_some_4 A c 198 (bg s.size 4 ++ bys s ++ l) w hr hc hby hln s.size (by omega) hz hq8 rfl
      rw [hdr', e1, e2] at h
      exact h

theorem bin_cut {n x : Int} {s : ByteArray} {m : Nat} {K : Fin m → Pk} {d : List Int} (hd : PutD (.mk 7 n s x m K) d) (k : Nat) (hk : k < d.length ∨ d = []) : RefN (d.take k) := by
  obtain ⟨p, hp, hq, rfl⟩ := putD_seven hd
  have hL := bys_len s
  cases k with
  | zero => exact .inl rfl
  | succ k =>
    have hbe := beN_bgt p hp s.size (by omega) hq
    have hc : 0 ≤ p.1 ∧ p.1 < 256 := by
      have hp' := hp
      simp only [TabN, List.mem_cons, List.not_mem_nil, or_false] at hp'
      rcases hp' with rfl | rfl | rfl <;> simp
    have hk' : k < p.2 + s.size := by
      rcases hk with hk | hk
      · simp only [List.length_cons, List.length_append, bg_len, hL] at hk; omega
      · cases hk
    refine .inr ⟨p.1, (bg s.size p.2 ++ bys s).take k, rfl, hc.1, hc.2, .inr ⟨p, hp, rfl, ?_⟩⟩
    by_cases hkn : k < p.2
    · exact .inl (by rw [List.length_take]; omega)
    · refine .inr ⟨((byt_bg _ _).append (byt_bys s)).take k, by simp only [List.length_take, List.length_append, bg_len]; omega, ?_⟩
      have e1 : ((bg s.size p.2 ++ bys s).take k).take p.2 = bg s.size p.2 := by rw [List.take_take, show min p.2 k = p.2 by omega, bg_take]
      rw [e1, hbe, List.length_drop, List.length_take, List.length_append, bg_len, hL]
      omega
theorem bin_oth {d : List Int} (l : List Int) (h : ∃ b r, d = b :: r ∧ 0 ≤ b ∧ b < 256 ∧ b ≠ 196 ∧ b ≠ 197 ∧ b ≠ 198) (k : Nat) : RefN (d.take k) ∧ RefN (d ++ l) := by
  obtain ⟨b, r, rfl, h0, h1, h6⟩ := h
  refine ⟨?_, .inr ⟨b, r ++ l, rfl, h0, h1, .inl h6⟩⟩
  cases k with
  | zero => exact .inl rfl
  | succ k => exact .inr ⟨b, r.take k, rfl, h0, h1, .inl h6⟩
end Go.Proofs.YtcipapjlkibleaaDoor
