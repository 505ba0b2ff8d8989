/- The law of MessagePack's reader of heads of maps. No condition. -/
import Derived.Test.YtcipapjlkibleaaDoorPutH
namespace Go.Proofs.YtcipapjlkibleaaDoor
set_option linter.unusedVariables false
set_option linter.unusedSimpArgs false
open Go.RowKit

/-! ### The plain law -/
def Rf (l : List Int) : Prop := l = [] ∨ ∃ b r, l = b :: r ∧ 0 ≤ b ∧ b < 256 ∧ ¬ (128 ≤ b ∧ b < 144) ∧ (b = 222 → r.length < 2) ∧ (b = 223 → r.length < 4)
theorem getMap_refused (A : Option Addr) (c : Nat) (l : List Int) (w : World) (hr : Rd u8 w A l) (hc : l.length ≤ c) (hs : Sh w) (h : Rf l) : Calls Tryd.prog 8 #[.slice A l.length c] w (GmNo w) := by
  rcases h with rfl | ⟨b, r, rfl, h0, h1, h2, h3, h4⟩
  · exact getMap_no _ w (readMap_nil A c w hs)
  · by_cases e1 : b = 222
    · exact getMap_no _ w (readMap_s16 A c b r w hr hc hs (h3 e1) e1)
    · by_cases e2 : b = 223
      · exact getMap_no _ w (readMap_s32 A c b r w hr hc hs (h4 e2) e2)
      · exact getMap_no _ w (readMap_other A c b r w hr hc h0 h1 h2 e1 e2)
theorem beN_bg2 (n : Int) (h0 : 0 ≤ n) (h1 : n / 256 ^ 2 = 0) : beN (bg n 2) = n := by
  simp [bg, beN, List.range, List.range.loop]
  omega
theorem beN_bg4 (n : Int) (h0 : 0 ≤ n) (h1 : n < 4294967296) : beN (bg n 4) = n := by
  simp [bg, beN, List.range, List.range.loop]
  omega
theorem getMap_head (A : Option Addr) (c : Nat) (n : Int) (d l : List Int) (w : World) (hd : HdB 128 16 [(222, 2), (223, 4)] n d) (hb : Byt l) (hr : Rd u8 w A (d ++ l)) (hc : (d ++ l).length ≤ c) (h0 : 0 ≤ n) (h1 : n < 4294967296) (hl : l.length ≤ 35184372088832) :
    Calls Tryd.prog 8 #[.slice A (d ++ l).length c] w (GmOk n l w) := by
  rcases hd with ⟨_, hn, rfl⟩ | ⟨f, hf, ho, rfl⟩
  · have h := readMap_fix A c (128 + n) l w hr hc (by omega) (by omega)
    rw [show 128 + n - 128 = n by omega] at h
    exact getMap_ok _ n l w hl h
  · simp only [List.mem_cons, List.not_mem_nil, or_false] at hf
    rcases hf with rfl | rfl
    · have hz : n / 256 ^ 2 = 0 := by simpa [okf] using ho
      have h := readMap_16 A c 222 (bg n 2 ++ l) w hr hc ((byt_bg n 2).append hb) (by rw [List.length_append, bg_len]; omega) rfl
      rw [List.take_append_of_le_length (by simp [bg_len]), List.take_of_length_le (by simp [bg_len]), beN_bg2 n h0 hz, List.drop_append_of_le_length (by simp [bg_len]), List.drop_of_length_le (by simp [bg_len]), List.nil_append] at h
      exact getMap_ok _ n l w hl h
    · have h := readMap_32 A c 223 (bg n 4 ++ l) w hr hc ((byt_bg n 4).append hb) (by rw [List.length_append, bg_len]; omega) rfl
      rw [List.take_append_of_le_length (by simp [bg_len]), List.take_of_length_le (by simp [bg_len]), beN_bg4 n h0 h1, List.drop_append_of_le_length (by simp [bg_len]), List.drop_of_length_le (by simp [bg_len]), List.nil_append] at h
      exact getMap_ok _ n l w hl h
theorem len_8 {n : Int} {d : List Int} (h : HdB (144) 16 [(220, 2), (221, 4)] n d) : 0 < d.length ∧ d.length ≤ 5 := by
  rcases h with ⟨_, _, rfl⟩ | ⟨f, hf, _, rfl⟩
  · simp
  · simp only [List.mem_cons, List.not_mem_nil, or_false] at hf
    rcases hf with rfl | rfl <;> simp [bg_len]
theorem cut_8 {n : Int} {d : List Int} (h : HdB (144) 16 [(220, 2), (221, 4)] n d) (h0 : 0 ≤ n) : Rf (d.take (d.length - 1)) := by
  rcases h with ⟨_, _, rfl⟩ | ⟨f, hf, _, rfl⟩
  · exact .inl (by simp)
  · simp only [List.mem_cons, List.not_mem_nil, or_false] at hf
    rcases hf with rfl | rfl
    · refine .inr ⟨220, (bg n 2).take 1, by simp [bg_len, List.take], by omega, by omega, by omega, fun h => ?_, fun h => ?_⟩ <;> simp [bg_len] at h ⊢
    · refine .inr ⟨221, (bg n 4).take 3, by simp [bg_len, List.take], by omega, by omega, by omega, fun h => ?_, fun h => ?_⟩ <;> simp [bg_len] at h ⊢
theorem kind_8 {n : Int} {d : List Int} (h : HdB (144) 16 [(220, 2), (221, 4)] n d) (h0 : 0 ≤ n) (l : List Int) : Rf (d ++ l) := by
  rcases h with ⟨_, _, rfl⟩ | ⟨f, hf, _, rfl⟩
  · exact .inr ⟨_, l, rfl, by omega, by omega, by omega, fun h => by omega, fun h => by omega⟩
  · simp only [List.mem_cons, List.not_mem_nil, or_false] at hf
    rcases hf with rfl | rfl
    · exact .inr ⟨220, bg n 2 ++ l, rfl, by omega, by omega, by omega, fun h => by omega, fun h => by omega⟩
    · exact .inr ⟨221, bg n 4 ++ l, rfl, by omega, by omega, by omega, fun h => by omega, fun h => by omega⟩
theorem len_9 {n : Int} {d : List Int} (h : HdB (128) 16 [(222, 2), (223, 4)] n d) : 0 < d.length ∧ d.length ≤ 5 := by
  rcases h with ⟨_, _, rfl⟩ | ⟨f, hf, _, rfl⟩
  · simp
  · simp only [List.mem_cons, List.not_mem_nil, or_false] at hf
    rcases hf with rfl | rfl <;> simp [bg_len]
theorem cut_9 {n : Int} {d : List Int} (h : HdB (128) 16 [(222, 2), (223, 4)] n d) (h0 : 0 ≤ n) : Rf (d.take (d.length - 1)) := by
  rcases h with ⟨_, _, rfl⟩ | ⟨f, hf, _, rfl⟩
  · exact .inl (by simp)
  · simp only [List.mem_cons, List.not_mem_nil, or_false] at hf
    rcases hf with rfl | rfl
    · refine .inr ⟨222, (bg n 2).take 1, by simp [bg_len, List.take], by omega, by omega, by omega, fun h => ?_, fun h => ?_⟩ <;> simp [bg_len] at h ⊢
    · refine .inr ⟨223, (bg n 4).take 3, by simp [bg_len, List.take], by omega, by omega, by omega, fun h => ?_, fun h => ?_⟩ <;> simp [bg_len] at h ⊢
theorem len_7 {n : Int} {d : List Int} (h : HdB (-1) 0 [(196, 1), (197, 2), (198, 4)] n d) : 0 < d.length ∧ d.length ≤ 5 := by
  rcases h with ⟨_, _, rfl⟩ | ⟨f, hf, _, rfl⟩
  · simp
  · simp only [List.mem_cons, List.not_mem_nil, or_false] at hf
    rcases hf with rfl | rfl | rfl <;> simp [bg_len]
theorem cut_7 {n : Int} {d : List Int} (h : HdB (-1) 0 [(196, 1), (197, 2), (198, 4)] n d) (h0 : 0 ≤ n) : Rf (d.take (d.length - 1)) := by
  rcases h with ⟨_, _, rfl⟩ | ⟨f, hf, _, rfl⟩
  · exact .inl (by simp)
  · simp only [List.mem_cons, List.not_mem_nil, or_false] at hf
    rcases hf with rfl | rfl | rfl
    · refine .inr ⟨196, (bg n 1).take 0, by simp [bg_len, List.take], by omega, by omega, by omega, fun h => ?_, fun h => ?_⟩ <;> simp [bg_len] at h ⊢
    · refine .inr ⟨197, (bg n 2).take 1, by simp [bg_len, List.take], by omega, by omega, by omega, fun h => ?_, fun h => ?_⟩ <;> simp [bg_len] at h ⊢
    · refine .inr ⟨198, (bg n 4).take 3, by simp [bg_len, List.take], by omega, by omega, by omega, fun h => ?_, fun h => ?_⟩ <;> simp [bg_len] at h ⊢
theorem kind_7 {n : Int} {d : List Int} (h : HdB (-1) 0 [(196, 1), (197, 2), (198, 4)] n d) (h0 : 0 ≤ n) (l : List Int) : Rf (d ++ l) := by
  rcases h with ⟨_, _, rfl⟩ | ⟨f, hf, _, rfl⟩
  · exact .inr ⟨_, l, rfl, by omega, by omega, by omega, fun h => by omega, fun h => by omega⟩
  · simp only [List.mem_cons, List.not_mem_nil, or_false] at hf
    rcases hf with rfl | rfl | rfl
    · exact .inr ⟨196, bg n 1 ++ l, rfl, by omega, by omega, by omega, fun h => by omega, fun h => by omega⟩
    · exact .inr ⟨197, bg n 2 ++ l, rfl, by omega, by omega, by omega, fun h => by omega, fun h => by omega⟩
    · exact .inr ⟨198, bg n 4 ++ l, rfl, by omega, by omega, by omega, fun h => by omega, fun h => by omega⟩
theorem len_6 {n : Int} {d : List Int} (h : HdB (160) 32 [(217, 1), (218, 2), (219, 4)] n d) : 0 < d.length ∧ d.length ≤ 5 := by
  rcases h with ⟨_, _, rfl⟩ | ⟨f, hf, _, rfl⟩
  · simp
  · simp only [List.mem_cons, List.not_mem_nil, or_false] at hf
    rcases hf with rfl | rfl | rfl <;> simp [bg_len]
theorem cut_6 {n : Int} {d : List Int} (h : HdB (160) 32 [(217, 1), (218, 2), (219, 4)] n d) (h0 : 0 ≤ n) : Rf (d.take (d.length - 1)) := by
  rcases h with ⟨_, _, rfl⟩ | ⟨f, hf, _, rfl⟩
  · exact .inl (by simp)
  · simp only [List.mem_cons, List.not_mem_nil, or_false] at hf
    rcases hf with rfl | rfl | rfl
    · refine .inr ⟨217, (bg n 1).take 0, by simp [bg_len, List.take], by omega, by omega, by omega, fun h => ?_, fun h => ?_⟩ <;> simp [bg_len] at h ⊢
    · refine .inr ⟨218, (bg n 2).take 1, by simp [bg_len, List.take], by omega, by omega, by omega, fun h => ?_, fun h => ?_⟩ <;> simp [bg_len] at h ⊢
    · refine .inr ⟨219, (bg n 4).take 3, by simp [bg_len, List.take], by omega, by omega, by omega, fun h => ?_, fun h => ?_⟩ <;> simp [bg_len] at h ⊢
theorem kind_6 {n : Int} {d : List Int} (h : HdB (160) 32 [(217, 1), (218, 2), (219, 4)] n d) (h0 : 0 ≤ n) (l : List Int) : Rf (d ++ l) := by
  rcases h with ⟨_, _, rfl⟩ | ⟨f, hf, _, rfl⟩
  · exact .inr ⟨_, l, rfl, by omega, by omega, by omega, fun h => by omega, fun h => by omega⟩
  · simp only [List.mem_cons, List.not_mem_nil, or_false] at hf
    rcases hf with rfl | rfl | rfl
    · exact .inr ⟨217, bg n 1 ++ l, rfl, by omega, by omega, by omega, fun h => by omega, fun h => by omega⟩
    · exact .inr ⟨218, bg n 2 ++ l, rfl, by omega, by omega, by omega, fun h => by omega, fun h => by omega⟩
    · exact .inr ⟨219, bg n 4 ++ l, rfl, by omega, by omega, by omega, fun h => by omega, fun h => by omega⟩

end Go.Proofs.YtcipapjlkibleaaDoor
