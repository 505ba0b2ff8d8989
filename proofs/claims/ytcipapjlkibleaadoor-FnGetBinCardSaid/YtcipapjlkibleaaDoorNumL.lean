/- The plain law of MessagePack's integers: what is written of one is read, and what is refused. No condition. -/
import Derived.Test.YtcipapjlkibleaaDoorReadU
import Derived.Test.YtcipapjlkibleaaDoorPutK
namespace Go.Proofs.YtcipapjlkibleaaDoor
set_option linter.unusedVariables false
set_option linter.unusedSimpArgs false
open Go.RowKit

theorem beN_bgr1 (u : Int) (h0 : 0 ≤ u) (h1 : u < 256) : beN (bg u 1) = u := by
  simp [bg, beN, List.range, List.range.loop]
  all_goals omega
theorem beN_bgm1 (u : Int) : beN (bg u 1) = u % 256 := by
  simp [bg, beN, List.range, List.range.loop]
  all_goals omega
theorem beN_bgr2 (u : Int) (h0 : 0 ≤ u) (h1 : u < 65536) : beN (bg u 2) = u := by
  simp [bg, beN, List.range, List.range.loop]
  all_goals omega
theorem beN_bgm2 (u : Int) : beN (bg u 2) = u % 65536 := by
  simp [bg, beN, List.range, List.range.loop]
  all_goals omega
theorem beN_bgr4 (u : Int) (h0 : 0 ≤ u) (h1 : u < 4294967296) : beN (bg u 4) = u := by
  simp [bg, beN, List.range, List.range.loop]
  all_goals omega
theorem beN_bgm4 (u : Int) : beN (bg u 4) = u % 4294967296 := by
  simp [bg, beN, List.range, List.range.loop]
  all_goals omega
theorem beN_bgr8 (u : Int) (h0 : 0 ≤ u) (h1 : u < 18446744073709551616) : beN (bg u 8) = u := by
  simp [bg, beN, List.range, List.range.loop]
  all_goals omega
theorem beN_bgm8 (u : Int) : beN (bg u 8) = u % 18446744073709551616 := by
  simp [bg, beN, List.range, List.range.loop]
  all_goals omega

theorem bg_take (u : Int) (n : Nat) (l : List Int) : (bg u n ++ l).take n = bg u n := by
  rw [List.take_append_of_le_length (by simp [bg_len]), List.take_of_length_le (by simp [bg_len])]
theorem bg_drop (u : Int) (n : Nat) (l : List Int) : (bg u n ++ l).drop n = l := by
  rw [List.drop_append_of_le_length (by simp [bg_len]), List.drop_of_length_le (by simp [bg_len]), List.nil_append]
def Tab : List (Int × Nat) := [(208, 1), (204, 1), (209, 2), (205, 2), (210, 4), (206, 4), (211, 8), (207, 8)]
/-- No integer begins so. -/
def Oth (b : Int) : Prop := 128 ≤ b ∧ b < 224 ∧ (b < 204 ∨ 211 < b)
def RefI (L : List Int) : Prop :=
  L = [] ∨ ∃ b r, L = b :: r ∧ 0 ≤ b ∧ b < 256 ∧ (Oth b ∨ (∃ p ∈ Tab, b = p.1 ∧ r.length < p.2) ∨ (Byt r ∧ b = 207 ∧ 8 ≤ r.length ∧ 9223372036854775808 ≤ beN (r.take 8)))
def RefU (L : List Int) : Prop :=
  L = [] ∨ ∃ b r, L = b :: r ∧ 0 ≤ b ∧ b < 256 ∧ (Oth b ∨ (∃ p ∈ Tab, b = p.1 ∧ r.length < p.2) ∨ 224 ≤ b ∨ (Byt r ∧ ((b = 208 ∧ 1 ≤ r.length ∧ 128 ≤ beN (r.take 1)) ∨ (b = 209 ∧ 2 ≤ r.length ∧ 32768 ≤ beN (r.take 2)) ∨ (b = 210 ∧ 4 ≤ r.length ∧ 2147483648 ≤ beN (r.take 4)) ∨ (b = 211 ∧ 8 ≤ r.length ∧ 9223372036854775808 ≤ beN (r.take 8)))))
theorem readI_refused (A : Option Addr) (c : Nat) (L : List Int) (w : World) (hr : Rd u8 w A L) (hc : L.length ≤ c) (hs : Sh w) (h : RefI L) : Calls Tryd.prog 26 #[.slice A L.length c] w (RiNo w) := by
  rcases h with rfl | ⟨b, r, rfl, h0, h1, h⟩
  · exact readI_nil A c w hs
  · rcases h with h | ⟨p, hp, e, hn⟩ | h
    · exact readI_other A c b r w hr hc h0 h1 h
    · simp only [Tab, List.mem_cons, List.not_mem_nil, or_false] at hp
      rcases hp with rfl | rfl | rfl | rfl | rfl | rfl | rfl | rfl
      · exact readI_short_s8 A c b r w hr hc hs hn e
      · exact readI_short_u8 A c b r w hr hc hs hn e
      · exact readI_short_s16 A c b r w hr hc hs hn e
      · exact readI_short_u16 A c b r w hr hc hs hn e
      · exact readI_short_s32 A c b r w hr hc hs hn e
      · exact readI_short_u32 A c b r w hr hc hs hn e
      · exact readI_short_s64 A c b r w hr hc hs hn e
      · exact readI_short_u64 A c b r w hr hc hs hn e
    · exact readI_u64_no A c b r w hr hc h.1 h.2.2.1 h.2.2.2 h.2.1
theorem readU_refused (A : Option Addr) (c : Nat) (L : List Int) (w : World) (hr : Rd u8 w A L) (hc : L.length ≤ c) (hs : Sh w) (h : RefU L) : Calls Tryd.prog 28 #[.slice A L.length c] w (RuNo w) := by
  rcases h with rfl | ⟨b, r, rfl, h0, h1, h⟩
  · exact readU_nil A c w hs
  · rcases h with h | ⟨p, hp, e, hn⟩ | h
    · exact readU_other A c b r w hr hc h0 h1 h
    · simp only [Tab, List.mem_cons, List.not_mem_nil, or_false] at hp
      rcases hp with rfl | rfl | rfl | rfl | rfl | rfl | rfl | rfl
      · exact readU_short_s8 A c b r w hr hc hs hn e
      · exact readU_short_u8 A c b r w hr hc hs hn e
      · exact readU_short_s16 A c b r w hr hc hs hn e
      · exact readU_short_u16 A c b r w hr hc hs hn e
      · exact readU_short_s32 A c b r w hr hc hs hn e
      · exact readU_short_u32 A c b r w hr hc hs hn e
      · exact readU_short_s64 A c b r w hr hc hs hn e
      · exact readU_short_u64 A c b r w hr hc hs hn e
    · rcases h with h | ⟨hb, h | h | h | h⟩
      · exact readU_nfix A c b r w hr hc h h1
      · exact readU_s8_no A c b r w hr hc hb h.2.1 h.2.2 h.1
      · exact readU_s16_no A c b r w hr hc hb h.2.1 h.2.2 h.1
      · exact readU_s32_no A c b r w hr hc hb h.2.1 h.2.2 h.1
      · exact readU_s64_no A c b r w hr hc hb h.2.1 h.2.2 h.1

theorem readI_neg (A : Option Addr) (c : Nat) (u : Int) (d l : List Int) (w : World) (hd : NegD u d) (h0 : 9223372036854775808 ≤ u) (h1 : u < 18446744073709551616) (hb : Byt l) (hr : Rd u8 w A (d ++ l)) (hc : (d ++ l).length ≤ c) :
    Calls Tryd.prog 26 #[.slice A (d ++ l).length c] w (RiOk (u - 18446744073709551616) l w) := by
  rcases hd with ⟨h2, rfl⟩ | ⟨f, hf, h2, rfl⟩
  · have h := readI_nfix A c (u % 256) l w hr hc (by omega) (by omega)
    rwa [show u % 256 - 256 = u - 18446744073709551616 by omega] at h
  · simp only [List.mem_cons, List.not_mem_nil, or_false] at hf
    rcases hf with rfl | rfl | rfl | rfl
    · have h := readI_s8 A c 208 (bg u 1 ++ l) w hr hc ((byt_bg u 1).append hb) (by rw [List.length_append, bg_len]; omega) trivial rfl
      rw [bg_take, bg_drop, beN_bgm1, show IntKind.i8.wrap (u % 256) = u - 18446744073709551616 by (simp only at h2; simp [IntKind.wrap, IntKind.bits, IntKind.signed]; omega)] at h
      exact h
    · have h := readI_s16 A c 209 (bg u 2 ++ l) w hr hc ((byt_bg u 2).append hb) (by rw [List.length_append, bg_len]; omega) trivial rfl
      rw [bg_take, bg_drop, beN_bgm2, show IntKind.i16.wrap (u % 65536) = u - 18446744073709551616 by (simp only at h2; simp [IntKind.wrap, IntKind.bits, IntKind.signed]; omega)] at h
      exact h
    · have h := readI_s32 A c 210 (bg u 4 ++ l) w hr hc ((byt_bg u 4).append hb) (by rw [List.length_append, bg_len]; omega) trivial rfl
      rw [bg_take, bg_drop, beN_bgm4, show IntKind.i32.wrap (u % 4294967296) = u - 18446744073709551616 by (simp only at h2; simp [IntKind.wrap, IntKind.bits, IntKind.signed]; omega)] at h
      exact h
    · have h := readI_s64 A c 211 (bg u 8 ++ l) w hr hc ((byt_bg u 8).append hb) (by rw [List.length_append, bg_len]; omega) trivial rfl
      rw [bg_take, bg_drop, beN_bgm8, show IntKind.i64.wrap (u % 18446744073709551616) = u - 18446744073709551616 by (simp only at h2; simp [IntKind.wrap, IntKind.bits, IntKind.signed]; omega)] at h
      exact h

theorem readI_pos (A : Option Addr) (c : Nat) (u : Int) (d l : List Int) (w : World) (hd : PosD u d) (h0 : 0 ≤ u) (h1 : u < 9223372036854775808) (hb : Byt l) (hr : Rd u8 w A (d ++ l)) (hc : (d ++ l).length ≤ c) :
    Calls Tryd.prog 26 #[.slice A (d ++ l).length c] w (RiOk u l w) := by
  rcases hd with ⟨h2, rfl⟩ | ⟨f, hf, h2, rfl⟩ | ⟨f, hf, h2, rfl⟩
  · exact readI_fix A c u l w hr hc h0 h2
  · simp only [List.mem_cons, List.not_mem_nil, or_false] at hf
    rcases hf with rfl | rfl | rfl | rfl
    · have hz : u < 256 := by simp [okf] at h2; omega
      have h := readI_u8 A c 204 (bg u 1 ++ l) w hr hc ((byt_bg u 1).append hb) (by rw [List.length_append, bg_len]; omega) trivial rfl
      rw [bg_take, bg_drop, beN_bgr1 u h0 hz] at h
      exact h
    · have hz : u < 65536 := by simp [okf] at h2; omega
      have h := readI_u16 A c 205 (bg u 2 ++ l) w hr hc ((byt_bg u 2).append hb) (by rw [List.length_append, bg_len]; omega) trivial rfl
      rw [bg_take, bg_drop, beN_bgr2 u h0 hz] at h
      exact h
    · have hz : u < 4294967296 := by simp [okf] at h2; omega
      have h := readI_u32 A c 206 (bg u 4 ++ l) w hr hc ((byt_bg u 4).append hb) (by rw [List.length_append, bg_len]; omega) trivial rfl
      rw [bg_take, bg_drop, beN_bgr4 u h0 hz] at h
      exact h
    · have hz : u < 18446744073709551616 := by omega
      have h := readI_u64 A c 207 (bg u 8 ++ l) w hr hc ((byt_bg u 8).append hb) (by rw [List.length_append, bg_len]; omega) (by rw [bg_take, beN_bgr8 u h0 hz]; exact h1) rfl
      rw [bg_take, bg_drop, beN_bgr8 u h0 hz] at h
      exact h
  · simp only [List.mem_cons, List.not_mem_nil, or_false] at hf
    rcases hf with rfl | rfl | rfl | rfl
    · simp only at h2
      have hz : u < 128 := by omega
      have h := readI_s8 A c 208 (bg u 1 ++ l) w hr hc ((byt_bg u 1).append hb) (by rw [List.length_append, bg_len]; omega) trivial rfl
      rw [bg_take, bg_drop, beN_bgr1 u h0 (by omega), show IntKind.i8.wrap u = u by (simp [IntKind.wrap, IntKind.bits, IntKind.signed]; omega)] at h
      exact h
    · simp only at h2
      have hz : u < 32768 := by omega
      have h := readI_s16 A c 209 (bg u 2 ++ l) w hr hc ((byt_bg u 2).append hb) (by rw [List.length_append, bg_len]; omega) trivial rfl
      rw [bg_take, bg_drop, beN_bgr2 u h0 (by omega), show IntKind.i16.wrap u = u by (simp [IntKind.wrap, IntKind.bits, IntKind.signed]; omega)] at h
      exact h
    · simp only at h2
      have hz : u < 2147483648 := by omega
      have h := readI_s32 A c 210 (bg u 4 ++ l) w hr hc ((byt_bg u 4).append hb) (by rw [List.length_append, bg_len]; omega) trivial rfl
      rw [bg_take, bg_drop, beN_bgr4 u h0 (by omega), show IntKind.i32.wrap u = u by (simp [IntKind.wrap, IntKind.bits, IntKind.signed]; omega)] at h
      exact h
    · simp only at h2
      have hz : u < 9223372036854775808 := by omega
      have h := readI_s64 A c 211 (bg u 8 ++ l) w hr hc ((byt_bg u 8).append hb) (by rw [List.length_append, bg_len]; omega) trivial rfl
      rw [bg_take, bg_drop, beN_bgr8 u h0 (by omega), show IntKind.i64.wrap u = u by (simp [IntKind.wrap, IntKind.bits, IntKind.signed]; omega)] at h
      exact h
theorem readU_pos (A : Option Addr) (c : Nat) (u : Int) (d l : List Int) (w : World) (hd : PosD u d) (h0 : 0 ≤ u) (h1 : u < 18446744073709551616) (hb : Byt l) (hr : Rd u8 w A (d ++ l)) (hc : (d ++ l).length ≤ c) :
    Calls Tryd.prog 28 #[.slice A (d ++ l).length c] w (RuOk u l w) := by
  rcases hd with ⟨h2, rfl⟩ | ⟨f, hf, h2, rfl⟩ | ⟨f, hf, h2, rfl⟩
  · exact readU_fix A c u l w hr hc h0 h2
  · simp only [List.mem_cons, List.not_mem_nil, or_false] at hf
    rcases hf with rfl | rfl | rfl | rfl
    · have hz : u < 256 := by simp [okf] at h2; omega
      have h := readU_u8 A c 204 (bg u 1 ++ l) w hr hc ((byt_bg u 1).append hb) (by rw [List.length_append, bg_len]; omega) trivial rfl
      rw [bg_take, bg_drop, beN_bgr1 u h0 hz] at h
      exact h
    · have hz : u < 65536 := by simp [okf] at h2; omega
      have h := readU_u16 A c 205 (bg u 2 ++ l) w hr hc ((byt_bg u 2).append hb) (by rw [List.length_append, bg_len]; omega) trivial rfl
      rw [bg_take, bg_drop, beN_bgr2 u h0 hz] at h
      exact h
    · have hz : u < 4294967296 := by simp [okf] at h2; omega
      have h := readU_u32 A c 206 (bg u 4 ++ l) w hr hc ((byt_bg u 4).append hb) (by rw [List.length_append, bg_len]; omega) trivial rfl
      rw [bg_take, bg_drop, beN_bgr4 u h0 hz] at h
      exact h
    · have hz : u < 18446744073709551616 := by omega
      have h := readU_u64 A c 207 (bg u 8 ++ l) w hr hc ((byt_bg u 8).append hb) (by rw [List.length_append, bg_len]; omega) trivial rfl
      rw [bg_take, bg_drop, beN_bgr8 u h0 hz] at h
      exact h
  · simp only [List.mem_cons, List.not_mem_nil, or_false] at hf
    rcases hf with rfl | rfl | rfl | rfl
    · simp only at h2
      have hz : u < 128 := by omega
      have h := readU_s8 A c 208 (bg u 1 ++ l) w hr hc ((byt_bg u 1).append hb) (by rw [List.length_append, bg_len]; omega) (by rw [bg_take, beN_bgr1 u h0 (by omega)]; exact hz) rfl
      rw [bg_take, bg_drop, beN_bgr1 u h0 (by omega)] at h
      exact h
    · simp only at h2
      have hz : u < 32768 := by omega
      have h := readU_s16 A c 209 (bg u 2 ++ l) w hr hc ((byt_bg u 2).append hb) (by rw [List.length_append, bg_len]; omega) (by rw [bg_take, beN_bgr2 u h0 (by omega)]; exact hz) rfl
      rw [bg_take, bg_drop, beN_bgr2 u h0 (by omega)] at h
      exact h
    · simp only at h2
      have hz : u < 2147483648 := by omega
      have h := readU_s32 A c 210 (bg u 4 ++ l) w hr hc ((byt_bg u 4).append hb) (by rw [List.length_append, bg_len]; omega) (by rw [bg_take, beN_bgr4 u h0 (by omega)]; exact hz) rfl
      rw [bg_take, bg_drop, beN_bgr4 u h0 (by omega)] at h
      exact h
    · simp only at h2
      have hz : u < 9223372036854775808 := by omega
      have h := readU_s64 A c 211 (bg u 8 ++ l) w hr hc ((byt_bg u 8).append hb) (by rw [List.length_append, bg_len]; omega) (by rw [bg_take, beN_bgr8 u h0 (by omega)]; exact hz) rfl
      rw [bg_take, bg_drop, beN_bgr8 u h0 (by omega)] at h
      exact h

/-! ### What is cut off, what is of another kind -/
theorem bg_cut (u : Int) (c : Int) (n k : Nat) (hk : k < n + 1) (hc : (c, n) ∈ Tab) (hc0 : 0 ≤ c) (hc1 : c < 256) : ((c :: bg u n).take k = []) ∨ ∃ b r, (c :: bg u n).take k = b :: r ∧ 0 ≤ b ∧ b < 256 ∧ (∃ p ∈ Tab, b = p.1 ∧ r.length < p.2) := by
  cases k with
  | zero => exact .inl rfl
  | succ k => exact .inr ⟨c, (bg u n).take k, rfl, hc0, hc1, (c, n), hc, rfl, by simp only [List.length_take, bg_len]; omega⟩
theorem cut_form {u : Int} {d : List Int} (hd : NegD u d ∨ PosD u d) (k : Nat) (hk : k < d.length ∨ d = []) : (d.take k = []) ∨ ∃ b r, d.take k = b :: r ∧ 0 ≤ b ∧ b < 256 ∧ (∃ p ∈ Tab, b = p.1 ∧ r.length < p.2) := by
  rcases hd with (⟨h2, rfl⟩ | ⟨f, hf, h2, rfl⟩) | ⟨h2, rfl⟩ | ⟨f, hf, h2, rfl⟩ | ⟨f, hf, h2, rfl⟩
  · exact .inl (by simp at hk; subst hk; rfl)
  · simp only [List.mem_cons, List.not_mem_nil, or_false] at hf
    rcases hf with rfl | rfl | rfl | rfl <;> exact bg_cut u _ _ k (by simpa [bg_len] using hk) (by simp [Tab]) (by simp) (by simp)
  · exact .inl (by simp at hk; subst hk; rfl)
  · simp only [List.mem_cons, List.not_mem_nil, or_false] at hf
    rcases hf with rfl | rfl | rfl | rfl <;> exact bg_cut u _ _ k (by simpa [bg_len] using hk) (by simp [Tab]) (by simp) (by simp)
  · simp only [List.mem_cons, List.not_mem_nil, or_false] at hf
    rcases hf with rfl | rfl | rfl | rfl <;> exact bg_cut u _ _ k (by simpa [bg_len] using hk) (by simp [Tab]) (by simp) (by simp)
theorem RefI.cut {L : List Int} (h : (L = []) ∨ ∃ b r, L = b :: r ∧ 0 ≤ b ∧ b < 256 ∧ (∃ p ∈ Tab, b = p.1 ∧ r.length < p.2)) : RefI L ∧ RefU L := by
  rcases h with h | ⟨b, r, h1, h2, h3, h5⟩
  · exact ⟨.inl h, .inl h⟩
  · exact ⟨.inr ⟨b, r, h1, h2, h3, .inr (.inl h5)⟩, .inr ⟨b, r, h1, h2, h3, .inr (.inl h5)⟩⟩
theorem PosD.byt {u : Int} {d : List Int} (h : PosD u d) (h0 : 0 ≤ u) : Byt d := by
  rcases h with ⟨h2, rfl⟩ | ⟨f, hf, h2, rfl⟩ | ⟨f, hf, h2, rfl⟩
  · intro x hx; simp at hx; omega
  · simp only [List.mem_cons, List.not_mem_nil, or_false] at hf
    rcases hf with rfl | rfl | rfl | rfl <;> exact fun x hx => by
      rcases List.mem_cons.1 hx with rfl | hx
      · omega
      · exact byt_bg _ _ x hx
  · simp only [List.mem_cons, List.not_mem_nil, or_false] at hf
    rcases hf with rfl | rfl | rfl | rfl <;> exact fun x hx => by
      rcases List.mem_cons.1 hx with rfl | hx
      · omega
      · exact byt_bg _ _ x hx
/-- A number too great for 64 bits with a sign. -/
theorem big_form {u : Int} {d : List Int} (hd : PosD u d) (h0 : 9223372036854775808 ≤ u) (h1 : u < 18446744073709551616) (l : List Int) (hb : Byt l) : RefI (d ++ l) := by
  rcases hd with ⟨h2, rfl⟩ | ⟨f, hf, h2, rfl⟩ | ⟨f, hf, h2, rfl⟩
  · omega
  · simp only [List.mem_cons, List.not_mem_nil, or_false] at hf
    rcases hf with rfl | rfl | rfl | rfl
    · simp [okf] at h2; omega
    · simp [okf] at h2; omega
    · simp [okf] at h2; omega
    · exact .inr ⟨207, bg u 8 ++ l, rfl, by omega, by omega, .inr (.inr ⟨(byt_bg u 8).append hb, rfl, by rw [List.length_append, bg_len]; omega, by rw [bg_take, beN_bgr8 u (by omega) h1]; exact h0⟩)⟩
  · simp only [List.mem_cons, List.not_mem_nil, or_false] at hf
    rcases hf with rfl | rfl | rfl | rfl <;> (simp only at h2; omega)
/-- A number below 0. -/
theorem neg_form {u : Int} {d : List Int} (hd : NegD u d) (h0 : 9223372036854775808 ≤ u) (h1 : u < 18446744073709551616) (l : List Int) (hb : Byt l) : RefU (d ++ l) := by
  rcases hd with ⟨h2, rfl⟩ | ⟨f, hf, h2, rfl⟩
  · exact .inr ⟨_, l, rfl, by omega, by omega, .inr (.inr (.inl (by omega)))⟩
  · simp only [List.mem_cons, List.not_mem_nil, or_false] at hf
    rcases hf with rfl | rfl | rfl | rfl
    · exact .inr ⟨208, bg u 1 ++ l, rfl, by omega, by omega, .inr (.inr (.inr ⟨(byt_bg u 1).append hb, .inl ⟨rfl, by rw [List.length_append, bg_len]; omega, by rw [bg_take, beN_bgm1]; simp only at h2; omega⟩⟩))⟩
    · exact .inr ⟨209, bg u 2 ++ l, rfl, by omega, by omega, .inr (.inr (.inr ⟨(byt_bg u 2).append hb, .inr (.inl ⟨rfl, by rw [List.length_append, bg_len]; omega, by rw [bg_take, beN_bgm2]; simp only at h2; omega⟩)⟩))⟩
    · exact .inr ⟨210, bg u 4 ++ l, rfl, by omega, by omega, .inr (.inr (.inr ⟨(byt_bg u 4).append hb, .inr (.inr (.inl ⟨rfl, by rw [List.length_append, bg_len]; omega, by rw [bg_take, beN_bgm4]; simp only at h2; omega⟩))⟩))⟩
    · exact .inr ⟨211, bg u 8 ++ l, rfl, by omega, by omega, .inr (.inr (.inr ⟨(byt_bg u 8).append hb, .inr (.inr (.inr (⟨rfl, by rw [List.length_append, bg_len]; omega, by rw [bg_take, beN_bgm8]; simp only at h2; omega⟩)))⟩))⟩

theorem Oth.ref {b : Int} {r : List Int} (h : Oth b) : RefI (b :: r) ∧ RefU (b :: r) :=
  ⟨.inr ⟨b, r, rfl, by have := h.1; omega, by have := h.2.1; omega, .inl h⟩, .inr ⟨b, r, rfl, by have := h.1; omega, by have := h.2.1; omega, .inl h⟩⟩
/-- The first byte of a value that is no integer. -/
theorem oth_form {k n x : Int} {s : ByteArray} {m : Nat} {K : Fin m → Pk} {d : List Int} (h : PutD (.mk k n s x m K) d) (hn0 : 0 ≤ n) (h1 : k = 1 → n ≤ 1) (k2 : k ≠ 2) (k3 : k ≠ 3) : ∃ b r, d = b :: r ∧ Oth b := by
  unfold PutD at h
  have hd : ∀ (fx un : Int) (fs : List (Int × Nat)) (q : Int) (hd : List Int), HdB fx un fs q hd → 0 ≤ q → ((0 ≤ fx ∧ q < un → Oth (fx + q)) ∧ ∀ f ∈ fs, Oth f.1) → ∃ b r, hd = b :: r ∧ Oth b := fun fx un fs q hd h hq ⟨a, b⟩ => by
    rcases h with ⟨h1, h2, rfl⟩ | ⟨f, hf, _, rfl⟩
    · exact ⟨_, [], rfl, a ⟨h1, h2⟩⟩
    · exact ⟨f.1, _, rfl, b f hf⟩
  rcases h with ⟨_, rfl⟩ | ⟨e, rfl⟩ | ⟨e, _⟩ | ⟨e, _⟩ | ⟨e, _⟩ | ⟨_, rfl⟩ | ⟨_, rfl⟩ | ⟨_, hd', hh, rfl⟩ | ⟨_, hd', hh, rfl⟩ | ⟨_, hd', hh, rfl⟩ | ⟨_, hd', ds, hh, rfl, _⟩ | ⟨_, hd', ds, hh, rfl, _⟩
  · exact ⟨192, [], rfl, by unfold Oth; omega⟩
  · exact ⟨194 + n, [], rfl, by have := h1 e; unfold Oth; omega⟩
  · exact absurd e k2
  · exact absurd e k2
  · exact absurd e k3
  · exact ⟨202, _, rfl, by unfold Oth; omega⟩
  · exact ⟨203, _, rfl, by unfold Oth; omega⟩
  · obtain ⟨b, r, rfl, ho⟩ := hd 160 32 _ _ _ hh (by omega) ⟨fun h => by unfold Oth; omega, by simp [Oth]⟩
    exact ⟨b, _, rfl, ho⟩
  · obtain ⟨b, r, rfl, ho⟩ := hd (-1) 0 _ _ _ hh (by omega) ⟨fun h => by omega, by simp [Oth]⟩
    exact ⟨b, _, rfl, ho⟩
  · rcases hh with ⟨p, hp, _, rfl⟩ | ⟨f, hf, _, rfl⟩
    · exact ⟨p.1, _, rfl, by simp only [List.mem_cons, List.not_mem_nil, or_false] at hp; rcases hp with rfl | rfl | rfl | rfl | rfl <;> (unfold Oth; omega)⟩
    · exact ⟨f.1, _, rfl, by simp only [List.mem_cons, List.not_mem_nil, or_false] at hf; rcases hf with rfl | rfl | rfl <;> (unfold Oth; omega)⟩
  · obtain ⟨b, r, rfl, ho⟩ := hd 144 16 _ _ _ hh (by omega) ⟨fun h => by unfold Oth; omega, by simp [Oth]⟩
    exact ⟨b, _, rfl, ho⟩
  · obtain ⟨b, r, rfl, ho⟩ := hd 128 16 _ _ _ hh (by omega) ⟨fun h => by unfold Oth; omega, by simp [Oth]⟩
    exact ⟨b, _, rfl, ho⟩
end Go.Proofs.YtcipapjlkibleaaDoor
