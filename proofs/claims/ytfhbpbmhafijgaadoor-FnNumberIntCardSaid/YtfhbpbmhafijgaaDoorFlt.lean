/- The plain law of floats and whole numbers: no program in sight. -/
import Derived.Laws.FloatArith
namespace Go.Proofs.YtfhbpbmhafijgaaDoor
set_option linter.unusedVariables false
set_option linter.unusedSimpArgs false
open Ieee

/-- A number's value, in units of '2 ^ -B'. -/
def vI (B : Nat) : Datum → Int
  | .number s m i => signed s m (i + B).toNat
  | _ => 0

theorem signed_eq (s : Bool) (m k : Nat) : signed s m k = (if s then -1 else 1) * ((m * 2 ^ k : Nat) : Int) := by
  unfold signed
  rw [Nat.shiftLeft_eq]
  cases s
  · rw [if_neg Bool.false_ne_true, if_neg Bool.false_ne_true]; omega
  · rw [if_pos rfl, if_pos rfl]; omega

/-- What the words of a format are: sign 's', field 'E', fraction 'r'. -/
theorem read_at (f : Format) (K : Nat) (hK : 2 ^ f.exponentBits = 2 * K + 2) {s E r : Nat} (hs : s < 2) (hE : E < 2 * K + 2) (hr : r < f.binade) :
    f.read ((s * (2 * K + 2) + E) * f.binade + r) = if E = 0 then .number (s == 1) r f.leastPlace else if E < 2 * K + 1 then .number (s == 1) (f.binade + r) (f.leastPlace + ((E - 1 : Nat) : Int)) else if r = 0 then .infinity (s == 1) else .nan (s == 1) r := by
  have hM : 0 < f.binade := Nat.two_pow_pos _
  have hw : f.signWeight = (2 * K + 2) * f.binade := by unfold Format.signWeight Format.binade; rw [Nat.pow_add, hK]
  have hi : f.infRung = (2 * K + 1) * f.binade := by unfold Format.infRung; rw [hK]; rfl
  generalize hMM : f.binade = M at *
  have e1 : (s * (2 * K + 2) + E) * M + r = s * f.signWeight + (E * M + r) := by rw [hw, Nat.add_mul, Nat.mul_assoc]; omega
  have lt : E * M + r < f.signWeight := by
    rw [hw]; have : (E + 1) * M ≤ (2 * K + 2) * M := Nat.mul_le_mul_right _ (by omega)
    rw [Nat.succ_mul] at this; omega
  have hd : ((s * (2 * K + 2) + E) * M + r) / f.signWeight = s := by
    rw [e1, Nat.add_comm, Nat.add_mul_div_right _ _ (by omega), Nat.div_eq_of_lt lt]; omega
  have hm : ((s * (2 * K + 2) + E) * M + r) % f.signWeight = E * M + r := by
    rw [e1, Nat.add_comm, Nat.add_mul_mod_self_right, Nat.mod_eq_of_lt lt]
  have hq : (E * M + r) / M = E := by rw [Nat.add_comm, Nat.add_mul_div_right _ _ hM, Nat.div_eq_of_lt hr]; omega
  have hq' : (E * M + r) % M = r := by rw [Nat.add_comm, Nat.add_mul_mod_self_right, Nat.mod_eq_of_lt hr]
  have es : (s % 2 == 1) = (s == 1) := by rw [Nat.mod_eq_of_lt hs]
  unfold Format.read
  rw [hd, hm, hMM, hi, es]
  dsimp only
  rw [hq, hq']
  by_cases h0 : E = 0
  · subst h0; rw [if_pos (by omega), if_pos rfl]; simp
  · have : 1 * M ≤ E * M := Nat.mul_le_mul_right _ (by omega)
    rw [if_neg (by omega), if_neg h0]
    by_cases h1 : E < 2 * K + 1
    · have : (E + 1) * M ≤ (2 * K + 1) * M := Nat.mul_le_mul_right _ (by omega)
      rw [Nat.succ_mul] at this
      rw [if_pos (by omega), if_pos h1]
    · obtain rfl : E = 2 * K + 1 := by omega
      rw [if_neg (by omega), if_neg h1]
      by_cases h2 : r = 0
      · rw [if_pos (by omega), if_pos h2]
      · rw [if_neg (by omega), if_neg h2, Nat.add_sub_cancel_left]

/-- Every word is one of these. -/
theorem word_parts (f : Format) (K : Nat) (hK : 2 ^ f.exponentBits = 2 * K + 2) {b : Nat} (hb : b < 2 * f.signWeight) :
    ∃ s E r, s < 2 ∧ E < 2 * K + 2 ∧ r < f.binade ∧ b = (s * (2 * K + 2) + E) * f.binade + r := by
  have hM : 0 < f.binade := Nat.two_pow_pos _
  have hw : f.signWeight = (2 * K + 2) * f.binade := by unfold Format.signWeight Format.binade; rw [Nat.pow_add, hK]
  refine ⟨b / f.binade / (2 * K + 2), b / f.binade % (2 * K + 2), b % f.binade, ?_, Nat.mod_lt _ (by omega), Nat.mod_lt _ hM, ?_⟩
  · rw [Nat.div_div_eq_div_mul, Nat.mul_comm f.binade, ← hw]
    exact Nat.div_lt_of_lt_mul (by omega)
  · rw [Nat.mul_comm (b / f.binade / (2 * K + 2)), Nat.div_add_mod, Nat.mul_comm, Nat.div_add_mod]

/-- Whether a word is a whole number, by its fields. -/
def wholeB (K m E r : Nat) : Prop := (E = 0 ∧ r = 0) ∨ (K ≤ E ∧ E < 2 * K + 1 ∧ (K + m ≤ E ∨ r % 2 ^ (K + m - E) = 0))

theorem dvd_scaled (B j x : Nat) (hj : j ≤ B) : 2 ^ B ∣ x * 2 ^ (B - j) ↔ 2 ^ j ∣ x := by
  have : 2 ^ B = 2 ^ j * 2 ^ (B - j) := by rw [← Nat.pow_add]; congr 1; omega
  rw [this]
  exact Nat.mul_dvd_mul_iff_right (Nat.two_pow_pos _)

theorem dvd_signed (B m k : Nat) (s : Bool) : ((2 ^ B : Nat) : Int) ∣ signed s m k ↔ 2 ^ B ∣ m * 2 ^ k := by
  rw [signed_eq]
  cases s
  · rw [if_neg Bool.false_ne_true, Int.one_mul]; exact Int.natCast_dvd_natCast
  · rw [if_pos rfl, Int.neg_one_mul, Int.dvd_neg]; exact Int.natCast_dvd_natCast

theorem whole_iff (f : Format) (K B : Nat) (hK : 2 ^ f.exponentBits = 2 * K + 2) (hl : f.leastPlace = 1 - (K : Int) - f.fractionBits) (hK1 : 1 ≤ K) (hB : K + f.fractionBits ≤ B) {s E r : Nat} (hs : s < 2) (hE : E < 2 * K + 1) (hr : r < f.binade) :
    wholeB K f.fractionBits E r ↔ ((2 ^ B : Nat) : Int) ∣ vI B (f.read ((s * (2 * K + 2) + E) * f.binade + r)) := by
  rw [read_at f K hK hs (by omega) hr]
  have hM : f.binade = 2 ^ f.fractionBits := rfl
  generalize f.fractionBits = m at *
  rw [hM] at hr ⊢
  unfold wholeB
  by_cases h0 : E = 0
  · rw [if_pos h0]; unfold vI; dsimp only
    rw [dvd_signed, hl, show (1 - (K : Int) - m + B).toNat = B - (K + m - 1) by omega, dvd_scaled _ _ _ (by omega)]
    subst h0
    constructor
    · rintro (⟨_, rfl⟩ | ⟨h, _⟩)
      · exact Nat.dvd_zero _
      · omega
    · intro h
      left
      refine ⟨rfl, Nat.eq_zero_of_dvd_of_lt h (Nat.lt_of_lt_of_le hr (Nat.pow_le_pow_right (by omega) (by omega)))⟩
  · rw [if_neg h0, if_pos hE]; unfold vI; dsimp only
    rw [dvd_signed, hl]
    by_cases h1 : K + m ≤ E
    · rw [show (1 - (K : Int) - m + ((E - 1 : Nat) : Int) + B).toNat = B + (E - (K + m)) by omega, Nat.pow_add, Nat.mul_left_comm]
      exact ⟨fun _ => Nat.dvd_mul_right _ _, fun _ => .inr ⟨by omega, hE, .inl h1⟩⟩
    · rw [show (1 - (K : Int) - m + ((E - 1 : Nat) : Int) + B).toNat = B - (K + m - E) by omega, dvd_scaled _ _ _ (by omega)]
      by_cases h2 : K ≤ E
      · have hd : 2 ^ (K + m - E) ∣ 2 ^ m := Nat.pow_dvd_pow _ (by omega)
        rw [← Nat.dvd_add_iff_right hd]
        constructor
        · rintro (⟨h, _⟩ | ⟨_, _, h | h⟩)
          · omega
          · omega
          · exact Nat.dvd_of_mod_eq_zero h
        · intro h; exact .inr ⟨h2, hE, .inr (Nat.mod_eq_zero_of_dvd h)⟩
      · constructor
        · rintro (⟨h, _⟩ | ⟨h, _⟩) <;> omega
        · intro h
          exfalso
          have := Nat.le_of_dvd (by have := Nat.two_pow_pos m; omega) h
          have h3 : 2 ^ (m + 1) ≤ 2 ^ (K + m - E) := Nat.pow_le_pow_right (by omega) (by omega)
          rw [Nat.pow_succ] at h3
          omega

theorem cut_zero (s : Bool) (n drop : Nat) : Toward.zero.cut s n drop = n / 2 ^ drop := by
  unfold Toward.cut
  simp only [Nat.shiftLeft_eq, Nat.one_mul, Bool.toNat_false, Nat.add_zero]
  by_cases h : drop ≤ n.log2 + 2
  · rw [Nat.min_eq_left h]
  · have h1 : n < 2 ^ (n.log2 + 1) := Nat.lt_log2_self
    have h2 : 2 ^ (n.log2 + 1) ≤ 2 ^ (n.log2 + 2) := Nat.pow_le_pow_right (by omega) (by omega)
    have h3 : 2 ^ (n.log2 + 2) ≤ 2 ^ drop := Nat.pow_le_pow_right (by omega) (by omega)
    rw [Nat.min_eq_right (by omega), Nat.div_eq_of_lt (by omega), Nat.div_eq_of_lt (by omega)]

/-- A number cut towards zero, out of its value. -/
theorem toInt_eq (B : Nat) (s : Bool) (m : Nat) (i : Int) (hi : -(B : Int) ≤ i) : (Datum.number s m i).toInt .zero = some ((vI B (.number s m i)).tdiv ((2 ^ B : Nat) : Int)) := by
  unfold Datum.toInt Datum.integral vI
  dsimp only
  rw [cut_zero, Nat.shiftLeft_eq]
  congr 1
  rw [signed_eq, signed_eq]
  have key : m * 2 ^ i.toNat / 2 ^ (-i).toNat = m * 2 ^ (i + B).toNat / 2 ^ B := by
    by_cases h : 0 ≤ i
    · obtain ⟨k, rfl⟩ := Int.eq_ofNat_of_zero_le h
      rw [show (-(k : Int)).toNat = 0 by omega, show ((k : Int) + B).toNat = k + B by omega, show (k : Int).toNat = k by omega, Nat.pow_add, ← Nat.mul_assoc, Nat.mul_div_cancel _ (Nat.two_pow_pos _), Nat.pow_zero, Nat.div_one]
    · obtain ⟨k, hk⟩ := Int.eq_ofNat_of_zero_le (show 0 ≤ -i by omega)
      rw [show i.toNat = 0 by omega, show (-i).toNat = k by omega, show (i + B).toNat = B - k by omega, Nat.pow_zero, Nat.mul_one]
      have : 2 ^ B = 2 ^ k * 2 ^ (B - k) := by rw [← Nat.pow_add]; congr 1; omega
      rw [this, Nat.mul_div_mul_right _ _ (Nat.two_pow_pos _)]
  rw [key, Nat.pow_zero, Nat.mul_one]
  cases s
  · rw [if_neg Bool.false_ne_true, Int.one_mul, Int.one_mul, ← Int.ofNat_tdiv]
  · rw [if_pos rfl, Int.neg_one_mul, Int.neg_one_mul, Int.neg_tdiv, ← Int.ofNat_tdiv]

/-- How two numbers stand to each other: as their values. -/
theorem order_eq (B : Nat) (s t : Bool) (m n : Nat) (i j : Int) (hi : -(B : Int) ≤ i) (hj : -(B : Int) ≤ j) : (Datum.number s m i).order (.number t n j) = some (compare (vI B (.number s m i)) (vI B (.number t n j))) := by
  show some (compare (signed s m (i - min i j).toNat) (signed t n (j - min i j).toNat)) = some (compare (signed s m (i + B).toNat) (signed t n (j + B).toNat))
  rw [signed_eq, signed_eq, signed_eq, signed_eq]
  congr 1
  have hm : -(B : Int) ≤ min i j := by omega
  generalize hb : min i j = b at *
  obtain ⟨c, hc⟩ := Int.eq_ofNat_of_zero_le (show 0 ≤ b + B by omega)
  have e1 : (i + B).toNat = (i - b).toNat + c := by omega
  have e2 : (j + B).toNat = (j - b).toNat + c := by omega
  rw [e1, e2, Nat.pow_add, Nat.pow_add, ← Nat.mul_assoc, ← Nat.mul_assoc, Int.natCast_mul (m * 2 ^ (i - b).toNat), Int.natCast_mul (n * 2 ^ (j - b).toNat), ← Int.mul_assoc, ← Int.mul_assoc]
  generalize (if s then (-1 : Int) else 1) * ((m * 2 ^ (i - b).toNat : Nat) : Int) = x
  generalize (if t then (-1 : Int) else 1) * ((n * 2 ^ (j - b).toNat : Nat) : Int) = y
  have hp : (0 : Int) < ((2 ^ c : Nat) : Int) := by have := Nat.two_pow_pos c; omega
  generalize ((2 ^ c : Nat) : Int) = p at *
  have h1 : x * p < y * p ↔ x < y := Int.mul_lt_mul_right hp
  have h2 : y * p < x * p ↔ y < x := Int.mul_lt_mul_right hp
  rcases Int.lt_trichotomy x y with h | h | h
  · rw [Int.compare_eq_lt.2 h, Int.compare_eq_lt.2 (h1.2 h)]
  · rw [h, Int.compare_eq_eq.2 rfl, Int.compare_eq_eq.2 rfl]
  · rw [Int.compare_eq_gt.2 h, Int.compare_eq_gt.2 (h2.2 h)]

theorem vI_number (B : Nat) (s : Bool) (m : Nat) (i : Int) : vI B (.number s m i) = (if s then -1 else 1) * ((m * 2 ^ (i + B).toNat : Nat) : Int) := signed_eq _ _ _

theorem cut_even (s : Bool) (a d : Nat) (h : 2 ^ d ∣ a) : Toward.even.cut s a d = a / 2 ^ d := by
  unfold Toward.cut
  simp only [Nat.shiftLeft_eq, Nat.one_mul]
  by_cases hd : d ≤ a.log2 + 2
  · rw [Nat.min_eq_left hd, Nat.mod_eq_zero_of_dvd h]
    have := Nat.two_pow_pos d
    have e1 : (decide (2 ^ d < 2 * 0)) = false := by simp
    have e2 : ((2 ^ d == 2 * 0)) = false := by simp
    rw [e1, e2]; rfl
  · have h1 : a < 2 ^ (a.log2 + 1) := Nat.lt_log2_self
    have h2 : 2 ^ (a.log2 + 1) ≤ 2 ^ d := Nat.pow_le_pow_right (by omega) (by omega)
    obtain rfl : a = 0 := Nat.eq_zero_of_dvd_of_lt h (by omega)
    have : min d ((0 : Nat).log2 + 2) = 2 := by simp at hd ⊢; omega
    rw [this]; simp

/-- A number of 53 digits is written as it is. -/
theorem nearest_exact (s : Bool) (a k : Nat) (p : Int) (ha : 0 < a) (h53 : a < 2 ^ 53) (hlo : -1022 ≤ p + k + a.log2) (hhi : p + k + a.log2 ≤ 1023) :
    double.read (double.nearest s (a * 2 ^ k) p) = .number s (a * 2 ^ (52 - a.log2)) (p + k + a.log2 - 52) ∧ double.nearest s (a * 2 ^ k) p < 2 ^ 64 := by
  have hL : a.log2 ≤ 52 := by have := (Nat.log2_lt (by omega)).2 h53; omega
  have l1 := Nat.log2_self_le (show a ≠ 0 by omega)
  have l2 : a < 2 ^ (a.log2 + 1) := Nat.lt_log2_self
  have hlog : (a * 2 ^ k).log2 = a.log2 + k := (Nat.log2_eq_iff (Nat.mul_ne_zero (by omega) (Nat.ne_of_gt (Nat.two_pow_pos k)))).2
    ⟨by rw [Nat.pow_add]; exact Nat.mul_le_mul_right _ l1, by rw [show a.log2 + k + 1 = (a.log2 + 1) + k by omega, Nat.pow_add]; exact Nat.mul_lt_mul_of_pos_right l2 (Nat.two_pow_pos k)⟩
  generalize hLL : a.log2 = L at *
  have k1 : 2 ^ 52 ≤ a * 2 ^ (52 - L) := by
    have : 2 ^ L * 2 ^ (52 - L) ≤ a * 2 ^ (52 - L) := Nat.mul_le_mul_right _ l1
    rwa [← Nat.pow_add, show L + (52 - L) = 52 by omega] at this
  have k2 : a * 2 ^ (52 - L) < 2 ^ 53 := by
    have : a * 2 ^ (52 - L) < 2 ^ (L + 1) * 2 ^ (52 - L) := Nat.mul_lt_mul_of_pos_right l2 (Nat.two_pow_pos _)
    rwa [← Nat.pow_add, show L + 1 + (52 - L) = 53 by omega] at this
  have hl : double.leastPlace = -1074 := by decide
  have hfb : double.fractionBits = 52 := rfl
  have hM : double.binade = 2 ^ 52 := rfl
  have hI : double.infRung = 2047 * 2 ^ 52 := by decide
  have hlast : max (p + ((a * 2 ^ k).log2 : Nat) - (double.fractionBits : Nat)) double.leastPlace = p + k + L - 52 := by rw [hlog, hl, hfb]; omega
  have hkept : Toward.even.cut s ((a * 2 ^ k) <<< (p - (p + k + L - 52)).toNat) ((p + k + L - 52) - p).toNat = a * 2 ^ (52 - L) := by
    rw [Nat.shiftLeft_eq]
    by_cases hh : k + L ≤ 52
    · rw [show (p - (p + k + L - 52)).toNat = 52 - L - k by omega, show ((p + k + L - 52) - p).toNat = 0 by omega, cut_even _ _ _ (by simp), Nat.pow_zero, Nat.div_one, Nat.mul_assoc, ← Nat.pow_add]
      congr 2; omega
    · have e : a * 2 ^ k = a * 2 ^ (52 - L) * 2 ^ (k + L - 52) := by rw [Nat.mul_assoc, ← Nat.pow_add]; congr 2; omega
      rw [show (p - (p + k + L - 52)).toNat = 0 by omega, show ((p + k + L - 52) - p).toNat = k + L - 52 by omega, Nat.pow_zero, Nat.mul_one, e, cut_even _ _ _ (Nat.dvd_mul_left _ _), Nat.mul_div_cancel _ (Nat.two_pow_pos _)]
  have hn : double.nearest s (a * 2 ^ k) p = ((if s then 1 else 0) * (2 * 1023 + 2) + (p + k + L + 1023).toNat) * double.binade + (a * 2 ^ (52 - L) - 2 ^ 52) := by
    unfold Format.nearest
    rw [if_neg (Nat.mul_ne_zero (by omega) (Nat.ne_of_gt (Nat.two_pow_pos k)))]
    dsimp only
    rw [hlast, hkept, hl, hM, hI]
    obtain ⟨q, hq⟩ := Int.eq_ofNat_of_zero_le (show 0 ≤ p + k + L + 1022 by omega)
    rw [show (p + k + L - 52 - -1074).toNat = q by omega, show (p + k + L + 1023).toNat = q + 1 by omega]
    have hq2 : q ≤ 2045 := by omega
    generalize a * 2 ^ (52 - L) = c at *
    have : q * 2 ^ 52 ≤ 2045 * 2 ^ 52 := Nat.mul_le_mul_right _ hq2
    have hmin : q * 2 ^ 52 + c ≤ 2047 * 2 ^ 52 := Nat.le_trans (Nat.add_le_add this (Nat.le_of_lt k2)) (Nat.le_of_eq (by decide))
    rw [show min (q * 2 ^ 52 + c) (2047 * 2 ^ 52) = q * 2 ^ 52 + c from Nat.min_eq_left hmin]
    unfold Format.word
    have hw : double.signWeight = 2048 * 2 ^ 52 := by decide
    rw [hw]
    cases s
    · simp only [Bool.false_eq_true, if_false]; omega
    · simp only [if_true]; omega
  refine ⟨?_, double.nearest_lt _ _ _⟩
  rw [hn, read_at double 1023 (by decide) (by split <;> omega) (by omega) (by rw [hM]; omega), if_neg (by omega), if_pos (by omega), hM, hl]
  have es : ((if s then 1 else 0) == 1) = s := by cases s <;> rfl
  have em : 2 ^ 52 + (a * 2 ^ (52 - L) - 2 ^ 52) = a * 2 ^ (52 - L) := by omega
  have ep : (-1074 : Int) + (((p + k + L + 1023).toNat - 1 : Nat) : Int) = p + k + L - 52 := by omega
  rw [em, ep]
  cases s <;> rfl

theorem nearest_zero (s : Bool) (p : Int) : double.read (double.nearest s 0 p) = .number s 0 (-1074) ∧ double.nearest s 0 p < 2 ^ 64 := by
  refine ⟨?_, double.nearest_lt _ _ _⟩
  cases s
  · show double.read 0 = _; decide
  · show double.read (2 ^ 63) = _; decide

/-! ### What is told of numbers within 2^62 -/
theorem vI_self (B : Nat) (i : Int) (c : Nat) (h : (i + B).toNat = B + c) (a : Nat) : vI B (.number false a i) = ((a * 2 ^ c : Nat) : Int) * ((2 ^ B : Nat) : Int) := by
  rw [vI_number, if_neg Bool.false_ne_true, Int.one_mul, h, Nat.pow_add, Nat.mul_comm (2 ^ B), ← Nat.mul_assoc]; exact Int.natCast_mul _ _
theorem vI_neg (B : Nat) (i : Int) (a : Nat) : vI B (.number true a i) = -vI B (.number false a i) := by
  rw [vI_number, vI_number, if_pos rfl, if_neg Bool.false_ne_true, Int.neg_one_mul, Int.one_mul]
theorem vI_c62 (B : Nat) : vI B (.number false (2 ^ 52) 10) = 4611686018427387904 * ((2 ^ B : Nat) : Int) := by rw [vI_self B 10 10 (by omega)]; rfl
theorem vI_c63 (B : Nat) : vI B (.number false (2 ^ 52) 11) = 9223372036854775808 * ((2 ^ B : Nat) : Int) := by rw [vI_self B 11 11 (by omega)]; rfl
theorem vI_s63 (B : Nat) : vI B (.number false (2 ^ 23) 40) = 9223372036854775808 * ((2 ^ B : Nat) : Int) := by rw [vI_self B 40 40 (by omega)]; rfl
theorem read_c62 : double.read 4886405595696988160 = .number false (2 ^ 52) 10 := by decide
theorem read_m62 : double.read 14109777632551763968 = .number true (2 ^ 52) 10 := by decide
theorem read_c63 : double.read 4890909195324358656 = .number false (2 ^ 52) 11 := by decide
theorem read_m63 : double.read 14114281232179134464 = .number true (2 ^ 52) 11 := by decide
theorem read_s63 : single.read 1593835520 = .number false (2 ^ 23) 40 := by decide
theorem read_t63 : single.read 3741319168 = .number true (2 ^ 23) 40 := by decide

theorem sg (n : Int) : n = (if n < 0 then -1 else 1) * (n.natAbs : Int) := by
  by_cases h : n < 0
  · rw [if_pos h]; omega
  · rw [if_neg h]; omega

/-- A number of 53 digits: what is told of it. -/
theorem told (x : Nat) (s : Bool) (a : Nat) (i : Int) (B : Nat) (hB : 1100 ≤ B) (hx : double.read x = .number s a i) (ha : a < 2 ^ 53) (hi : -1074 ≤ i) :
    double.order x x = some .eq ∧
    ((double.order x 4886405595696988160 = some .gt ∨ double.order x 14109777632551763968 = some .lt) ∨
      ((double.order x 4886405595696988160 = some .gt) = False ∧ (double.order x 14109777632551763968 = some .lt) = False ∧
        -(4611686018427387904 * ((2 ^ B : Nat) : Int)) ≤ vI B (.number s a i) ∧ vI B (.number s a i) ≤ 4611686018427387904 * ((2 ^ B : Nat) : Int) ∧
        ∃ n : Int, -4611686018427387904 ≤ n ∧ n ≤ 4611686018427387904 ∧ n = (vI B (.number s a i)).tdiv ((2 ^ B : Nat) : Int) ∧ (double.read x).toInt .zero = some n ∧
          (double.order (double.nearest (decide (n < 0)) n.natAbs 0) x = some .eq ↔ ((2 ^ B : Nat) : Int) ∣ vI B (.number s a i)))) := by
  have hP : (0 : Int) < ((2 ^ B : Nat) : Int) := by have := Nat.two_pow_pos B; omega
  have o1 : ∀ y t b j, double.read y = .number t b j → -(B : Int) ≤ j → double.order x y = some (compare (vI B (.number s a i)) (vI B (.number t b j))) := by
    intro y t b j hy hj
    unfold Format.order
    rw [hx, hy]
    exact order_eq B s t a b i j (by omega) hj
  refine ⟨by rw [o1 x s a i hx (by omega), Int.compare_eq_eq.2 rfl], ?_⟩
  rw [o1 _ _ _ _ read_c62 (by omega), o1 _ _ _ _ read_m62 (by omega), vI_neg, vI_c62, hx, toInt_eq B s a i (by omega)]
  have hV := vI_number B s a i
  generalize hVV : vI B (.number s a i) = V at *
  rw [Option.some.injEq, Option.some.injEq, Int.compare_eq_gt, Int.compare_eq_lt]
  by_cases hr : 4611686018427387904 * ((2 ^ B : Nat) : Int) < V ∨ V < -(4611686018427387904 * ((2 ^ B : Nat) : Int))
  · exact .inl hr
  right
  have h1 : V ≤ 4611686018427387904 * ((2 ^ B : Nat) : Int) := by omega
  have h2 : -(4611686018427387904 * ((2 ^ B : Nat) : Int)) ≤ V := by omega
  -- the number cut
  have hna : V.natAbs = a * 2 ^ (i + B).toNat := by
    rw [hV]; cases s
    · rw [if_neg Bool.false_ne_true, Int.one_mul, Int.natAbs_natCast]
    · rw [if_pos rfl, Int.neg_one_mul, Int.natAbs_neg, Int.natAbs_natCast]
  have hnn : (V.tdiv ((2 ^ B : Nat) : Int)).natAbs = V.natAbs / 2 ^ B := by rw [Int.natAbs_tdiv, Int.natAbs_natCast]; rfl
  have hle : V.natAbs / 2 ^ B ≤ 4611686018427387904 := by
    have : V.natAbs ≤ 4611686018427387904 * 2 ^ B := by omega
    calc V.natAbs / 2 ^ B ≤ 4611686018427387904 * 2 ^ B / 2 ^ B := Nat.div_le_div_right this
      _ = 4611686018427387904 := Nat.mul_div_cancel _ (Nat.two_pow_pos _)
  -- its float's value
  have hval : ∃ t b j, double.read (double.nearest (decide (V.tdiv ((2 ^ B : Nat) : Int) < 0)) (V.tdiv ((2 ^ B : Nat) : Int)).natAbs 0) = .number t b j ∧ -(B : Int) ≤ j ∧ vI B (.number t b j) = V.tdiv ((2 ^ B : Nat) : Int) * ((2 ^ B : Nat) : Int) := by
    have form : (V.tdiv ((2 ^ B : Nat) : Int)).natAbs = 0 ∨ ∃ c k, 0 < c ∧ c < 2 ^ 53 ∧ (V.tdiv ((2 ^ B : Nat) : Int)).natAbs = c * 2 ^ k := by
      rw [hnn, hna]
      by_cases h : 0 ≤ i
      · obtain ⟨k, rfl⟩ := Int.eq_ofNat_of_zero_le h
        rw [show ((k : Int) + B).toNat = k + B by omega, Nat.pow_add, ← Nat.mul_assoc, Nat.mul_div_cancel _ (Nat.two_pow_pos _)]
        by_cases h0 : a = 0
        · left; rw [h0, Nat.zero_mul]
        · exact .inr ⟨a, k, by omega, ha, rfl⟩
      · obtain ⟨k, hk⟩ := Int.eq_ofNat_of_zero_le (show 0 ≤ -i by omega)
        have e : 2 ^ B = 2 ^ k * 2 ^ (B - k) := by rw [← Nat.pow_add]; congr 1; omega
        rw [show (i + B).toNat = B - k by omega, e, Nat.mul_div_mul_right _ _ (Nat.two_pow_pos _)]
        have := Nat.div_le_self a (2 ^ k)
        by_cases h0 : a / 2 ^ k = 0
        · exact .inl h0
        · exact .inr ⟨a / 2 ^ k, 0, Nat.pos_of_ne_zero h0, Nat.lt_of_le_of_lt this ha, by rw [Nat.pow_zero, Nat.mul_one]⟩
    have hsg : V.tdiv ((2 ^ B : Nat) : Int) = (if V.tdiv ((2 ^ B : Nat) : Int) < 0 then -1 else 1) * ((V.tdiv ((2 ^ B : Nat) : Int)).natAbs : Int) := sg _
    rw [← hnn] at hle
    generalize V.tdiv ((2 ^ B : Nat) : Int) = n at *
    rcases form with h0 | ⟨c, k, hc, hc53, he⟩
    · rw [h0]
      refine ⟨_, _, _, (nearest_zero _ _).1, by omega, ?_⟩
      obtain rfl : n = 0 := by omega
      rw [vI_number, Nat.zero_mul]; simp
    · have hlog : k + c.log2 ≤ 62 := by
        have l1 := Nat.log2_self_le (show c ≠ 0 by omega)
        have l3 : 2 ^ c.log2 * 2 ^ k ≤ c * 2 ^ k := Nat.mul_le_mul_right _ l1
        rw [← Nat.pow_add] at l3
        have l4 : 2 ^ (c.log2 + k) < 2 ^ 63 := by
          have : (4611686018427387904 : Nat) < 2 ^ 63 := by decide
          omega
        have := (Nat.pow_lt_pow_iff_right (by omega : 1 < 2)).1 l4
        omega
      have hL : c.log2 ≤ 52 := by have := (Nat.log2_lt (by omega)).2 hc53; omega
      have ne := nearest_exact (decide (n < 0)) c k 0 hc hc53 (by omega) (by omega)
      rw [he]
      refine ⟨_, _, _, ne.1, by omega, ?_⟩
      rw [vI_number]
      conv => rhs; rw [hsg, he]
      have ee : c * 2 ^ (52 - c.log2) * 2 ^ ((0 : Int) + k + c.log2 - 52 + B).toNat = c * 2 ^ k * 2 ^ B := by
        rw [Nat.mul_assoc, ← Nat.pow_add, Nat.mul_assoc, ← Nat.pow_add]; congr 2; omega
      rw [ee, Int.natCast_mul (c * 2 ^ k), Int.mul_assoc]
      by_cases hn : n < 0 <;> simp [hn]
  obtain ⟨t, b, j, hr2, hj, hv2⟩ := hval
  refine ⟨eq_false (by omega), eq_false (by omega), h2, h1, _, ?_, ?_, rfl, rfl, ?_⟩
  · omega
  · omega
  · unfold Format.order
    rw [hr2, hx, order_eq B t s b a j i hj (by omega), hv2, hVV, Option.some.injEq, Int.compare_eq_eq]
    constructor
    · intro h; exact ⟨V.tdiv ((2 ^ B : Nat) : Int), by rw [Int.mul_comm]; exact h.symm⟩
    · intro h; exact Int.tdiv_mul_cancel h

/-- What is told of a float of 64 bits, 'W' whether it is a whole number: it is none; or it lies beyond 2^62; or it is cut to 'n', and 'n' as a float is it just where it is whole. -/
def Told (x : Nat) (W : Prop) (Q : Int → Prop) : Prop :=
  ((∀ y, double.order x y = none) ∧ ¬ W) ∨
  (double.order x x = some .eq ∧ (double.order x 4886405595696988160 = some .gt ∨ double.order x 14109777632551763968 = some .lt)) ∨
  (double.order x x = some .eq ∧ double.order x 4886405595696988160 ≠ some .gt ∧ double.order x 14109777632551763968 ≠ some .lt ∧
    ∃ n : Int, -4611686018427387904 ≤ n ∧ n ≤ 4611686018427387904 ∧ floatToIntVal .f64 x .i64 = some n ∧ (double.order (FloatKind.f64.nearest n) x = some .eq ↔ W) ∧ Q n)

theorem intVal (k : FloatKind) (b : Nat) (n : Int) (h : (k.format.read b).toInt .zero = some n) (h1 : -4611686018427387904 ≤ n) (h2 : n ≤ 4611686018427387904) : floatToIntVal k b .i64 = some n := by
  unfold floatToIntVal FloatKind.decode
  rw [h]
  have : IntKind.min .i64 = -9223372036854775808 := by decide
  have : IntKind.max .i64 = 9223372036854775807 := by decide
  dsimp only
  rw [if_pos (by omega)]

theorem parts (f : Format) (K : Nat) (hK : 2 ^ f.exponentBits = 2 * K + 2) (b : Nat) (hb : b < 2 * f.signWeight) :
    ∃ s, s < 2 ∧ b = (s * (2 * K + 2) + b / f.binade % (2 * K + 2)) * f.binade + b % f.binade := by
  have hw : f.signWeight = (2 * K + 2) * f.binade := by unfold Format.signWeight Format.binade; rw [Nat.pow_add, hK]
  refine ⟨b / f.binade / (2 * K + 2), ?_, ?_⟩
  · rw [Nat.div_div_eq_div_mul, Nat.mul_comm f.binade, ← hw]
    exact Nat.div_lt_of_lt_mul (by omega)
  · rw [Nat.mul_comm (b / f.binade / (2 * K + 2)), Nat.div_add_mod, Nat.mul_comm, Nat.div_add_mod]

theorem told_nan (x : Nat) (t : Bool) (r : Nat) (h : double.read x = .nan t r) : ∀ y, double.order x y = none := by
  intro y; unfold Format.order; rw [h]; rfl
theorem told_inf (x : Nat) (t : Bool) (h : double.read x = .infinity t) : double.order x x = some .eq ∧ (double.order x 4886405595696988160 = some .gt ∨ double.order x 14109777632551763968 = some .lt) := by
  unfold Format.order
  rw [h, read_c62, read_m62]
  cases t
  · exact ⟨rfl, .inl rfl⟩
  · exact ⟨rfl, .inr rfl⟩

theorem told64 (x : Nat) (hx : x < 2 ^ 64) : Told x (wholeB 1023 52 (x / 2 ^ 52 % 2048) (x % 2 ^ 52)) fun n => double.order x 4890909195324358656 = some .lt ∧ double.order x 14114281232179134464 = some .gt := by
  obtain ⟨B, hB⟩ : ∃ B : Nat, 1100 ≤ B := ⟨1100, Nat.le_refl _⟩
  have hK : 2 ^ double.exponentBits = 2 * 1023 + 2 := by decide
  have hw : 2 * double.signWeight = 2 ^ 64 := by decide
  obtain ⟨s, hs, e⟩ := parts double 1023 hK x (by rw [hw]; exact hx)
  have hM : double.binade = 2 ^ 52 := rfl
  rw [hM] at e
  have hE : x / 2 ^ 52 % 2048 < 2048 := Nat.mod_lt _ (by decide)
  have hr : x % 2 ^ 52 < 2 ^ 52 := Nat.mod_lt _ (Nat.two_pow_pos _)
  generalize hEE : x / 2 ^ 52 % 2048 = E at *
  generalize hrr : x % 2 ^ 52 = r at *
  rw [show 2 * 1023 + 2 = 2048 from rfl] at e
  have rd := read_at double 1023 hK hs hE (show r < double.binade by rw [hM]; exact hr)
  rw [show 2 * 1023 + 2 = 2048 from rfl, hM, ← e] at rd
  have hfb : double.fractionBits = 52 := rfl
  by_cases h1 : E < 2 * 1023 + 1
  · have wi := whole_iff double 1023 B hK (by decide) (by decide) (by show 1023 + 52 ≤ B; omega) hs h1 (show r < double.binade by rw [hM]; exact hr)
    rw [show 2 * 1023 + 2 = 2048 from rfl, hM, ← e, hfb] at wi
    have hl : double.leastPlace = -1074 := by decide
    have : ∃ t a i, double.read x = .number t a i ∧ a < 2 ^ 53 ∧ -1074 ≤ i := by
      rw [rd]
      by_cases h0 : E = 0
      · rw [if_pos h0]; exact ⟨_, _, _, rfl, Nat.lt_trans hr (by decide), by rw [hl]; omega⟩
      · rw [if_neg h0, if_pos h1]; exact ⟨_, _, _, rfl, by rw [show 2 ^ 53 = 2 ^ 52 + 2 ^ 52 from rfl]; exact Nat.add_lt_add_left hr _, by rw [hl]; omega⟩
    obtain ⟨t, a, i, hd, ha, hi⟩ := this
    rw [hd] at wi
    obtain ⟨oe, h | ⟨g1, g2, v1, v2, n, n1, n2, hn, ht, ho⟩⟩ := told x t a i B hB hd ha hi
    · exact .inr (.inl ⟨oe, h⟩)
    · refine .inr (.inr ⟨oe, of_eq_false g1, of_eq_false g2, n, n1, n2, intVal .f64 x n ht n1 n2, ho.trans wi.symm, ?_⟩)
      have hP : (0 : Int) < ((2 ^ B : Nat) : Int) := Int.natCast_pos.2 (Nat.two_pow_pos _)
      unfold Format.order
      rw [hd, read_c63, read_m63, order_eq B _ _ _ _ _ _ (by omega) (by omega), order_eq B _ _ _ _ _ _ (by omega) (by omega), vI_neg, vI_c63]
      generalize ((2 ^ B : Nat) : Int) = P at *
      rw [Option.some.injEq, Option.some.injEq, Int.compare_eq_lt, Int.compare_eq_gt]
      omega
  · have nW : ¬ wholeB 1023 52 E r := by unfold wholeB; omega
    rw [if_neg (by omega), if_neg h1] at rd
    by_cases h2 : r = 0
    · rw [if_pos h2] at rd; exact .inr (.inl (told_inf x _ rd))
    · rw [if_neg h2] at rd; exact .inl ⟨told_nan x _ _ rd, nW⟩

/-- The float of 64 bits that a float of 32 bits is. -/
theorem told32 (b : Nat) (hb : b < 2 ^ 32) :
    (floatToFloatBits .f32 b .f64 = none ∧ (∀ y, single.order b y = none) ∧ (∃ t r, single.read b = .nan t r) ∧ ¬ wholeB 127 23 (b / 2 ^ 23 % 256) (b % 2 ^ 23)) ∨
    ∃ x, floatToFloatBits .f32 b .f64 = some x ∧ Told x (wholeB 127 23 (b / 2 ^ 23 % 256) (b % 2 ^ 23)) fun n => floatToIntVal .f32 b .i64 = some n ∧ single.order b 1593835520 = some .lt ∧ single.order b 3741319168 = some .gt := by
  obtain ⟨B, hB⟩ : ∃ B : Nat, 1100 ≤ B := ⟨1100, Nat.le_refl _⟩
  have hK : 2 ^ single.exponentBits = 2 * 127 + 2 := by decide
  have hw : 2 * single.signWeight = 2 ^ 32 := by decide
  obtain ⟨s, hs, e⟩ := parts single 127 hK b (by rw [hw]; exact hb)
  have hM : single.binade = 2 ^ 23 := rfl
  rw [hM] at e
  have hE : b / 2 ^ 23 % 256 < 256 := Nat.mod_lt _ (by decide)
  have hr : b % 2 ^ 23 < 2 ^ 23 := Nat.mod_lt _ (Nat.two_pow_pos _)
  generalize hEE : b / 2 ^ 23 % 256 = E at *
  generalize hrr : b % 2 ^ 23 = r at *
  rw [show 2 * 127 + 2 = 256 from rfl] at e
  have rd := read_at single 127 hK hs hE (show r < single.binade by rw [hM]; exact hr)
  rw [show 2 * 127 + 2 = 256 from rfl, hM, ← e] at rd
  have hfb : single.fractionBits = 23 := rfl
  have hdec : FloatKind.decode .f32 b = single.read b := rfl
  by_cases h1 : E < 2 * 127 + 1
  · right
    have wi := whole_iff single 127 B hK (by decide) (by decide) (by show 127 + 23 ≤ B; omega) hs h1 (show r < single.binade by rw [hM]; exact hr)
    rw [show 2 * 127 + 2 = 256 from rfl, hM, ← e, hfb] at wi
    have hl : single.leastPlace = -149 := by decide
    have : ∃ t a i, single.read b = .number t a i ∧ a < 2 ^ 24 ∧ -149 ≤ i ∧ i ≤ 104 := by
      rw [rd]
      by_cases h0 : E = 0
      · rw [if_pos h0]; exact ⟨_, _, _, rfl, Nat.lt_trans hr (by decide), by rw [hl]; omega, by rw [hl]; omega⟩
      · rw [if_neg h0, if_pos h1]; exact ⟨_, _, _, rfl, by omega, by rw [hl]; omega, by rw [hl]; omega⟩
    obtain ⟨t, a, i, hd, ha, hi, hi2⟩ := this
    rw [hd] at wi
    -- as a float of 64 bits
    have big : ∃ t' a' i', double.read (double.nearest t a i) = .number t' a' i' ∧ a' < 2 ^ 53 ∧ -1074 ≤ i' ∧ vI B (.number t' a' i') = vI B (.number t a i) := by
      by_cases h0 : a = 0
      · subst h0
        refine ⟨_, _, _, (nearest_zero t i).1, by decide, by omega, ?_⟩
        rw [vI_number, vI_number, Nat.zero_mul, Nat.zero_mul]
      · have hL : a.log2 ≤ 23 := by have := (Nat.log2_lt (by omega)).2 ha; omega
        have ne := (nearest_exact t a 0 i (by omega) (Nat.lt_trans ha (by decide)) (by omega) (by omega)).1
        rw [Nat.pow_zero, Nat.mul_one] at ne
        refine ⟨_, _, _, ne, ?_, by omega, ?_⟩
        · have l2 : a < 2 ^ (a.log2 + 1) := Nat.lt_log2_self
          have : a * 2 ^ (52 - a.log2) < 2 ^ (a.log2 + 1) * 2 ^ (52 - a.log2) := Nat.mul_lt_mul_of_pos_right l2 (Nat.two_pow_pos _)
          rwa [← Nat.pow_add, show a.log2 + 1 + (52 - a.log2) = 53 by omega] at this
        · rw [vI_number, vI_number]
          congr 2
          rw [Nat.mul_assoc, ← Nat.pow_add]; congr 2; omega
    obtain ⟨t', a', i', hd', ha', hi', hv⟩ := big
    refine ⟨double.nearest t a i, ?_, ?_⟩
    · unfold floatToFloatBits
      rw [if_neg (by decide), hdec, hd]
      show (if (double.read (double.nearest t a i)).isInfinity = true then none else some (double.nearest t a i)) = _
      rw [hd']
      rfl
    · generalize double.nearest t a i = x at *
      obtain ⟨oe, h | ⟨g1, g2, v1, v2, n, n1, n2, hn, ht, ho⟩⟩ := told x t' a' i' B hB hd' ha' hi'
      · exact .inr (.inl ⟨oe, h⟩)
      · rw [hv] at v1 v2 hn ho
        refine .inr (.inr ⟨oe, of_eq_false g1, of_eq_false g2, n, n1, n2, intVal .f64 x n ht n1 n2, ho.trans wi.symm, ?_, ?_⟩)
        · refine intVal .f32 b n ?_ n1 n2
          show (single.read b).toInt .zero = some n
          rw [hd, toInt_eq B _ _ _ (by omega), hn]
        · have hP : (0 : Int) < ((2 ^ B : Nat) : Int) := Int.natCast_pos.2 (Nat.two_pow_pos _)
          unfold Format.order
          rw [hd, read_s63, read_t63, order_eq B _ _ _ _ _ _ (by omega) (by omega), order_eq B _ _ _ _ _ _ (by omega) (by omega), vI_neg, vI_s63]
          generalize ((2 ^ B : Nat) : Int) = P at *
          rw [Option.some.injEq, Option.some.injEq, Int.compare_eq_lt, Int.compare_eq_gt]
          omega
  · have nW : ¬ wholeB 127 23 E r := by unfold wholeB; omega
    rw [if_neg (by omega), if_neg h1] at rd
    by_cases h2 : r = 0
    · right
      rw [if_pos h2] at rd
      refine ⟨double.write (.infinity (s == 1)), ?_, .inr (.inl (told_inf _ (s == 1) ?_))⟩
      · unfold floatToFloatBits
        rw [if_neg (by decide), hdec, rd]; rfl
      · cases (s == 1) <;> decide
    · left
      rw [if_neg h2] at rd
      refine ⟨?_, ?_, ⟨_, _, rd⟩, nW⟩
      · unfold floatToFloatBits
        rw [if_neg (by decide), hdec, rd]
      · intro y; unfold Format.order; rw [rd]; rfl

/-- What a NaN that no one fixes is. -/
theorem asked_nan (t : Nat) : double.read (t % 2 * 2 ^ 63 + 0x7ff0000000000000 + 1 + t / 2 % (2 ^ 52 - 1)) = .nan (t % 2 == 1) (1 + t / 2 % (2 ^ 52 - 1)) := by
  have h1 : t % 2 < 2 := Nat.mod_lt _ (by decide)
  have h2 : t / 2 % (2 ^ 52 - 1) < 2 ^ 52 - 1 := Nat.mod_lt _ (by decide)
  generalize t % 2 = s at *
  generalize t / 2 % (2 ^ 52 - 1) = r at *
  have rd := read_at double 1023 (by decide) h1 (show 2047 < 2 * 1023 + 2 by decide) (show 1 + r < double.binade by show 1 + r < 2 ^ 52; omega)
  rw [if_neg (by decide), if_neg (by decide), if_neg (by omega)] at rd
  rw [← rd]
  refine congrArg double.read ?_
  show s * 9223372036854775808 + 9218868437227405312 + 1 + r = (s * 2048 + 2047) * 4503599627370496 + (1 + r)
  omega
end Go.Proofs.YtfhbpbmhafijgaaDoor
