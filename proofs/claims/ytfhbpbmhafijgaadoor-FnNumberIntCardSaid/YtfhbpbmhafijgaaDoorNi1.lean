/- The walks of numbers of MessagePack: whether a float is a whole number. No condition. -/
import Derived.Test.YtfhbpbmhafijgaaDoorLib
import Derived.Test.YtfhbpbmhafijgaaDoorFlt
import Derived.Lib.TrailingZeros
import Derived.Lib.LaidTab
import Derived.Laws.Bits64b
import Derived.Laws.BitsAll
namespace Go.Proofs.YtfhbpbmhafijgaaDoor
set_option linter.unusedVariables false
set_option linter.unusedSimpArgs false
open Go.RowKit

/-- The table of trailing zeros as its variable holds it. -/
def TabZ (w : World) : Prop := ∀ j, j < 64 → w.cell? ⟨1, j, none⟩ = some (.int .u8 (Lib.deBruijn64tab.getD j 0))
theorem TabZ.keep0 {w w' : World} (h : TabZ w) (k : Ch No w w') : TabZ w' := fun j hj => k.cell0 (h j hj)
theorem TabZ.keep {S : Nat → Prop} {w w' : World} (h : TabZ w) (k : Ch S w w') (hn : ¬ S 1) : TabZ w' := fun j hj => k.cell (h j hj) hn
theorem gTab : Tryd.prog.globalNamed "math/bits.deBruijn64tab" = some 1 := by kernel_rfl
theorem tab_same : (Rows.laid_math_bits_deBruijn64tab : DataW Unit) = Lib.tabData .u8 (Lib.deBruijn64tab.map Int.ofNat) := by kernel_rfl
theorem tab_of_laid {w : World} (h : laidMetH Tryd.prog [("math/bits.deBruijn64tab", Rows.laid_math_bits_deBruijn64tab)] w) : TabZ w := by
  have h' : laidMet Tryd.prog [("math/bits.deBruijn64tab", Rows.laid_math_bits_deBruijn64tab)] w := h
  rw [tab_same] at h'
  have ht := Lib.tabIs_of_head gTab (by kernel_rfl) Tryd.underlying55 Tryd.underlying5 (by kernel_rfl) (by kernel_rfl) h'
  intro j hj
  have hc := ht.cell gTab j (by rw [List.length_map]; exact hj)
  rw [hc]
  have hj' : j < Lib.deBruijn64tab.length := hj
  simp [List.getD, hj']

theorem tz_core (x k idx : Nat) (w : World) (hx0 : ((x : Int) == 0) = false)
    (key : IntKind.u64.wrap (bits BinOp.and IntKind.u64 (x : Int) (IntKind.u64.wrap (-(x : Int))) * 285870213051353865) / 288230376151711744 = (idx : Int))
    (hi : idx < 64) (hk : k < 64) (hcell : w.cell? ⟨1, idx, none⟩ = some (.int .u8 k)) :
    Calls Tryd.prog 19 #[.int .u64 x] w fun e w' => e = .returned (.int .i64 k) ∧ Ch No w w' := by
  go_enter Tryd.func19, Tryd.ntmps19
  go_wp2_with (simp only [key])
  go_ret
  exact ⟨rfl, Ch.refl _ _⟩
theorem tz_zero (w : World) : Calls Tryd.prog 19 #[.int .u64 0] w fun e w' => e = .returned (.int .i64 64) ∧ Ch No w w' := by
  go_enter Tryd.func19, Tryd.ntmps19
  go_wp2
  go_ret
  exact ⟨rfl, Ch.refl _ _⟩
theorem tz_key (x a : Nat) (hx : x < 18446744073709551616) (hx0 : x ≠ 0) (hlow : x &&& (18446744073709551616 - x) = a) :
    IntKind.u64.wrap (bits BinOp.and IntKind.u64 (x : Int) (IntKind.u64.wrap (-(x : Int))) * 285870213051353865) / 288230376151711744 = ((a * 285870213051353865 % 18446744073709551616 / 288230376151711744 : Nat) : Int) := by
  have e1 : IntKind.u64.wrap (-(x : Int)) = ((18446744073709551616 - x : Nat) : Int) := by rw [IntKind.wrap_u64]; omega
  rw [e1, bits_and_u64_nat x _ hx (by omega), hlow, IntKind.wrap_u64]
  omega
theorem tz_calls (x : Nat) (hx : x < 18446744073709551616) (w : World) (hT : TabZ w) : Calls Tryd.prog 19 #[.int .u64 x] w fun e w' => e = .returned (.int .i64 (Lib.ctz 64 x)) ∧ Ch No w w' := by
  by_cases hx0 : x = 0
  · subst hx0
    exact tz_zero w
  · obtain ⟨hlow, hk⟩ := Lib.lowest_bit 64 x hx0 hx
    obtain ⟨hi, htab⟩ := Lib.deBruijn64_at _ hk
    have hcell := hT _ hi
    rw [htab] at hcell
    exact tz_core x _ _ w (by simp; omega) (tz_key x _ hx hx0 hlow) hi hk hcell
theorem ctz_le (x j : Nat) (hx : x < 2 ^ 64) (hj : j ≤ 64) : j ≤ Lib.ctz 64 x ↔ x % 2 ^ j = 0 := by
  by_cases h0 : x = 0
  · subst h0; simp [Lib.ctz, hj]
  · obtain ⟨m, hm, hk⟩ := Lib.ctzFrom_spec 64 x (by omega) hx
    have e : Lib.ctz 64 x = Lib.ctzFrom 64 x := by simp [Lib.ctz, h0]
    rw [e]
    generalize Lib.ctzFrom 64 x = c at *
    constructor
    · intro h
      rw [hm]
      exact Nat.mod_eq_zero_of_dvd (Nat.dvd_trans (Nat.pow_dvd_pow 2 h) (Nat.dvd_mul_right _ _))
    · intro h
      apply Classical.byContradiction
      intro hn
      have hd := Nat.dvd_of_mod_eq_zero h
      rw [hm, show j = c + (j - c - 1 + 1) by omega, Nat.pow_add] at hd
      have h2 := Nat.dvd_of_mul_dvd_mul_left (Nat.two_pow_pos c) hd
      have h3 : 2 ∣ 2 * m + 1 := Nat.dvd_trans ⟨2 ^ (j - c - 1), by rw [Nat.pow_succ, Nat.mul_comm]⟩ h2
      omega
theorem and11 (n : Int) : bits .and .i64 n 2047 = n % 2048 := by
  have h127 : (BitVec.ofInt 64 2047).toNat = 2 ^ 11 - 1 := by decide
  have key : (BitVec.ofInt 64 n &&& BitVec.ofInt 64 2047).toNat = (n % ((2 ^ 64 : Nat) : Int)).toNat % 2 ^ 11 := by
    rw [BitVec.toNat_and, BitVec.toNat_ofInt, h127, Nat.and_two_pow_sub_one_eq_mod]
  show IntKind.i64.wrap ((BitVec.ofInt 64 n &&& BitVec.ofInt 64 2047).toNat : Nat) = n % 2048
  rw [key, IntKind.wrap_i64]
  omega
theorem and8 (n : Int) : bits .and .i64 n 255 = n % 256 := by
  have h127 : (BitVec.ofInt 64 255).toNat = 2 ^ 8 - 1 := by decide
  have key : (BitVec.ofInt 64 n &&& BitVec.ofInt 64 255).toNat = (n % ((2 ^ 64 : Nat) : Int)).toNat % 2 ^ 8 := by
    rw [BitVec.toNat_and, BitVec.toNat_ofInt, h127, Nat.and_two_pow_sub_one_eq_mod]
  show IntKind.i64.wrap ((BitVec.ofInt 64 n &&& BitVec.ofInt 64 255).toNat : Nat) = n % 256
  rw [key, IntKind.wrap_i64]
  omega
theorem and52 (z : Int) (h0 : 0 ≤ z) (h1 : z < 18446744073709551616) : bits .and .u64 z 4503599627370495 = z % 4503599627370496 := by go_bits2
theorem and23 (z : Int) (h0 : 0 ≤ z) (h1 : z < 18446744073709551616) : bits .and .u64 z 8388607 = z % 8388608 := by go_bits2
end Go.Proofs.YtfhbpbmhafijgaaDoor
