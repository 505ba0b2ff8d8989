/- The walks of the reference's forms of numbers, whole, and of values that are no number and have no kids. No condition. -/
import Derived.Test.YtbdgkikipekmlaaDoorNbrA
import Derived.Test.YtbdgkikipekmlaaDoorNbt
import Derived.Test.YtbdgkikipekmlaaDoorNbu
import Derived.Test.YtbdgkikipekmlaaDoorNbv
import Derived.Test.YtbdgkikipekmlaaDoorNbw
import Derived.Lib.LazyBuf
namespace Go.Proofs.YtbdgkikipekmlaaDoor
set_option linter.unusedVariables false
set_option linter.unusedSimpArgs false
open Go.RowKit
theorem numbered_calls (k n o : Int) (s : ByteArray) (m d : Nat) (A B : Option Addr) (cap capB : Nat) (w : World) (hk0 : 2 ≤ k) (hk1 : k ≤ 16) (hk2 : k ≠ 14) (h0 : 0 ≤ n) (h1 : n < 18446744073709551616) :
    Calls Tryd.prog 96 #[.agg #[.int .i64 k, .int .u64 n, .string s, .slice A m cap, .int .i64 o, .slice B d capB]] w (PcTo (NumW k n) (cdOf k) w) := by
  obtain rfl | rfl | rfl | rfl | rfl | rfl | rfl | rfl | rfl | rfl | rfl | rfl | rfl | rfl : k = 2 ∨ k = 3 ∨ k = 4 ∨ k = 5 ∨ k = 6 ∨ k = 7 ∨ k = 8 ∨ k = 9 ∨ k = 10 ∨ k = 11 ∨ k = 12 ∨ k = 13 ∨ k = 15 ∨ k = 16 := by omega
  · rw [show cdOf 2 = 80 by kernel_rfl]
    exact numbered_g 2 80 1 (hid (by simp [look, cdL])) (by kernel_rfl) (by decide) (by decide) (by kernel_rfl) n o s m d A B cap capB w h0 h1 rfl rfl rfl rfl rfl rfl rfl rfl
  · rw [show cdOf 3 = 96 by kernel_rfl]
    exact numbered_g 3 96 2 (hid (by simp [look, cdL])) (by kernel_rfl) (by decide) (by decide) (by kernel_rfl) n o s m d A B cap capB w h0 h1 rfl rfl rfl rfl rfl rfl rfl rfl
  · rw [show cdOf 4 = 112 by kernel_rfl]
    by_cases hz : n = 0
    · exact numbered_4z n o s m d A B cap capB w h0 h1 (hid hz)
    by_cases hs : n < 256
    · exact numbered_4s n o s m d A B cap capB w h0 h1 hs hz
    · exact numbered_4f n o s m d A B cap capB w h0 h1 (by omega)
  · rw [show cdOf 5 = 128 by kernel_rfl]
    by_cases hz : n = 0
    · exact numbered_5z n o s m d A B cap capB w h0 h1 (hid hz)
    by_cases hs : n < 256
    · exact numbered_5s n o s m d A B cap capB w h0 h1 hs hz
    · exact numbered_5f n o s m d A B cap capB w h0 h1 (by omega)
  · rw [show cdOf 6 = 81 by kernel_rfl]
    exact numbered_g 6 81 1 (hid (by simp [look, cdL])) (by kernel_rfl) (by decide) (by decide) (by kernel_rfl) n o s m d A B cap capB w h0 h1 rfl rfl rfl rfl rfl rfl rfl rfl
  · rw [show cdOf 7 = 97 by kernel_rfl]
    exact numbered_g 7 97 2 (hid (by simp [look, cdL])) (by kernel_rfl) (by decide) (by decide) (by kernel_rfl) n o s m d A B cap capB w h0 h1 rfl rfl rfl rfl rfl rfl rfl rfl
  · rw [show cdOf 8 = 113 by kernel_rfl]
    by_cases hs : sgn 128 n
    · exact numbered_8s n o s m d A B cap capB w h0 h1 hs
    unfold sgn at hs
    by_cases hb : 9223372036854775808 ≤ n
    · exact numbered_8l n o s m d A B cap capB w h0 h1 hb (by omega)
    · exact numbered_8h n o s m d A B cap capB w h0 h1 (by omega) (by omega)
  · rw [show cdOf 9 = 129 by kernel_rfl]
    by_cases hs : sgn 128 n
    · exact numbered_9s n o s m d A B cap capB w h0 h1 hs
    unfold sgn at hs
    by_cases hb : 9223372036854775808 ≤ n
    · exact numbered_9l n o s m d A B cap capB w h0 h1 hb (by omega)
    · exact numbered_9h n o s m d A B cap capB w h0 h1 (by omega) (by omega)
  · rw [show cdOf 10 = 114 by kernel_rfl]
    exact numbered_g 10 114 4 (hid (by simp [look, cdL])) (by kernel_rfl) (by decide) (by decide) (by kernel_rfl) n o s m d A B cap capB w h0 h1 rfl rfl rfl rfl rfl rfl rfl rfl
  · rw [show cdOf 11 = 130 by kernel_rfl]
    exact numbered_g 11 130 8 (hid (by simp [look, cdL])) (by kernel_rfl) (by decide) (by decide) (by kernel_rfl) n o s m d A B cap capB w h0 h1 rfl rfl rfl rfl rfl rfl rfl rfl
  · rw [show cdOf 12 = 116 by kernel_rfl]
    exact numbered_g 12 116 4 (hid (by simp [look, cdL])) (by kernel_rfl) (by decide) (by decide) (by kernel_rfl) n o s m d A B cap capB w h0 h1 rfl rfl rfl rfl rfl rfl rfl rfl
  · rw [show cdOf 13 = 132 by kernel_rfl]
    exact numbered_g 13 132 8 (hid (by simp [look, cdL])) (by kernel_rfl) (by decide) (by decide) (by kernel_rfl) n o s m d A B cap capB w h0 h1 rfl rfl rfl rfl rfl rfl rfl rfl
  · rw [show cdOf 15 = 115 by kernel_rfl]
    exact numbered_g 15 115 4 (hid (by simp [look, cdL])) (by kernel_rfl) (by decide) (by decide) (by kernel_rfl) n o s m d A B cap capB w h0 h1 rfl rfl rfl rfl rfl rfl rfl rfl
  · rw [show cdOf 16 = 131 by kernel_rfl]
    exact numbered_g 16 131 8 (hid (by simp [look, cdL])) (by kernel_rfl) (by decide) (by decide) (by kernel_rfl) n o s m d A B cap capB w h0 h1 rfl rfl rfl rfl rfl rfl rfl rfl

end Go.Proofs.YtbdgkikipekmlaaDoor
