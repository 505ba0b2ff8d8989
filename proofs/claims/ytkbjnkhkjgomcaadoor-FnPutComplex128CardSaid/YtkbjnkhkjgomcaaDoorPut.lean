/- The walks of MessagePack's small writers: prefixes, room, bytes copied. No condition. -/
import Derived.Test.YtkbjnkhkjgomcaaDoorLib
namespace Go.Proofs.YtkbjnkhkjgomcaaDoor
set_option linter.unusedVariables false
set_option linter.unusedSimpArgs false
open Go.RowKit

theorem info_u8 : (Tryd.prog.info? 5).map (fun i => (i.zero, i.size, i.bytes)) = some (some (.int .u8 0), 1, 1) := by kernel_rfl
theorem size_u8 : (Tryd.prog.info? 5).map (·.size) = some 1 := by kernel_rfl
abbrev u8 (x : Int) : Value := .int .u8 x

set_option maxHeartbeats 1000000 in
theorem ensure_calls (A : Option Addr) (c : Nat) (l : List Int) (sz : Int) (w : World) (h : Ow 5 u8 w (.slice A l.length c) l) (h0 : 0 < sz) (hl : (l.length : Int) + sz ≤ 35184372088832) :
    Calls Tryd.prog 16 #[.slice A l.length c, .int .i64 sz] w fun e w' => ∃ g cur, e = .returned (.tuple #[.slice (some ⟨g, 0, none⟩) (l.length + sz.toNat) cur.length, .int .i64 l.length]) ∧ Row w' g 5 cur ∧ cur.take l.length = l.map u8 ∧ l.length + sz.toNat ≤ cur.length ∧ cur.length ≤ maxLen ∧ Ch No w w' ∧ (A = some ⟨g, 0, none⟩ ∨ w.heap.size ≤ g) := by
  obtain ⟨s, rfl⟩ := Int.eq_ofNat_of_zero_le (Int.le_of_lt h0)
  simp only [Int.toNat_natCast]
  obtain ⟨_, hlc, hcm⟩ := h.le
  unfold maxLen at hcm
  have hr := h.rd
  by_cases hfit : (c : Int) - l.length < s
  · have hf := decide_eq_true hfit
    go_enter Tryd.func16, Tryd.ntmps16
    go_wp2_with (first
      | (at_make; refine wp_make rfl 22 5 _ _ rfl (.int .u8 0) 1 Tryd.underlying22 info_u8 rfl _ _ _ _ (2 * c + s) rfl rfl (by omega) (by omega) (by omega) (by omega) ?_; intro w1 hrow hch)
      | ((with_reducible refine gate (.call { callee := .builtin .copy, args := #[.tmp 24, .tmp 25], argTypes := #[22, 22] }) rfl ?_); refine wp_copy rfl _ _ 22 22 5 rfl Tryd.underlying22 size_u8 u8 (fun _ => rfl) _ 0 _ _ _ _ _ rfl rfl _ 5 hrow l rfl (hr.keep0 hch) (by simp) ?_; intro w2 hrow2 hch2))
    go_ret2
    have hlen : (List.take 0 (List.replicate (2 * c + s) (Value.int .u8 0)) ++ (l.take (2 * c + s)).map u8 ++ List.drop (0 + min l.length (2 * c + s)) (List.replicate (2 * c + s) (Value.int .u8 0))).length = 2 * c + s := by simp; omega
    refine ⟨w.heap.size, _, ?_, hrow2, ?_, by omega, by rw [hlen]; unfold maxLen; omega, (hch.trans hch2 (fun _ h => h) (fun x hx => .inr (by omega))), .inr (Nat.le_refl _)⟩
    · have hmin : min l.length (2 * c + s) = l.length := by omega
      rw [hlen]
      simp [hmin]
    · rw [List.take_of_length_le (show l.length ≤ 2 * c + s by omega)]
      simp
  · have hf := decide_eq_false hfit
    go_enter Tryd.func16, Tryd.ntmps16
    go_wp2
    go_ret2
    obtain ⟨g, cur, rfl, hrow, hcl, _, _, _, htk⟩ := h.row (by omega)
    subst hcl
    exact ⟨g, cur, by first | rfl | simp, hrow, htk, by omega, by unfold maxLen; omega, Ch.refl _ _, .inl rfl⟩


end Go.Proofs.YtkbjnkhkjgomcaaDoor
