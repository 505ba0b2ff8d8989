/- The walk of textArray. No condition. -/
import Derived.Test.YtbdgkikipekmlaaDoorArb
namespace Go.Proofs.YtbdgkikipekmlaaDoor
set_option linter.unusedVariables false
set_option linter.unusedSimpArgs false
open Go.RowKit

def TxTo (k : Int) (w : World) (e : Ending) (w' : World) : Prop := ∃ b : Bool, e = .returned (.bool b) ∧ (k ≠ 23 → b = false) ∧ Ch No w w'
set_option maxRecDepth 100000 in
set_option maxHeartbeats 4000000 in
theorem textArray_calls (w0 : World) (k n o : Int) (s : ByteArray) (m d : Nat) (K : Fin m → Va) (D : Fin d → Va) (A B : Option Addr) (cap capB : Nat) (w : World) (ht : VaP w0 (.mk k n s m K o d D) [.int .i64 k, .int .u64 n, .string s, .slice A m cap, .int .i64 o, .slice B d capB]) (hw : Ch (Fro w0.heap.size) w0 w) :
    Calls Tryd.prog 30 #[.agg #[.int .i64 k, .int .u64 n, .string s, .slice A m cap, .int .i64 o, .slice B d capB]] w (TxTo k w) := by
  have C1 : Ch No w (w.alloc (.cells #[.int .i64 k, .int .u64 n, .string s, .slice A m cap, .int .i64 o, .slice B d capB] 25)) := (Ch.refl No w).alloc _
  by_cases hk : k = 23
  rotate_left
  · have e23 : (k == 23) = false := beq_eq_false_iff_ne.2 hk
    have f23 : (k != 23) = true := bne_iff_ne.2 hk
    have g23 : decide (k = 23) = false := decide_eq_false hk
    have hB := Row.alloc w [.int .i64 k, .int .u64 n, .string s, .slice A m cap, .int .i64 o, .slice B d capB] 25
    have p0 := hB.cell 0 _ rfl
    have p3 := hB.cell 3 _ rfl
    have p4 := hB.cell 4 _ rfl
    go_enter Tryd.func30, Tryd.ntmps30
    go_wp2_with fail
    go_ret
    exact ⟨false, rfl, fun _ => rfl, C1⟩
  subst hk
  rcases Nat.eq_zero_or_pos m with hz | hz
  · subst hz
    rcases (show o = 19 ∨ o = 20 ∨ (o ≠ 19 ∧ o ≠ 20) by omega) with rfl | rfl | ⟨h19, h20⟩
    · have hB := Row.alloc w [.int .i64 23, .int .u64 n, .string s, .slice A 0 cap, .int .i64 19, .slice B d capB] 25
      have p0 := hB.cell 0 _ rfl
      have p3 := hB.cell 3 _ rfl
      have p4 := hB.cell 4 _ rfl
      go_enter Tryd.func30, Tryd.ntmps30
      go_wp2_with fail
      go_ret
      exact ⟨_, rfl, fun h => absurd rfl h, C1⟩
    · have hB := Row.alloc w [.int .i64 23, .int .u64 n, .string s, .slice A 0 cap, .int .i64 20, .slice B d capB] 25
      have p0 := hB.cell 0 _ rfl
      have p3 := hB.cell 3 _ rfl
      have p4 := hB.cell 4 _ rfl
      go_enter Tryd.func30, Tryd.ntmps30
      go_wp2_with fail
      go_ret
      exact ⟨_, rfl, fun h => absurd rfl h, C1⟩
    · have hB := Row.alloc w [.int .i64 23, .int .u64 n, .string s, .slice A 0 cap, .int .i64 o, .slice B d capB] 25
      have p0 := hB.cell 0 _ rfl
      have p3 := hB.cell 3 _ rfl
      have p4 := hB.cell 4 _ rfl
      have e19 : (o == 19) = false := beq_eq_false_iff_ne.2 h19
      have g19 : decide (o = 19) = false := decide_eq_false h19
      have e20 : (o == 20) = false := beq_eq_false_iff_ne.2 h20
      have g20 : decide (o = 20) = false := decide_eq_false h20
      go_enter Tryd.func30, Tryd.ntmps30
      go_wp2_with fail
      go_ret
      exact ⟨_, rfl, fun h => absurd rfl h, C1⟩
  · have hm1 : decide ((0 : Int) < m) = true := decide_eq_true (by omega)
    have hm2 : (0 : Int) < m := by omega
    have hm3 : ((m : Int) == 0) = false := beq_eq_false_iff_ne.2 (by omega)
    have hm4 : decide ((m : Int) = 0) = false := decide_eq_false (by omega)
    obtain ⟨b1, o1, u0, u1, u2, u3, u4, u5, rfl, htk, a0, a1, a2, a3, a4, a5⟩ := ht.kid (w := w.alloc (.cells #[.int .i64 23, .int .u64 n, .string s, .slice A m cap, .int .i64 o, .slice B d capB] 25)) (hw.then_no C1) 0 hz
    obtain ⟨kt, hkt⟩ : ∃ kt, K ⟨0, hz⟩ = kt := ⟨_, rfl⟩
    rw [hkt] at htk
    obtain ⟨k', n', s', m', K', o', d', D'⟩ := kt
    obtain ⟨A', cap', B', capB', he, _⟩ := htk
    simp only [List.cons.injEq, and_true] at he
    obtain ⟨rfl, rfl, rfl, rfl, rfl, rfl⟩ := he
    clear hkt a1 a2 a3 a4 a5
    simp only [Nat.zero_mul, Nat.add_zero] at a0
    rcases (show k' = 19 ∨ k' = 20 ∨ (k' ≠ 19 ∧ k' ≠ 20) by omega) with rfl | rfl | ⟨h19, h20⟩
    · have hB := Row.alloc w [.int .i64 23, .int .u64 n, .string s, .slice (some ⟨b1, o1, none⟩) m cap, .int .i64 o, .slice B d capB] 25
      have p0 := hB.cell 0 _ rfl
      have p3 := hB.cell 3 _ rfl
      have p4 := hB.cell 4 _ rfl
      go_enter Tryd.func30, Tryd.ntmps30
      go_wp2_with fail
      go_ret
      exact ⟨_, rfl, fun h => absurd rfl h, C1⟩
    · have hB := Row.alloc w [.int .i64 23, .int .u64 n, .string s, .slice (some ⟨b1, o1, none⟩) m cap, .int .i64 o, .slice B d capB] 25
      have p0 := hB.cell 0 _ rfl
      have p3 := hB.cell 3 _ rfl
      have p4 := hB.cell 4 _ rfl
      go_enter Tryd.func30, Tryd.ntmps30
      go_wp2_with fail
      go_ret
      exact ⟨_, rfl, fun h => absurd rfl h, C1⟩
    · have hB := Row.alloc w [.int .i64 23, .int .u64 n, .string s, .slice (some ⟨b1, o1, none⟩) m cap, .int .i64 o, .slice B d capB] 25
      have p0 := hB.cell 0 _ rfl
      have p3 := hB.cell 3 _ rfl
      have p4 := hB.cell 4 _ rfl
      have e19 : (k' == 19) = false := beq_eq_false_iff_ne.2 h19
      have g19 : decide (k' = 19) = false := decide_eq_false h19
      have e20 : (k' == 20) = false := beq_eq_false_iff_ne.2 h20
      have g20 : decide (k' = 20) = false := decide_eq_false h20
      go_enter Tryd.func30, Tryd.ntmps30
      go_wp2_with fail
      go_ret
      exact ⟨_, rfl, fun h => absurd rfl h, C1⟩

end Go.Proofs.YtbdgkikipekmlaaDoor
