/- The walk of the reference's look at whether a tree can be written, whole. No condition. -/
import Derived.Test.YtooifcdkpddlmaaDoorTreeQ
import Derived.Test.YtooifcdkpddlmaaDoorTreeR
import Derived.Test.YtooifcdkpddlmaaDoorTreeU
import Derived.Test.YtooifcdkpddlmaaDoorTreeV
namespace Go.Proofs.YtooifcdkpddlmaaDoor
set_option linter.unusedVariables false
set_option linter.unusedSimpArgs false
open Go.RowKit
set_option maxRecDepth 100000 in
set_option maxHeartbeats 4000000 in
theorem fit_lo (t : Pk) (k n x lv : Int) (s : ByteArray) (m : Nat) (A : Option Addr) (cap : Nat) (w : World) (hk : k < 0) :
    Calls Tryd.prog 38 #[.agg #[.int .i64 k, .int .u64 n, .string s, .int .i64 x, .slice A m cap], .int .i64 lv] w (FtTo t lv w) := by
  have hB := Row.alloc w [.int .i64 k, .int .u64 n, .string s, .int .i64 x, .slice A m cap] 35
  have q0 := hB.cell 0 _ rfl
  have q1 := hB.cell 1 _ rfl
  have q2 := hB.cell 2 _ rfl
  have q3 := hB.cell 3 _ rfl
  have q4 := hB.cell 4 _ rfl
  have k6 : k ≠ 6 := by omega
  have e6 : (k == 6) = false := beq_eq_false_iff_ne.2 k6
  have f6 : (k != 6) = true := bne_iff_ne.2 k6
  have g6 : decide (k = 6) = false := decide_eq_false k6
  have k7 : k ≠ 7 := by omega
  have e7 : (k == 7) = false := beq_eq_false_iff_ne.2 k7
  have f7 : (k != 7) = true := bne_iff_ne.2 k7
  have g7 : decide (k = 7) = false := decide_eq_false k7
  have k8 : k ≠ 8 := by omega
  have e8 : (k == 8) = false := beq_eq_false_iff_ne.2 k8
  have f8 : (k != 8) = true := bne_iff_ne.2 k8
  have g8 : decide (k = 8) = false := decide_eq_false k8
  have k9 : k ≠ 9 := by omega
  have e9 : (k == 9) = false := beq_eq_false_iff_ne.2 k9
  have f9 : (k != 9) = true := bne_iff_ne.2 k9
  have g9 : decide (k = 9) = false := decide_eq_false k9
  have k10 : k ≠ 10 := by omega
  have e10 : (k == 10) = false := beq_eq_false_iff_ne.2 k10
  have f10 : (k != 10) = true := bne_iff_ne.2 k10
  have g10 : decide (k = 10) = false := decide_eq_false k10
  have d0 : decide (k < 0) = true := decide_eq_true hk
  have d1 : decide (1 ≤ k) = false := decide_eq_false (by omega)
  go_enter Tryd.func38, Tryd.ntmps38
  go_wp2_with fail
  all_goals (go_ret; exact ⟨false, rfl, (fun h => by cases h), (Ch.refl No w).alloc _⟩)
set_option maxRecDepth 100000 in
set_option maxHeartbeats 4000000 in
theorem fit_hi (t : Pk) (k n x lv : Int) (s : ByteArray) (m : Nat) (A : Option Addr) (cap : Nat) (w : World) (hk : 10 < k) :
    Calls Tryd.prog 38 #[.agg #[.int .i64 k, .int .u64 n, .string s, .int .i64 x, .slice A m cap], .int .i64 lv] w (FtTo t lv w) := by
  have hB := Row.alloc w [.int .i64 k, .int .u64 n, .string s, .int .i64 x, .slice A m cap] 35
  have q0 := hB.cell 0 _ rfl
  have q1 := hB.cell 1 _ rfl
  have q2 := hB.cell 2 _ rfl
  have q3 := hB.cell 3 _ rfl
  have q4 := hB.cell 4 _ rfl
  have k6 : k ≠ 6 := by omega
  have e6 : (k == 6) = false := beq_eq_false_iff_ne.2 k6
  have f6 : (k != 6) = true := bne_iff_ne.2 k6
  have g6 : decide (k = 6) = false := decide_eq_false k6
  have k7 : k ≠ 7 := by omega
  have e7 : (k == 7) = false := beq_eq_false_iff_ne.2 k7
  have f7 : (k != 7) = true := bne_iff_ne.2 k7
  have g7 : decide (k = 7) = false := decide_eq_false k7
  have k8 : k ≠ 8 := by omega
  have e8 : (k == 8) = false := beq_eq_false_iff_ne.2 k8
  have f8 : (k != 8) = true := bne_iff_ne.2 k8
  have g8 : decide (k = 8) = false := decide_eq_false k8
  have k9 : k ≠ 9 := by omega
  have e9 : (k == 9) = false := beq_eq_false_iff_ne.2 k9
  have f9 : (k != 9) = true := bne_iff_ne.2 k9
  have g9 : decide (k = 9) = false := decide_eq_false k9
  have k10 : k ≠ 10 := by omega
  have e10 : (k == 10) = false := beq_eq_false_iff_ne.2 k10
  have f10 : (k != 10) = true := bne_iff_ne.2 k10
  have g10 : decide (k = 10) = false := decide_eq_false k10
  have d0 : decide (k < 0) = false := decide_eq_false (by omega)
  have d1 : decide (1 ≤ k) = true := decide_eq_true (by omega)
  have d2 : decide (k ≤ 5) = false := decide_eq_false (by omega)
  have d3 : decide (11 ≤ k) = true := decide_eq_true (by omega)
  go_enter Tryd.func38, Tryd.ntmps38
  go_wp2_with fail
  all_goals (go_ret; exact ⟨false, rfl, (fun h => by cases h), (Ch.refl No w).alloc _⟩)

theorem fits_calls (w0 : World) : ∀ (t : Pk) (v0 v1 v2 v3 v4 : Value) (w : World) (lv : Int), TrP w0 t [v0, v1, v2, v3, v4] → Ch (Fro w0.heap.size) w0 w → lv ≤ 100 →
    Calls Tryd.prog 38 #[.agg #[v0, v1, v2, v3, v4], .int .i64 lv] w (FtTo t lv w) := by
  intro t
  induction t with
  | mk k n s x m K ih =>
    intro v0 v1 v2 v3 v4 w lv ht hw hlv
    have ht' := ht
    obtain ⟨A, cap, he, _⟩ := ht'
    simp only [List.cons.injEq, and_true] at he
    obtain ⟨rfl, rfl, rfl, rfl, rfl⟩ := he
    have ih' : ∀ (i : Nat) (h : i < m) (v0 v1 v2 v3 v4 : Value) (w : World), TrP w0 (K ⟨i, h⟩) [v0, v1, v2, v3, v4] → Ch (Fro w0.heap.size) w0 w → Calls Tryd.prog 38 #[.agg #[v0, v1, v2, v3, v4], .int .i64 (lv - 1)] w (FtTo (K ⟨i, h⟩) (lv - 1) w) := fun i h v0 v1 v2 v3 v4 w ht hw => ih ⟨i, h⟩ v0 v1 v2 v3 v4 w (lv - 1) ht hw (by omega)
    by_cases h0 : k < 0
    · exact fit_lo _ k n x lv s m A cap w h0
    by_cases h1 : 10 < k
    · exact fit_hi _ k n x lv s m A cap w h1
    by_cases k0 : k = 0
    · subst k0
      exact fit_0 w0 n x lv s m K A cap w ht hw hlv ih'
    by_cases k1 : k = 1
    · subst k1
      exact fit_1 w0 n x lv s m K A cap w ht hw hlv ih'
    by_cases k2 : k = 2
    · subst k2
      exact fit_2 w0 n x lv s m K A cap w ht hw hlv ih'
    by_cases k3 : k = 3
    · subst k3
      exact fit_3 w0 n x lv s m K A cap w ht hw hlv ih'
    by_cases k4 : k = 4
    · subst k4
      exact fit_4 w0 n x lv s m K A cap w ht hw hlv ih'
    by_cases k5 : k = 5
    · subst k5
      exact fit_5 w0 n x lv s m K A cap w ht hw hlv ih'
    by_cases k6 : k = 6
    · subst k6
      exact fit_6 w0 n x lv s m K A cap w ht hw hlv ih'
    by_cases k7 : k = 7
    · subst k7
      exact fit_7 w0 n x lv s m K A cap w ht hw hlv ih'
    by_cases k8 : k = 8
    · subst k8
      exact fit_8 w0 n x lv s m K A cap w ht hw hlv ih'
    by_cases k9 : k = 9
    · subst k9
      exact fit_9 w0 n x lv s m K A cap w ht hw hlv ih'
    by_cases k10 : k = 10
    · subst k10
      exact fit_10 w0 n x lv s m K A cap w ht hw hlv ih'

    omega
end Go.Proofs.YtooifcdkpddlmaaDoor
