/- The walk of the reference's look at whether a value can be written, whole. No condition. -/
import Derived.Test.YtbdgkikipekmlaaDoorValK
import Derived.Test.YtbdgkikipekmlaaDoorValL
import Derived.Test.YtbdgkikipekmlaaDoorValN
import Derived.Test.YtbdgkikipekmlaaDoorValO
import Derived.Test.YtbdgkikipekmlaaDoorValQ
import Derived.Test.YtbdgkikipekmlaaDoorValR
import Derived.Test.YtbdgkikipekmlaaDoorValU
import Derived.OpenShut
namespace Go.Proofs.YtbdgkikipekmlaaDoor
set_option linter.unusedVariables false
set_option linter.unusedSimpArgs false
open Go.RowKit
set_option maxRecDepth 100000 in
set_option maxHeartbeats 4000000 in
theorem fitv_lo (t : Va) (k n o lv : Int) (s : ByteArray) (m d : Nat) (A B : Option Addr) (cap capB : Nat) (w : World) (hk : k < 0) :
    Calls Tryd.prog 68 #[.agg #[.int .i64 k, .int .u64 n, .string s, .slice A m cap, .int .i64 o, .slice B d capB], .int .i64 lv] w (FvTo t lv w) := by
  have hB := Row.alloc w [.int .i64 k, .int .u64 n, .string s, .slice A m cap, .int .i64 o, .slice B d capB] 25
  have q0 := hB.cell 0 _ rfl
  have q1 := hB.cell 1 _ rfl
  have q2 := hB.cell 2 _ rfl
  have q3 := hB.cell 3 _ rfl
  have q4 := hB.cell 4 _ rfl
  have q5 := hB.cell 5 _ rfl
  have k14 : k ≠ 14 := by omega
  have e14 : (k == 14) = false := beq_eq_false_iff_ne.2 k14
  have f14 : (k != 14) = true := bne_iff_ne.2 k14
  have g14 : decide (k = 14) = false := decide_eq_false k14
  have k21 : k ≠ 21 := by omega
  have e21 : (k == 21) = false := beq_eq_false_iff_ne.2 k21
  have f21 : (k != 21) = true := bne_iff_ne.2 k21
  have g21 : decide (k = 21) = false := decide_eq_false k21
  have k22 : k ≠ 22 := by omega
  have e22 : (k == 22) = false := beq_eq_false_iff_ne.2 k22
  have f22 : (k != 22) = true := bne_iff_ne.2 k22
  have g22 : decide (k = 22) = false := decide_eq_false k22
  have k23 : k ≠ 23 := by omega
  have e23 : (k == 23) = false := beq_eq_false_iff_ne.2 k23
  have f23 : (k != 23) = true := bne_iff_ne.2 k23
  have g23 : decide (k = 23) = false := decide_eq_false k23
  have d0 : decide (k < 0) = true := decide_eq_true hk
  have d1 : decide (17 ≤ k) = false := decide_eq_false (by omega)
  have d2 : decide (1 ≤ k) = false := decide_eq_false (by omega)
  go_enter Tryd.func68, Tryd.ntmps68
  go_wp2_with fail
  all_goals (go_ret; exact ⟨false, rfl, (Ch.refl No w).alloc _, fun h => by cases h⟩)
set_option maxRecDepth 100000 in
set_option maxHeartbeats 4000000 in
theorem fitv_hi (t : Va) (k n o lv : Int) (s : ByteArray) (m d : Nat) (A B : Option Addr) (cap capB : Nat) (w : World) (hk : 23 < k) :
    Calls Tryd.prog 68 #[.agg #[.int .i64 k, .int .u64 n, .string s, .slice A m cap, .int .i64 o, .slice B d capB], .int .i64 lv] w (FvTo t lv w) := by
  have hB := Row.alloc w [.int .i64 k, .int .u64 n, .string s, .slice A m cap, .int .i64 o, .slice B d capB] 25
  have q0 := hB.cell 0 _ rfl
  have q1 := hB.cell 1 _ rfl
  have q2 := hB.cell 2 _ rfl
  have q3 := hB.cell 3 _ rfl
  have q4 := hB.cell 4 _ rfl
  have q5 := hB.cell 5 _ rfl
  have k14 : k ≠ 14 := by omega
  have e14 : (k == 14) = false := beq_eq_false_iff_ne.2 k14
  have f14 : (k != 14) = true := bne_iff_ne.2 k14
  have g14 : decide (k = 14) = false := decide_eq_false k14
  have k21 : k ≠ 21 := by omega
  have e21 : (k == 21) = false := beq_eq_false_iff_ne.2 k21
  have f21 : (k != 21) = true := bne_iff_ne.2 k21
  have g21 : decide (k = 21) = false := decide_eq_false k21
  have k22 : k ≠ 22 := by omega
  have e22 : (k == 22) = false := beq_eq_false_iff_ne.2 k22
  have f22 : (k != 22) = true := bne_iff_ne.2 k22
  have g22 : decide (k = 22) = false := decide_eq_false k22
  have k23 : k ≠ 23 := by omega
  have e23 : (k == 23) = false := beq_eq_false_iff_ne.2 k23
  have f23 : (k != 23) = true := bne_iff_ne.2 k23
  have g23 : decide (k = 23) = false := decide_eq_false k23
  have d0 : decide (k < 0) = false := decide_eq_false (by omega)
  have d1 : decide (17 ≤ k) = true := decide_eq_true (by omega)
  have d2 : decide (k ≤ 20) = false := decide_eq_false (by omega)
  have d3 : decide (1 ≤ k) = true := decide_eq_true (by omega)
  have d4 : decide (k ≤ 16) = false := decide_eq_false (by omega)
  have d5 : decide (24 ≤ k) = true := decide_eq_true (by omega)
  go_enter Tryd.func68, Tryd.ntmps68
  go_wp2_with fail
  all_goals (go_ret; exact ⟨false, rfl, (Ch.refl No w).alloc _, fun h => by cases h⟩)

theorem fitsv_calls (w0 : World) : ∀ (t : Va) (v0 v1 v2 v3 v4 v5 : Value) (w : World) (lv : Int), VaP w0 t [v0, v1, v2, v3, v4, v5] → Ch (Fro w0.heap.size) w0 w → Tabs w → lv ≤ 100 → -100 ≤ lv →
    Calls Tryd.prog 68 #[.agg #[v0, v1, v2, v3, v4, v5], .int .i64 lv] w (FvTo t lv w) := by
  intro t
  induction t with
  | mk k n s m K o d D ihK ihD =>
    intro v0 v1 v2 v3 v4 v5 w lv ht hw hT hlv hlv0
    have ht' := ht
    obtain ⟨A, cap, B, capB, he, _, hwn, _, hsz, hmc, hcm, hdc, hcd, _, _⟩ := ht'
    have hmb : m ≤ maxLen := Nat.le_trans hmc hcm
    have hdb : d ≤ maxLen := Nat.le_trans hdc hcd
    unfold maxLen at hmb hdb hsz
    clear hmc hcm hdc hcd
    simp only [List.cons.injEq, and_true] at he
    obtain ⟨rfl, rfl, rfl, rfl, rfl, rfl⟩ := he
    obtain ⟨hb0, hb1⟩ := bounds_u64 hwn
    have ihK' : ∀ (i : Nat) (h : i < m) (v0 v1 v2 v3 v4 v5 : Value) (w : World), VaP w0 (K ⟨i, h⟩) [v0, v1, v2, v3, v4, v5] → Ch (Fro w0.heap.size) w0 w → Tabs w → -100 ≤ lv - 1 → Calls Tryd.prog 68 #[.agg #[v0, v1, v2, v3, v4, v5], .int .i64 (lv - 1)] w (FvTo (K ⟨i, h⟩) (lv - 1) w) := fun i h v0 v1 v2 v3 v4 v5 w ht hw hT h9 => ihK ⟨i, h⟩ v0 v1 v2 v3 v4 v5 w (lv - 1) ht hw hT (by omega) h9
    have ihD' : ∀ (i : Nat) (h : i < d) (v0 v1 v2 v3 v4 v5 : Value) (w : World), VaP w0 (D ⟨i, h⟩) [v0, v1, v2, v3, v4, v5] → Ch (Fro w0.heap.size) w0 w → Tabs w → -100 ≤ lv - 1 → Calls Tryd.prog 68 #[.agg #[v0, v1, v2, v3, v4, v5], .int .i64 (lv - 1)] w (FvTo (D ⟨i, h⟩) (lv - 1) w) := fun i h v0 v1 v2 v3 v4 v5 w ht hw hT h9 => ihD ⟨i, h⟩ v0 v1 v2 v3 v4 v5 w (lv - 1) ht hw hT (by omega) h9
    by_cases k0 : k < 0
    · exact fitv_lo _ k n o lv s m d A B cap capB w k0
    by_cases k1 : 23 < k
    · exact fitv_hi _ k n o lv s m d A B cap capB w k1
    by_cases k0' : k = 0
    · subst k0'
      exact fitv_0 w0 n o lv s m d K D A B cap capB w ht hw (by omega) (by omega) (by omega) hT hb0 (by omega) hlv hlv0 ihK' ihD'
    by_cases k14' : k = 14
    · subst k14'
      exact fitv_14 w0 n o lv s m d K D A B cap capB w ht hw (by omega) (by omega) (by omega) hT hb0 (by omega) hlv hlv0 ihK' ihD'
    by_cases k21' : k = 21
    · subst k21'
      exact fitv_21 w0 n o lv s m d K D A B cap capB w ht hw (by omega) (by omega) (by omega) hT hb0 (by omega) hlv hlv0 ihK' ihD'
    by_cases k22' : k = 22
    · subst k22'
      exact fitv_22 w0 n o lv s m d K D A B cap capB w ht hw (by omega) (by omega) (by omega) hT hb0 (by omega) hlv hlv0 ihK' ihD'
    by_cases k23' : k = 23
    · subst k23'
      exact fitv_23 w0 n o lv s m d K D A B cap capB w ht hw (by omega) (by omega) (by omega) hT hb0 (by omega) hlv hlv0 ihK' ihD'

    by_cases k2 : k ≤ 16
    · exact fitv_num w0 k n o lv s m d K D A B cap capB w ht hw (by omega) (by omega) (by omega) hT hb0 (by omega) hlv hlv0 (by omega) k2 k14' ihK' ihD'
    · exact fitv_txt w0 k n o lv s m d K D A B cap capB w ht hw (by omega) (by omega) (by omega) hT hb0 (by omega) hlv hlv0 (by omega) (by omega) ihK' ihD'
/-- It can be written: few enough values, and each fits. -/
def PvTo (t : Va) (lv : Int) (w : World) (e : Ending) (w' : World) : Prop := ∃ b : Bool, e = .returned (.bool b) ∧ Ch No w w' ∧ (b = true → cntV t ≤ 2000 ∧ FitV t lv)
set_option maxRecDepth 100000 in
set_option maxHeartbeats 1000000 in
theorem valueFits_calls (w0 : World) (t : Va) (v0 v1 v2 v3 v4 v5 : Value) (w : World) (lv : Int) (ht : VaP w0 t [v0, v1, v2, v3, v4, v5]) (hw : Ch (Fro w0.heap.size) w0 w) (hT : Tabs w) (hlv : lv ≤ 100) (hlv0 : -100 ≤ lv) :
    Calls Tryd.prog 41 #[.agg #[v0, v1, v2, v3, v4, v5], .int .i64 lv] w (PvTo t lv w) := by
  have hws : w0.heap.size ≤ w.heap.size := hw.size
  have hrow := Row.alloc (w.alloc (.cells #[v0, v1, v2, v3, v4, v5] 25)) [.int .i64 2000] 3
  rw [World.size_alloc] at hrow
  have hB := (Row.alloc w [v0, v1, v2, v3, v4, v5] 25).keep0 ((Ch.refl No _).alloc (.cells #[.int .i64 2000] 3))
  have C1 : Ch No w ((w.alloc (.cells #[v0, v1, v2, v3, v4, v5] 25)).alloc (.cells #[.int .i64 2000] 3)) := ((Ch.refl No w).alloc _).alloc _
  have hfew := fewV_calls w0 (w.heap.size + 1) (by omega) t v0 v1 v2 v3 v4 v5 _ 2000 ht (hw.then_no C1) hrow (by omega) (by omega)
  go_enter Tryd.func41, Tryd.ntmps41
  go_wp2_with fail
  refine hfew.mono ?_
  rintro e w1 ⟨b, z, rfl, hrow1, hch1, hz⟩
  have C2 : Ch No w w1 := C1.freshg hch1 (by omega)
  have hB1 := hB.keep hch1 (by omega)
  cases b
  · go_wp2_with fail
    go_ret
    exact ⟨false, rfl, C2, (fun h => by cases h)⟩
  · obtain ⟨hz0, hz1⟩ := hz rfl
    have hcnt : cntV t ≤ 2000 := by omega
    have q0 : w1.cell? ⟨w.heap.size, 0, none⟩ = some v0 := hB1.cell 0 _ rfl
    have q1 : w1.cell? ⟨w.heap.size, 1, none⟩ = some v1 := hB1.cell 1 _ rfl
    have q2 : w1.cell? ⟨w.heap.size, 2, none⟩ = some v2 := hB1.cell 2 _ rfl
    have q3 : w1.cell? ⟨w.heap.size, 3, none⟩ = some v3 := hB1.cell 3 _ rfl
    have q4 : w1.cell? ⟨w.heap.size, 4, none⟩ = some v4 := hB1.cell 4 _ rfl
    have q5 : w1.cell? ⟨w.heap.size, 5, none⟩ = some v5 := hB1.cell 5 _ rfl

    go_wp2_with fail
    refine (fitsv_calls w0 t v0 v1 v2 v3 v4 v5 w1 lv ht (hw.then_no C2) (hT.keep0 C2) hlv hlv0).mono ?_
    rintro e w2 ⟨b, rfl, hch2, hf⟩
    go_wp2_with fail
    go_ret
    exact ⟨b, rfl, C2.no_no hch2, fun h => ⟨hcnt, hf h⟩⟩
end Go.Proofs.YtbdgkikipekmlaaDoor
