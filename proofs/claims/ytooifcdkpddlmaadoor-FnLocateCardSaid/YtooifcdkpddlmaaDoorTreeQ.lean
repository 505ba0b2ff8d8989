/- The walks of the reference's look at whether a tree can be written, more kinds. No condition. -/
import Derived.Test.YtooifcdkpddlmaaDoorTreeD
namespace Go.Proofs.YtooifcdkpddlmaaDoor
set_option linter.unusedVariables false
set_option linter.unusedSimpArgs false
open Go.RowKit
set_option maxRecDepth 100000 in
set_option maxHeartbeats 4000000 in
theorem fit_0 (w0 : World) (n x lv : Int) (s : ByteArray) (m : Nat) (K : Fin m → Pk) (A : Option Addr) (cap : Nat) (w : World) (ht : TrP w0 (.mk 0 n s x m K) [.int .i64 0, .int .u64 n, .string s, .int .i64 x, .slice A m cap]) (hw : Ch (Fro w0.heap.size) w0 w) (hlv : lv ≤ 100)
    (ih : ∀ (i : Nat) (h : i < m) (v0 v1 v2 v3 v4 : Value) (w : World), TrP w0 (K ⟨i, h⟩) [v0, v1, v2, v3, v4] → Ch (Fro w0.heap.size) w0 w → Calls Tryd.prog 38 #[.agg #[v0, v1, v2, v3, v4], .int .i64 (lv - 1)] w (FtTo (K ⟨i, h⟩) (lv - 1) w)) :
    Calls Tryd.prog 38 #[.agg #[.int .i64 0, .int .u64 n, .string s, .int .i64 x, .slice A m cap], .int .i64 lv] w (FtTo (.mk 0 n s x m K) lv w) := by
  have ht' := ht
  obtain ⟨_, _, he, _, hwn, hwx, _, hmc, hcm, _⟩ := ht'
  clear he hmc hcm
  have hB := Row.alloc w [.int .i64 0, .int .u64 n, .string s, .int .i64 x, .slice A m cap] 35
  have q0 := hB.cell 0 _ rfl
  have q1 := hB.cell 1 _ rfl
  have q2 := hB.cell 2 _ rfl
  have q3 := hB.cell 3 _ rfl
  have q4 := hB.cell 4 _ rfl
  go_enter Tryd.func38, Tryd.ntmps38
  go_wp2_with fail
  all_goals first | (go_ret; exact ⟨false, rfl, (fun h => by cases h), (Ch.refl No w).alloc _⟩) | skip
  go_loopg [145] m (fun kk s145 wr => ∃ i : Nat, kk + i = m ∧ s145 = .int .i64 i ∧ (∀ j (h : j < m), j < i → FitP (K ⟨j, h⟩) (lv - 1)) ∧ Ch No w wr)
  case atStart => exact ⟨0, by omega, rfl, fun j _ h => by omega, (Ch.refl No w).alloc _⟩
  case round =>
    obtain ⟨i, hki, rfl, hall, hch⟩ := hrel
    obtain rfl : i = 0 := by omega
    go_wp2_with fail
    go_ret
    exact ⟨true, rfl, fun _ => ⟨by omega, by omega, by omega, (fun _ _ => by omega), (fun _ _ _ => by first | assumption | (exfalso; omega)), (fun h => by omega), (fun _ => by omega), by omega, by omega, (fun h => by omega), (fun h => by omega), (fun h => by omega), by omega, by omega, fun i => hall i.val i.isLt (by have := i.isLt; omega)⟩, hch⟩
set_option maxRecDepth 100000 in
set_option maxHeartbeats 4000000 in
theorem fit_1 (w0 : World) (n x lv : Int) (s : ByteArray) (m : Nat) (K : Fin m → Pk) (A : Option Addr) (cap : Nat) (w : World) (ht : TrP w0 (.mk 1 n s x m K) [.int .i64 1, .int .u64 n, .string s, .int .i64 x, .slice A m cap]) (hw : Ch (Fro w0.heap.size) w0 w) (hlv : lv ≤ 100)
    (ih : ∀ (i : Nat) (h : i < m) (v0 v1 v2 v3 v4 : Value) (w : World), TrP w0 (K ⟨i, h⟩) [v0, v1, v2, v3, v4] → Ch (Fro w0.heap.size) w0 w → Calls Tryd.prog 38 #[.agg #[v0, v1, v2, v3, v4], .int .i64 (lv - 1)] w (FtTo (K ⟨i, h⟩) (lv - 1) w)) :
    Calls Tryd.prog 38 #[.agg #[.int .i64 1, .int .u64 n, .string s, .int .i64 x, .slice A m cap], .int .i64 lv] w (FtTo (.mk 1 n s x m K) lv w) := by
  have ht' := ht
  obtain ⟨_, _, he, _, hwn, hwx, _, hmc, hcm, _⟩ := ht'
  clear he hmc hcm
  have hB := Row.alloc w [.int .i64 1, .int .u64 n, .string s, .int .i64 x, .slice A m cap] 35
  have q0 := hB.cell 0 _ rfl
  have q1 := hB.cell 1 _ rfl
  have q2 := hB.cell 2 _ rfl
  have q3 := hB.cell 3 _ rfl
  have q4 := hB.cell 4 _ rfl
  go_enter Tryd.func38, Tryd.ntmps38
  go_wp2_with fail
  all_goals first | (go_ret; exact ⟨false, rfl, (fun h => by cases h), (Ch.refl No w).alloc _⟩) | skip
  go_loopg [145] m (fun kk s145 wr => ∃ i : Nat, kk + i = m ∧ s145 = .int .i64 i ∧ (∀ j (h : j < m), j < i → FitP (K ⟨j, h⟩) (lv - 1)) ∧ Ch No w wr)
  case atStart => exact ⟨0, by omega, rfl, fun j _ h => by omega, (Ch.refl No w).alloc _⟩
  case round =>
    obtain ⟨i, hki, rfl, hall, hch⟩ := hrel
    obtain rfl : i = 0 := by omega
    go_wp2_with fail
    go_ret
    exact ⟨true, rfl, fun _ => ⟨by omega, by omega, by omega, (fun _ _ => by omega), (fun _ _ _ => by first | assumption | (exfalso; omega)), (fun h => by omega), (fun _ => by omega), by omega, by omega, (fun h => by omega), (fun h => by omega), (fun h => by omega), by omega, by omega, fun i => hall i.val i.isLt (by have := i.isLt; omega)⟩, hch⟩
set_option maxRecDepth 100000 in
set_option maxHeartbeats 4000000 in
theorem fit_2 (w0 : World) (n x lv : Int) (s : ByteArray) (m : Nat) (K : Fin m → Pk) (A : Option Addr) (cap : Nat) (w : World) (ht : TrP w0 (.mk 2 n s x m K) [.int .i64 2, .int .u64 n, .string s, .int .i64 x, .slice A m cap]) (hw : Ch (Fro w0.heap.size) w0 w) (hlv : lv ≤ 100)
    (ih : ∀ (i : Nat) (h : i < m) (v0 v1 v2 v3 v4 : Value) (w : World), TrP w0 (K ⟨i, h⟩) [v0, v1, v2, v3, v4] → Ch (Fro w0.heap.size) w0 w → Calls Tryd.prog 38 #[.agg #[v0, v1, v2, v3, v4], .int .i64 (lv - 1)] w (FtTo (K ⟨i, h⟩) (lv - 1) w)) :
    Calls Tryd.prog 38 #[.agg #[.int .i64 2, .int .u64 n, .string s, .int .i64 x, .slice A m cap], .int .i64 lv] w (FtTo (.mk 2 n s x m K) lv w) := by
  have ht' := ht
  obtain ⟨_, _, he, _, hwn, hwx, _, hmc, hcm, _⟩ := ht'
  clear he hmc hcm
  have hB := Row.alloc w [.int .i64 2, .int .u64 n, .string s, .int .i64 x, .slice A m cap] 35
  have q0 := hB.cell 0 _ rfl
  have q1 := hB.cell 1 _ rfl
  have q2 := hB.cell 2 _ rfl
  have q3 := hB.cell 3 _ rfl
  have q4 := hB.cell 4 _ rfl
  go_enter Tryd.func38, Tryd.ntmps38
  go_wp2_with fail
  all_goals first | (go_ret; exact ⟨false, rfl, (fun h => by cases h), (Ch.refl No w).alloc _⟩) | skip
  go_loopg [145] m (fun kk s145 wr => ∃ i : Nat, kk + i = m ∧ s145 = .int .i64 i ∧ (∀ j (h : j < m), j < i → FitP (K ⟨j, h⟩) (lv - 1)) ∧ Ch No w wr)
  case atStart => exact ⟨0, by omega, rfl, fun j _ h => by omega, (Ch.refl No w).alloc _⟩
  case round =>
    obtain ⟨i, hki, rfl, hall, hch⟩ := hrel
    obtain rfl : i = 0 := by omega
    go_wp2_with fail
    go_ret
    exact ⟨true, rfl, fun _ => ⟨by omega, by omega, by omega, (fun _ _ => by omega), (fun _ _ _ => by first | assumption | (exfalso; omega)), (fun h => by omega), (fun _ => by omega), by omega, by omega, (fun h => by omega), (fun h => by omega), (fun h => by omega), by omega, by omega, fun i => hall i.val i.isLt (by have := i.isLt; omega)⟩, hch⟩
set_option maxRecDepth 100000 in
set_option maxHeartbeats 4000000 in
theorem fit_3 (w0 : World) (n x lv : Int) (s : ByteArray) (m : Nat) (K : Fin m → Pk) (A : Option Addr) (cap : Nat) (w : World) (ht : TrP w0 (.mk 3 n s x m K) [.int .i64 3, .int .u64 n, .string s, .int .i64 x, .slice A m cap]) (hw : Ch (Fro w0.heap.size) w0 w) (hlv : lv ≤ 100)
    (ih : ∀ (i : Nat) (h : i < m) (v0 v1 v2 v3 v4 : Value) (w : World), TrP w0 (K ⟨i, h⟩) [v0, v1, v2, v3, v4] → Ch (Fro w0.heap.size) w0 w → Calls Tryd.prog 38 #[.agg #[v0, v1, v2, v3, v4], .int .i64 (lv - 1)] w (FtTo (K ⟨i, h⟩) (lv - 1) w)) :
    Calls Tryd.prog 38 #[.agg #[.int .i64 3, .int .u64 n, .string s, .int .i64 x, .slice A m cap], .int .i64 lv] w (FtTo (.mk 3 n s x m K) lv w) := by
  have ht' := ht
  obtain ⟨_, _, he, _, hwn, hwx, _, hmc, hcm, _⟩ := ht'
  clear he hmc hcm
  have hB := Row.alloc w [.int .i64 3, .int .u64 n, .string s, .int .i64 x, .slice A m cap] 35
  have q0 := hB.cell 0 _ rfl
  have q1 := hB.cell 1 _ rfl
  have q2 := hB.cell 2 _ rfl
  have q3 := hB.cell 3 _ rfl
  have q4 := hB.cell 4 _ rfl
  go_enter Tryd.func38, Tryd.ntmps38
  go_wp2_with fail
  all_goals first | (go_ret; exact ⟨false, rfl, (fun h => by cases h), (Ch.refl No w).alloc _⟩) | skip
  go_loopg [145] m (fun kk s145 wr => ∃ i : Nat, kk + i = m ∧ s145 = .int .i64 i ∧ (∀ j (h : j < m), j < i → FitP (K ⟨j, h⟩) (lv - 1)) ∧ Ch No w wr)
  case atStart => exact ⟨0, by omega, rfl, fun j _ h => by omega, (Ch.refl No w).alloc _⟩
  case round =>
    obtain ⟨i, hki, rfl, hall, hch⟩ := hrel
    obtain rfl : i = 0 := by omega
    go_wp2_with fail
    go_ret
    exact ⟨true, rfl, fun _ => ⟨by omega, by omega, by omega, (fun _ _ => by omega), (fun _ _ _ => by first | assumption | (exfalso; omega)), (fun h => by omega), (fun _ => by omega), by omega, by omega, (fun h => by omega), (fun h => by omega), (fun h => by omega), by omega, by omega, fun i => hall i.val i.isLt (by have := i.isLt; omega)⟩, hch⟩

end Go.Proofs.YtooifcdkpddlmaaDoor
