/- The walks of the reference's look at whether a tree can be written, more kinds. No condition. -/
import Derived.Test.YtooifcdkpddlmaaDoorTreeD
namespace Go.Proofs.YtooifcdkpddlmaaDoor
set_option linter.unusedVariables false
set_option linter.unusedSimpArgs false
open Go.RowKit
set_option maxRecDepth 100000 in
set_option maxHeartbeats 4000000 in
theorem fit_8 (w0 : World) (n x lv : Int) (s : ByteArray) (m : Nat) (K : Fin m → Pk) (A : Option Addr) (cap : Nat) (w : World) (ht : TrP w0 (.mk 8 n s x m K) [.int .i64 8, .int .u64 n, .string s, .int .i64 x, .slice A m cap]) (hw : Ch (Fro w0.heap.size) w0 w) (hlv : lv ≤ 100)
    (ih : ∀ (i : Nat) (h : i < m) (v0 v1 v2 v3 v4 : Value) (w : World), TrP w0 (K ⟨i, h⟩) [v0, v1, v2, v3, v4] → Ch (Fro w0.heap.size) w0 w → Calls Tryd.prog 38 #[.agg #[v0, v1, v2, v3, v4], .int .i64 (lv - 1)] w (FtTo (K ⟨i, h⟩) (lv - 1) w)) :
    Calls Tryd.prog 38 #[.agg #[.int .i64 8, .int .u64 n, .string s, .int .i64 x, .slice A m cap], .int .i64 lv] w (FtTo (.mk 8 n s x m K) lv w) := by
  have ht' := ht
  obtain ⟨_, _, he, _, hwn, hwx, _, hmc, hcm, _⟩ := ht'
  clear he hmc hcm
  have hB := Row.alloc w [.int .i64 8, .int .u64 n, .string s, .int .i64 x, .slice A m cap] 35
  have q0 := hB.cell 0 _ rfl
  have q1 := hB.cell 1 _ rfl
  have q2 := hB.cell 2 _ rfl
  have q3 := hB.cell 3 _ rfl
  have q4 := hB.cell 4 _ rfl
  go_enter Tryd.func38, Tryd.ntmps38
  go_wp2_with fail
  all_goals first | (go_ret; exact ⟨false, rfl, (fun h => by cases h), (Ch.refl No w).alloc _⟩) | skip
  go_loopg [145] m (fun kk s145 wr => ∃ i : Nat, kk + i = m ∧ s145 = .int .i64 i ∧ (∀ j (h : j < m), j < i → FitP (K ⟨j, h⟩) (lv - 1)) ∧ Ch No w wr)
  case atStart => exact ⟨0, by omega, rfl, fun j _ h => by omega, (Ch.refl No w).alloc _⟩
  case round =>
    obtain ⟨i, hki, rfl, hall, hch⟩ := hrel
    by_cases hi : i < m
    · obtain ⟨b1, o1, u0, u1, u2, u3, u4, rfl, htk, a0, a1, a2, a3, a4⟩ := ht.kid (w := wr) (hw.then_no hch) i hi
      have hi' : (i : Int) < m := by omega
      have hi0 : (0 : Int) ≤ i := by omega
      go_wp2_with (first | ((with_reducible refine gate (.store 35 (.tmp 9) _) rfl ?_); refine wp_store rfl rfl 35 _ _ rfl wr.heap.size 0 35 ZL (.agg #[u0, u1, u2, u3, u4]) rfl rfl [u0, u1, u2, u3, u4] rfl size_pk htk.one (Row.alloc wr ZL 35) (by simp) ?_; intro w2 hrow2 hch2; have q0 : w2.cell? ⟨wr.heap.size, 0, none⟩ = some u0 := hrow2.cell 0 _ rfl; have q1 : w2.cell? ⟨wr.heap.size, 1, none⟩ = some u1 := hrow2.cell 1 _ rfl; have q2 : w2.cell? ⟨wr.heap.size, 2, none⟩ = some u2 := hrow2.cell 2 _ rfl; have q3 : w2.cell? ⟨wr.heap.size, 3, none⟩ = some u3 := hrow2.cell 3 _ rfl; have q4 : w2.cell? ⟨wr.heap.size, 4, none⟩ = some u4 := hrow2.cell 4 _ rfl))
      have C2 : Ch No w w2 := (hch.alloc _).freshg hch2 hch.size
      refine (ih i hi u0 u1 u2 u3 u4 w2 htk (hw.then_no C2)).mono ?_
      rintro e w3 ⟨bb, rfl, hfit, hch3⟩
      cases bb
      · go_wp2_with fail
        go_ret
        exact ⟨false, rfl, (fun h => by cases h), C2.no_no hch3⟩
      · go_wp2_with fail
        go_roundg (gk - 1)
        case measure => omega
        case rel =>
          refine ⟨i + 1, by omega, by go_num, fun j h hj => ?_, C2.no_no hch3⟩
          by_cases hji : j < i
          · exact hall j h hji
          · obtain rfl : j = i := by omega
            exact hfit (by trivial)
    · obtain rfl : i = m := by omega
      go_wp2_with fail
      go_ret
      exact ⟨true, rfl, fun _ => ⟨by omega, by omega, by omega, (fun _ _ => by omega), (fun _ _ _ => by first | assumption | (exfalso; omega)), (fun h => by omega), (fun _ => by omega), by omega, by omega, (fun h => by omega), (fun h => by omega), (fun h => by omega), by omega, by omega, fun i => hall i.val i.isLt (by have := i.isLt; omega)⟩, hch⟩
set_option maxRecDepth 100000 in
set_option maxHeartbeats 4000000 in
theorem fit_10 (w0 : World) (n x lv : Int) (s : ByteArray) (m : Nat) (K : Fin m → Pk) (A : Option Addr) (cap : Nat) (w : World) (ht : TrP w0 (.mk 10 n s x m K) [.int .i64 10, .int .u64 n, .string s, .int .i64 x, .slice A m cap]) (hw : Ch (Fro w0.heap.size) w0 w) (hlv : lv ≤ 100)
    (ih : ∀ (i : Nat) (h : i < m) (v0 v1 v2 v3 v4 : Value) (w : World), TrP w0 (K ⟨i, h⟩) [v0, v1, v2, v3, v4] → Ch (Fro w0.heap.size) w0 w → Calls Tryd.prog 38 #[.agg #[v0, v1, v2, v3, v4], .int .i64 (lv - 1)] w (FtTo (K ⟨i, h⟩) (lv - 1) w)) :
    Calls Tryd.prog 38 #[.agg #[.int .i64 10, .int .u64 n, .string s, .int .i64 x, .slice A m cap], .int .i64 lv] w (FtTo (.mk 10 n s x m K) lv w) := by
  have ht' := ht
  obtain ⟨_, _, he, _, hwn, hwx, _, hmc, hcm, _⟩ := ht'
  clear he hmc hcm
  have hB := Row.alloc w [.int .i64 10, .int .u64 n, .string s, .int .i64 x, .slice A m cap] 35
  have q0 := hB.cell 0 _ rfl
  have q1 := hB.cell 1 _ rfl
  have q2 := hB.cell 2 _ rfl
  have q3 := hB.cell 3 _ rfl
  have q4 := hB.cell 4 _ rfl
  go_enter Tryd.func38, Tryd.ntmps38
  go_wp2_with fail
  all_goals first | (go_ret; exact ⟨false, rfl, (fun h => by cases h), (Ch.refl No w).alloc _⟩) | skip
  go_loopg [145] m (fun kk s145 wr => ∃ i : Nat, kk + i = m ∧ s145 = .int .i64 i ∧ (∀ j (h : j < m), j < i → FitP (K ⟨j, h⟩) (lv - 1)) ∧ Ch No w wr)
  case atStart => exact ⟨0, by omega, rfl, fun j _ h => by omega, (Ch.refl No w).alloc _⟩
  case round =>
    obtain ⟨i, hki, rfl, hall, hch⟩ := hrel
    obtain rfl : i = 0 := by omega
    go_wp2_with fail
    go_ret
    exact ⟨true, rfl, fun _ => ⟨by omega, by omega, by omega, (fun _ _ => by omega), (fun _ _ _ => by first | assumption | (exfalso; omega)), (fun h => by omega), (fun _ => by omega), by omega, by omega, (fun h => by omega), (fun h => by omega), (fun h => by omega), by omega, by omega, fun i => hall i.val i.isLt (by have := i.isLt; omega)⟩, hch⟩

end Go.Proofs.YtooifcdkpddlmaaDoor
