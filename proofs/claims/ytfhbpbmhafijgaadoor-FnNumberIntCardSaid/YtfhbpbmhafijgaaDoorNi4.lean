/- The walks of NumberInt. No condition. -/
import Derived.Test.YtfhbpbmhafijgaaDoorNi3
namespace Go.Proofs.YtfhbpbmhafijgaaDoor
set_option linter.unusedVariables false
set_option linter.unusedSimpArgs false
open Go.RowKit

theorem size_ty : (Tryd.prog.info? 44).map (·.size) = some 1 := by kernel_rfl
theorem size_u64 : (Tryd.prog.info? 22).map (·.size) = some 1 := by kernel_rfl
def AsTo (p : Nat) (b ty : Int) (w : World) (e : Ending) (w' : World) : Prop := e = .returned (.tuple #[]) ∧ Row w' p 46 [.int .u64 b, .int .u8 ty] ∧ Ch (fun k => k = p) w w'
set_option maxHeartbeats 1000000 in
theorem asInt0 (p : Nat)  (u0 u1 : Value) (w : World) (hR : Row w p 46 [u0, u1])  :
    Calls Tryd.prog 12 #[.pointer (some ⟨p, 0, none⟩), .int .i64 0] w (AsTo p (0) 0 w) := by
  go_enter Tryd.func12, Tryd.ntmps12
  go_wp2_with (first | go_quiet (fail) | ((with_reducible refine gate (.store 44 _ _) rfl ?_); refine wp_store rfl rfl 44 _ _ rfl p 1 46 [u0, u1] (.int .u8 0) rfl rfl [.int .u8 0] rfl size_ty (by simp [Value.oneCell']) hR (by simp) ?_; intro w1 hr1 hc1) | ((with_reducible refine gate (.store 22 _ _) rfl ?_); refine wp_store rfl rfl 22 _ _ rfl p 0 46 [u0, .int .u8 0] (.int .u64 (0)) rfl rfl [.int .u64 (0)] rfl size_u64 (by simp [Value.oneCell']) hr1 (by simp) ?_; intro w2 hr2 hc2))
  first | go_end0 | refine bodyPost_ret (results_none rfl _ _ _) rfl ?_
  exact ⟨rfl, hr2, hc1.trans hc2 (fun _ h => h) (fun _ h => .inl h)⟩
set_option maxHeartbeats 1000000 in
theorem asInt1 (p : Nat) (x z : Int) (u0 u1 : Value) (w : World) (hR : Row w p 46 [u0, u1]) (hx : x ≠ 0) (hz : IntKind.u64.wrap x = z) :
    Calls Tryd.prog 12 #[.pointer (some ⟨p, 0, none⟩), .int .i64 x] w (AsTo p (z) 8 w) := by
  have hq : (x == 0) = false := beq_eq_false_iff_ne.2 hx
  go_enter Tryd.func12, Tryd.ntmps12
  go_wp2_with (first | go_quiet (fail) | ((with_reducible refine gate (.store 44 _ _) rfl ?_); refine wp_store rfl rfl 44 _ _ rfl p 1 46 [u0, u1] (.int .u8 8) rfl rfl [.int .u8 8] rfl size_ty (by simp [Value.oneCell']) hR (by simp) ?_; intro w1 hr1 hc1) | ((with_reducible refine gate (.store 22 _ _) rfl ?_); refine wp_store rfl rfl 22 _ _ rfl p 0 46 [u0, .int .u8 8] (.int .u64 (z)) rfl rfl [.int .u64 (z)] rfl size_u64 (by simp [Value.oneCell']) hr1 (by simp) ?_; intro w2 hr2 hc2))
  first | go_end0 | refine bodyPost_ret (results_none rfl _ _ _) rfl ?_
  exact ⟨rfl, hr2, hc1.trans hc2 (fun _ h => h) (fun _ h => .inl h)⟩
set_option maxHeartbeats 1000000 in
theorem asUint (p : Nat) (z : Int) (u0 u1 : Value) (w : World) (hR : Row w p 46 [u0, u1])  :
    Calls Tryd.prog 13 #[.pointer (some ⟨p, 0, none⟩), .int .u64 z] w (AsTo p (z) 9 w) := by
  go_enter Tryd.func13, Tryd.ntmps13
  go_wp2_with (first | go_quiet (fail) | ((with_reducible refine gate (.store 44 _ _) rfl ?_); refine wp_store rfl rfl 44 _ _ rfl p 1 46 [u0, u1] (.int .u8 9) rfl rfl [.int .u8 9] rfl size_ty (by simp [Value.oneCell']) hR (by simp) ?_; intro w1 hr1 hc1) | ((with_reducible refine gate (.store 22 _ _) rfl ?_); refine wp_store rfl rfl 22 _ _ rfl p 0 46 [u0, .int .u8 9] (.int .u64 (z)) rfl rfl [.int .u64 (z)] rfl size_u64 (by simp [Value.oneCell']) hr1 (by simp) ?_; intro w2 hr2 hc2))
  first | go_end0 | refine bodyPost_ret (results_none rfl _ _ _) rfl ?_
  exact ⟨rfl, hr2, hc1.trans hc2 (fun _ h => h) (fun _ h => .inl h)⟩
set_option maxHeartbeats 1000000 in
theorem asF64 (p : Nat) (b : Nat) (u0 u1 : Value) (w : World) (hR : Row w p 46 [u0, u1])  :
    Calls Tryd.prog 15 #[.pointer (some ⟨p, 0, none⟩), .float .f64 b] w (AsTo p ((b : Int)) 5 w) := by
  have hfb := float64bits_run b
  go_enter Tryd.func15, Tryd.ntmps15
  go_wp2_with (first | go_quiet (fail) | ((with_reducible refine gate (.store 44 _ _) rfl ?_); refine wp_store rfl rfl 44 _ _ rfl p 1 46 [u0, u1] (.int .u8 5) rfl rfl [.int .u8 5] rfl size_ty (by simp [Value.oneCell']) hR (by simp) ?_; intro w1 hr1 hc1) | ((with_reducible refine gate (.store 22 _ _) rfl ?_); refine wp_store rfl rfl 22 _ _ rfl p 0 46 [u0, .int .u8 5] (.int .u64 ((b : Int))) rfl rfl [.int .u64 ((b : Int))] rfl size_u64 (by simp [Value.oneCell']) hr1 (by simp) ?_; intro w2 hr2 hc2))
  first | go_end0 | refine bodyPost_ret (results_none rfl _ _ _) rfl ?_
  exact ⟨rfl, hr2, hc1.trans hc2 (fun _ h => h) (fun _ h => .inl h)⟩
set_option maxHeartbeats 1000000 in
theorem asF32 (p : Nat) (b : Nat) (u0 u1 : Value) (w : World) (hR : Row w p 46 [u0, u1]) (hb : (b : Int) < 4294967296) :
    Calls Tryd.prog 14 #[.pointer (some ⟨p, 0, none⟩), .float .f32 b] w (AsTo p ((b : Int)) 6 w) := by
  have hfb := float32bits_run b
  have hb0 : 0 ≤ (b : Int) := by omega
  go_enter Tryd.func14, Tryd.ntmps14
  go_wp2_with (first | go_quiet (fail) | ((with_reducible refine gate (.store 44 _ _) rfl ?_); refine wp_store rfl rfl 44 _ _ rfl p 1 46 [u0, u1] (.int .u8 6) rfl rfl [.int .u8 6] rfl size_ty (by simp [Value.oneCell']) hR (by simp) ?_; intro w1 hr1 hc1) | ((with_reducible refine gate (.store 22 _ _) rfl ?_); refine wp_store rfl rfl 22 _ _ rfl p 0 46 [u0, .int .u8 6] (.int .u64 ((b : Int))) rfl rfl [.int .u64 ((b : Int))] rfl size_u64 (by simp [Value.oneCell']) hr1 (by simp) ?_; intro w2 hr2 hc2))
  first | go_end0 | refine bodyPost_ret (results_none rfl _ _ _) rfl ?_
  exact ⟨rfl, hr2, hc1.trans hc2 (fun _ h => h) (fun _ h => .inl h)⟩

end Go.Proofs.YtfhbpbmhafijgaaDoor
