/- The walk of the reference's look at what a value bears: what is no number. No condition. -/
import Derived.Test.YtbdgkikipekmlaaDoorValG
namespace Go.Proofs.YtbdgkikipekmlaaDoor
set_option linter.unusedVariables false
set_option linter.unusedSimpArgs false
open Go.RowKit
set_option maxRecDepth 100000 in
set_option maxHeartbeats 2000000 in
theorem cont_0 (w0 : World) (n o : Int) (s : ByteArray) (m d : Nat) (K : Fin m → Va) (D : Fin d → Va) (A B : Option Addr) (cap capB : Nat) (w : World) (ht : VaP w0 (.mk 0 n s m K o d D) [.int .i64 0, .int .u64 n, .string s, .slice A m cap, .int .i64 o, .slice B d capB]) (hw : Ch (Fro w0.heap.size) w0 w) (hmb : m ≤ 9223372036854775807) (hsb : s.size ≤ 9223372036854775807) (hT : Tabs w) (h0 : 0 ≤ n) (h1 : n < 18446744073709551616) :
    Calls Tryd.prog 92 #[.agg #[.int .i64 0, .int .u64 n, .string s, .slice A m cap, .int .i64 o, .slice B d capB]] w (CfTo 0 n s o K w) := by
  have hB := Row.alloc w [.int .i64 0, .int .u64 n, .string s, .slice A m cap, .int .i64 o, .slice B d capB] 25
  have C1 : Ch No w (w.alloc (.cells #[.int .i64 0, .int .u64 n, .string s, .slice A m cap, .int .i64 o, .slice B d capB] 25)) := (Ch.refl No w).alloc _
  have p0 := hB.cell 0 _ rfl
  have p1 := hB.cell 1 _ rfl
  have p2 := hB.cell 2 _ rfl
  have p3 := hB.cell 3 _ rfl
  have p4 := hB.cell 4 _ rfl
  have p5 := hB.cell 5 _ rfl
  have hz : fsz 0 = -1 := by kernel_rfl
  go_enter Tryd.func92, Tryd.ntmps92
  go_wp2_with (first | (go_at_call 102; refine (fixedSize_calls 0 _).mono ?_; rintro e w1 ⟨rfl, hch1⟩; rw [hz]; have C2 := C1.no_no hch1; have q0 := hch1.cell0 p0; have q1 := hch1.cell0 p1; have q2 := hch1.cell0 p2; have q3 := hch1.cell0 p3; have q4 := hch1.cell0 p4; have q5 := hch1.cell0 p5))
  all_goals
    go_ret
    refine ⟨_, rfl, C2, fun hbt => ⟨fun _ => ?_, fun _ => ?_, fun _ => ?_, fun _ => ?_, fun _ => ?_, fun _ => ?_, fun _ => ?_, fun _ => ?_, fun _ => ?_⟩⟩ <;> first | (exfalso; omega) | omega | assumption
set_option maxRecDepth 100000 in
set_option maxHeartbeats 2000000 in
theorem cont_14 (w0 : World) (n o : Int) (s : ByteArray) (m d : Nat) (K : Fin m → Va) (D : Fin d → Va) (A B : Option Addr) (cap capB : Nat) (w : World) (ht : VaP w0 (.mk 14 n s m K o d D) [.int .i64 14, .int .u64 n, .string s, .slice A m cap, .int .i64 o, .slice B d capB]) (hw : Ch (Fro w0.heap.size) w0 w) (hmb : m ≤ 9223372036854775807) (hsb : s.size ≤ 9223372036854775807) (hT : Tabs w) (h0 : 0 ≤ n) (h1 : n < 18446744073709551616) :
    Calls Tryd.prog 92 #[.agg #[.int .i64 14, .int .u64 n, .string s, .slice A m cap, .int .i64 o, .slice B d capB]] w (CfTo 14 n s o K w) := by
  have hB := Row.alloc w [.int .i64 14, .int .u64 n, .string s, .slice A m cap, .int .i64 o, .slice B d capB] 25
  have C1 : Ch No w (w.alloc (.cells #[.int .i64 14, .int .u64 n, .string s, .slice A m cap, .int .i64 o, .slice B d capB] 25)) := (Ch.refl No w).alloc _
  have p0 := hB.cell 0 _ rfl
  have p1 := hB.cell 1 _ rfl
  have p2 := hB.cell 2 _ rfl
  have p3 := hB.cell 3 _ rfl
  have p4 := hB.cell 4 _ rfl
  have p5 := hB.cell 5 _ rfl
  have hz : fsz 14 = 16 := by kernel_rfl
  by_cases hs16 : s.size = 16
  · have x1 : ((s.size : Int) == 16) = true := beq_iff_eq.2 (by omega)
    go_enter Tryd.func92, Tryd.ntmps92
    go_wp2_with (first | (go_at_call 102; refine (fixedSize_calls 14 _).mono ?_; rintro e w1 ⟨rfl, hch1⟩; rw [hz]; have C2 := C1.no_no hch1; have q0 := hch1.cell0 p0; have q1 := hch1.cell0 p1; have q2 := hch1.cell0 p2; have q3 := hch1.cell0 p3; have q4 := hch1.cell0 p4; have q5 := hch1.cell0 p5))
    go_wp2_with fail
    all_goals
      go_ret
      refine ⟨_, rfl, (by repeat (first | exact C2 | apply Ch.drew | apply Ch.drewN)), fun hbt => ⟨fun _ => ?_, fun _ => ?_, fun _ => ?_, fun _ => ?_, fun _ => ?_, fun _ => ?_, fun _ => ?_, fun _ => ?_, fun _ => ?_⟩⟩ <;> first | (exfalso; omega) | omega | assumption
  · have x1 : ((s.size : Int) == 16) = false := beq_eq_false_iff_ne.2 (by omega)
    have x3 : decide ((s.size : Int) = 16) = false := decide_eq_false (by omega)
    go_enter Tryd.func92, Tryd.ntmps92
    go_wp2_with (first | (go_at_call 102; refine (fixedSize_calls 14 _).mono ?_; rintro e w1 ⟨rfl, hch1⟩; rw [hz]; have C2 := C1.no_no hch1; have q0 := hch1.cell0 p0; have q1 := hch1.cell0 p1; have q2 := hch1.cell0 p2; have q3 := hch1.cell0 p3; have q4 := hch1.cell0 p4; have q5 := hch1.cell0 p5))
    go_ret
    exact ⟨false, rfl, C2, fun h => by cases h⟩
set_option maxRecDepth 100000 in
set_option maxHeartbeats 2000000 in
theorem cont_17 (w0 : World) (n o : Int) (s : ByteArray) (m d : Nat) (K : Fin m → Va) (D : Fin d → Va) (A B : Option Addr) (cap capB : Nat) (w : World) (ht : VaP w0 (.mk 17 n s m K o d D) [.int .i64 17, .int .u64 n, .string s, .slice A m cap, .int .i64 o, .slice B d capB]) (hw : Ch (Fro w0.heap.size) w0 w) (hmb : m ≤ 9223372036854775807) (hsb : s.size ≤ 9223372036854775807) (hT : Tabs w) (h0 : 0 ≤ n) (h1 : n < 18446744073709551616) :
    Calls Tryd.prog 92 #[.agg #[.int .i64 17, .int .u64 n, .string s, .slice A m cap, .int .i64 o, .slice B d capB]] w (CfTo 17 n s o K w) := by
  have hB := Row.alloc w [.int .i64 17, .int .u64 n, .string s, .slice A m cap, .int .i64 o, .slice B d capB] 25
  have C1 : Ch No w (w.alloc (.cells #[.int .i64 17, .int .u64 n, .string s, .slice A m cap, .int .i64 o, .slice B d capB] 25)) := (Ch.refl No w).alloc _
  have p0 := hB.cell 0 _ rfl
  have p1 := hB.cell 1 _ rfl
  have p2 := hB.cell 2 _ rfl
  have p3 := hB.cell 3 _ rfl
  have p4 := hB.cell 4 _ rfl
  have p5 := hB.cell 5 _ rfl
  have hz : fsz 17 = 16 := by kernel_rfl
  by_cases hs16 : s.size = 16
  · have x1 : ((s.size : Int) == 16) = true := beq_iff_eq.2 (by omega)
    go_enter Tryd.func92, Tryd.ntmps92
    go_wp2_with (first | (go_at_call 102; refine (fixedSize_calls 17 _).mono ?_; rintro e w1 ⟨rfl, hch1⟩; rw [hz]; have C2 := C1.no_no hch1; have q0 := hch1.cell0 p0; have q1 := hch1.cell0 p1; have q2 := hch1.cell0 p2; have q3 := hch1.cell0 p3; have q4 := hch1.cell0 p4; have q5 := hch1.cell0 p5))
    go_wp2_with fail
    all_goals
      go_ret
      refine ⟨_, rfl, (by repeat (first | exact C2 | apply Ch.drew | apply Ch.drewN)), fun hbt => ⟨fun _ => ?_, fun _ => ?_, fun _ => ?_, fun _ => ?_, fun _ => ?_, fun _ => ?_, fun _ => ?_, fun _ => ?_, fun _ => ?_⟩⟩ <;> first | (exfalso; omega) | omega | assumption
  · have x1 : ((s.size : Int) == 16) = false := beq_eq_false_iff_ne.2 (by omega)
    have x3 : decide ((s.size : Int) = 16) = false := decide_eq_false (by omega)
    go_enter Tryd.func92, Tryd.ntmps92
    go_wp2_with (first | (go_at_call 102; refine (fixedSize_calls 17 _).mono ?_; rintro e w1 ⟨rfl, hch1⟩; rw [hz]; have C2 := C1.no_no hch1; have q0 := hch1.cell0 p0; have q1 := hch1.cell0 p1; have q2 := hch1.cell0 p2; have q3 := hch1.cell0 p3; have q4 := hch1.cell0 p4; have q5 := hch1.cell0 p5))
    go_ret
    exact ⟨false, rfl, C2, fun h => by cases h⟩
set_option maxRecDepth 100000 in
set_option maxHeartbeats 2000000 in
theorem cont_18 (w0 : World) (n o : Int) (s : ByteArray) (m d : Nat) (K : Fin m → Va) (D : Fin d → Va) (A B : Option Addr) (cap capB : Nat) (w : World) (ht : VaP w0 (.mk 18 n s m K o d D) [.int .i64 18, .int .u64 n, .string s, .slice A m cap, .int .i64 o, .slice B d capB]) (hw : Ch (Fro w0.heap.size) w0 w) (hmb : m ≤ 9223372036854775807) (hsb : s.size ≤ 9223372036854775807) (hT : Tabs w) (h0 : 0 ≤ n) (h1 : n < 18446744073709551616) :
    Calls Tryd.prog 92 #[.agg #[.int .i64 18, .int .u64 n, .string s, .slice A m cap, .int .i64 o, .slice B d capB]] w (CfTo 18 n s o K w) := by
  have hB := Row.alloc w [.int .i64 18, .int .u64 n, .string s, .slice A m cap, .int .i64 o, .slice B d capB] 25
  have C1 : Ch No w (w.alloc (.cells #[.int .i64 18, .int .u64 n, .string s, .slice A m cap, .int .i64 o, .slice B d capB] 25)) := (Ch.refl No w).alloc _
  have p0 := hB.cell 0 _ rfl
  have p1 := hB.cell 1 _ rfl
  have p2 := hB.cell 2 _ rfl
  have p3 := hB.cell 3 _ rfl
  have p4 := hB.cell 4 _ rfl
  have p5 := hB.cell 5 _ rfl
  have hz : fsz 18 = -1 := by kernel_rfl
  go_enter Tryd.func92, Tryd.ntmps92
  go_wp2_with (first | (go_at_call 102; refine (fixedSize_calls 18 _).mono ?_; rintro e w1 ⟨rfl, hch1⟩; rw [hz]; have C2 := C1.no_no hch1; have q0 := hch1.cell0 p0; have q1 := hch1.cell0 p1; have q2 := hch1.cell0 p2; have q3 := hch1.cell0 p3; have q4 := hch1.cell0 p4; have q5 := hch1.cell0 p5))
  all_goals
    go_ret
    refine ⟨_, rfl, C2, fun hbt => ⟨fun _ => ?_, fun _ => ?_, fun _ => ?_, fun _ => ?_, fun _ => ?_, fun _ => ?_, fun _ => ?_, fun _ => ?_, fun _ => ?_⟩⟩ <;> first | (exfalso; omega) | omega | assumption
set_option maxRecDepth 100000 in
set_option maxHeartbeats 2000000 in
theorem cont_21 (w0 : World) (n o : Int) (s : ByteArray) (m d : Nat) (K : Fin m → Va) (D : Fin d → Va) (A B : Option Addr) (cap capB : Nat) (w : World) (ht : VaP w0 (.mk 21 n s m K o d D) [.int .i64 21, .int .u64 n, .string s, .slice A m cap, .int .i64 o, .slice B d capB]) (hw : Ch (Fro w0.heap.size) w0 w) (hmb : m ≤ 9223372036854775807) (hsb : s.size ≤ 9223372036854775807) (hT : Tabs w) (h0 : 0 ≤ n) (h1 : n < 18446744073709551616) :
    Calls Tryd.prog 92 #[.agg #[.int .i64 21, .int .u64 n, .string s, .slice A m cap, .int .i64 o, .slice B d capB]] w (CfTo 21 n s o K w) := by
  have hB := Row.alloc w [.int .i64 21, .int .u64 n, .string s, .slice A m cap, .int .i64 o, .slice B d capB] 25
  have C1 : Ch No w (w.alloc (.cells #[.int .i64 21, .int .u64 n, .string s, .slice A m cap, .int .i64 o, .slice B d capB] 25)) := (Ch.refl No w).alloc _
  have p0 := hB.cell 0 _ rfl
  have p1 := hB.cell 1 _ rfl
  have p2 := hB.cell 2 _ rfl
  have p3 := hB.cell 3 _ rfl
  have p4 := hB.cell 4 _ rfl
  have p5 := hB.cell 5 _ rfl
  have hz : fsz 21 = -1 := by kernel_rfl
  go_enter Tryd.func92, Tryd.ntmps92
  go_wp2_with (first | (go_at_call 102; refine (fixedSize_calls 21 _).mono ?_; rintro e w1 ⟨rfl, hch1⟩; rw [hz]; have C2 := C1.no_no hch1; have q0 := hch1.cell0 p0; have q1 := hch1.cell0 p1; have q2 := hch1.cell0 p2; have q3 := hch1.cell0 p3; have q4 := hch1.cell0 p4; have q5 := hch1.cell0 p5))
  all_goals
    go_ret
    refine ⟨_, rfl, C2, fun hbt => ⟨fun _ => ?_, fun _ => ?_, fun _ => ?_, fun _ => ?_, fun _ => ?_, fun _ => ?_, fun _ => ?_, fun _ => ?_, fun _ => ?_⟩⟩ <;> first | (exfalso; omega) | omega | assumption
set_option maxRecDepth 100000 in
set_option maxHeartbeats 2000000 in
theorem cont_22 (w0 : World) (n o : Int) (s : ByteArray) (m d : Nat) (K : Fin m → Va) (D : Fin d → Va) (A B : Option Addr) (cap capB : Nat) (w : World) (ht : VaP w0 (.mk 22 n s m K o d D) [.int .i64 22, .int .u64 n, .string s, .slice A m cap, .int .i64 o, .slice B d capB]) (hw : Ch (Fro w0.heap.size) w0 w) (hmb : m ≤ 9223372036854775807) (hsb : s.size ≤ 9223372036854775807) (hT : Tabs w) (h0 : 0 ≤ n) (h1 : n < 18446744073709551616) :
    Calls Tryd.prog 92 #[.agg #[.int .i64 22, .int .u64 n, .string s, .slice A m cap, .int .i64 o, .slice B d capB]] w (CfTo 22 n s o K w) := by
  have hB := Row.alloc w [.int .i64 22, .int .u64 n, .string s, .slice A m cap, .int .i64 o, .slice B d capB] 25
  have C1 : Ch No w (w.alloc (.cells #[.int .i64 22, .int .u64 n, .string s, .slice A m cap, .int .i64 o, .slice B d capB] 25)) := (Ch.refl No w).alloc _
  have p0 := hB.cell 0 _ rfl
  have p1 := hB.cell 1 _ rfl
  have p2 := hB.cell 2 _ rfl
  have p3 := hB.cell 3 _ rfl
  have p4 := hB.cell 4 _ rfl
  have p5 := hB.cell 5 _ rfl
  have hz : fsz 22 = -1 := by kernel_rfl
  go_enter Tryd.func92, Tryd.ntmps92
  go_wp2_with (first | (go_at_call 102; refine (fixedSize_calls 22 _).mono ?_; rintro e w1 ⟨rfl, hch1⟩; rw [hz]; have C2 := C1.no_no hch1; have q0 := hch1.cell0 p0; have q1 := hch1.cell0 p1; have q2 := hch1.cell0 p2; have q3 := hch1.cell0 p3; have q4 := hch1.cell0 p4; have q5 := hch1.cell0 p5))
  all_goals
    go_ret
    refine ⟨_, rfl, C2, fun hbt => ⟨fun _ => ?_, fun _ => ?_, fun _ => ?_, fun _ => ?_, fun _ => ?_, fun _ => ?_, fun _ => ?_, fun _ => ?_, fun _ => ?_⟩⟩ <;> first | (exfalso; omega) | omega | assumption
set_option maxRecDepth 100000 in
set_option maxHeartbeats 2000000 in
theorem cont_1 (w0 : World) (n o : Int) (s : ByteArray) (m d : Nat) (K : Fin m → Va) (D : Fin d → Va) (A B : Option Addr) (cap capB : Nat) (w : World) (ht : VaP w0 (.mk 1 n s m K o d D) [.int .i64 1, .int .u64 n, .string s, .slice A m cap, .int .i64 o, .slice B d capB]) (hw : Ch (Fro w0.heap.size) w0 w) (hmb : m ≤ 9223372036854775807) (hsb : s.size ≤ 9223372036854775807) (hT : Tabs w) (h0 : 0 ≤ n) (h1 : n < 18446744073709551616) :
    Calls Tryd.prog 92 #[.agg #[.int .i64 1, .int .u64 n, .string s, .slice A m cap, .int .i64 o, .slice B d capB]] w (CfTo 1 n s o K w) := by
  have hB := Row.alloc w [.int .i64 1, .int .u64 n, .string s, .slice A m cap, .int .i64 o, .slice B d capB] 25
  have C1 : Ch No w (w.alloc (.cells #[.int .i64 1, .int .u64 n, .string s, .slice A m cap, .int .i64 o, .slice B d capB] 25)) := (Ch.refl No w).alloc _
  have p0 := hB.cell 0 _ rfl
  have p1 := hB.cell 1 _ rfl
  have p2 := hB.cell 2 _ rfl
  have p3 := hB.cell 3 _ rfl
  have p4 := hB.cell 4 _ rfl
  have p5 := hB.cell 5 _ rfl
  have hz : fsz 1 = -1 := by kernel_rfl
  by_cases hn : n ≤ 1
  · have x1 : decide (n ≤ 1) = true := decide_eq_true hn
    go_enter Tryd.func92, Tryd.ntmps92
    go_wp2_with (first | (go_at_call 102; refine (fixedSize_calls 1 _).mono ?_; rintro e w1 ⟨rfl, hch1⟩; rw [hz]; have C2 := C1.no_no hch1; have q0 := hch1.cell0 p0; have q1 := hch1.cell0 p1; have q2 := hch1.cell0 p2; have q3 := hch1.cell0 p3; have q4 := hch1.cell0 p4; have q5 := hch1.cell0 p5))
    all_goals
      go_ret
      refine ⟨_, rfl, C2, fun hbt => ⟨fun _ => ?_, fun _ => ?_, fun _ => ?_, fun _ => ?_, fun _ => ?_, fun _ => ?_, fun _ => ?_, fun _ => ?_, fun _ => ?_⟩⟩ <;> first | (exfalso; omega) | omega | assumption
  · have x1 : decide (n ≤ 1) = false := decide_eq_false hn
    go_enter Tryd.func92, Tryd.ntmps92
    go_wp2_with (first | (go_at_call 102; refine (fixedSize_calls 1 _).mono ?_; rintro e w1 ⟨rfl, hch1⟩; rw [hz]; have C2 := C1.no_no hch1; have q0 := hch1.cell0 p0; have q1 := hch1.cell0 p1; have q2 := hch1.cell0 p2; have q3 := hch1.cell0 p3; have q4 := hch1.cell0 p4; have q5 := hch1.cell0 p5))
    go_ret
    exact ⟨false, rfl, C2, fun h => by cases h⟩
set_option maxRecDepth 100000 in
set_option maxHeartbeats 2000000 in
theorem cont_19 (w0 : World) (n o : Int) (s : ByteArray) (m d : Nat) (K : Fin m → Va) (D : Fin d → Va) (A B : Option Addr) (cap capB : Nat) (w : World) (ht : VaP w0 (.mk 19 n s m K o d D) [.int .i64 19, .int .u64 n, .string s, .slice A m cap, .int .i64 o, .slice B d capB]) (hw : Ch (Fro w0.heap.size) w0 w) (hmb : m ≤ 9223372036854775807) (hsb : s.size ≤ 9223372036854775807) (hT : Tabs w) (h0 : 0 ≤ n) (h1 : n < 18446744073709551616) :
    Calls Tryd.prog 92 #[.agg #[.int .i64 19, .int .u64 n, .string s, .slice A m cap, .int .i64 o, .slice B d capB]] w (CfTo 19 n s o K w) := by
  have hB := Row.alloc w [.int .i64 19, .int .u64 n, .string s, .slice A m cap, .int .i64 o, .slice B d capB] 25
  have C1 : Ch No w (w.alloc (.cells #[.int .i64 19, .int .u64 n, .string s, .slice A m cap, .int .i64 o, .slice B d capB] 25)) := (Ch.refl No w).alloc _
  have p0 := hB.cell 0 _ rfl
  have p1 := hB.cell 1 _ rfl
  have p2 := hB.cell 2 _ rfl
  have p3 := hB.cell 3 _ rfl
  have p4 := hB.cell 4 _ rfl
  have p5 := hB.cell 5 _ rfl
  have hz : fsz 19 = -1 := by kernel_rfl
  go_enter Tryd.func92, Tryd.ntmps92
  go_wp2_with (first | (go_at_call 102; refine (fixedSize_calls 19 _).mono ?_; rintro e w1 ⟨rfl, hch1⟩; rw [hz]; have C2 := C1.no_no hch1; have q0 := hch1.cell0 p0; have q1 := hch1.cell0 p1; have q2 := hch1.cell0 p2; have q3 := hch1.cell0 p3; have q4 := hch1.cell0 p4; have q5 := hch1.cell0 p5) | (go_at_call 85; refine (valid_calls s _ hsb ((hT.keep0 C2))).mono ?_; rintro e w2 ⟨bb, rfl, hch2⟩))
  all_goals
    go_ret
    refine ⟨_, rfl, (C2.no_no hch2), fun hbt => ⟨fun _ => ?_, fun _ => ?_, fun _ => ?_, fun _ => ?_, fun _ => ?_, fun _ => ?_, fun _ => ?_, fun _ => ?_, fun _ => ?_⟩⟩ <;> first | (exfalso; omega) | omega | assumption
set_option maxRecDepth 100000 in
set_option maxHeartbeats 2000000 in
theorem cont_20 (w0 : World) (n o : Int) (s : ByteArray) (m d : Nat) (K : Fin m → Va) (D : Fin d → Va) (A B : Option Addr) (cap capB : Nat) (w : World) (ht : VaP w0 (.mk 20 n s m K o d D) [.int .i64 20, .int .u64 n, .string s, .slice A m cap, .int .i64 o, .slice B d capB]) (hw : Ch (Fro w0.heap.size) w0 w) (hmb : m ≤ 9223372036854775807) (hsb : s.size ≤ 9223372036854775807) (hT : Tabs w) (h0 : 0 ≤ n) (h1 : n < 18446744073709551616) :
    Calls Tryd.prog 92 #[.agg #[.int .i64 20, .int .u64 n, .string s, .slice A m cap, .int .i64 o, .slice B d capB]] w (CfTo 20 n s o K w) := by
  have hB := Row.alloc w [.int .i64 20, .int .u64 n, .string s, .slice A m cap, .int .i64 o, .slice B d capB] 25
  have C1 : Ch No w (w.alloc (.cells #[.int .i64 20, .int .u64 n, .string s, .slice A m cap, .int .i64 o, .slice B d capB] 25)) := (Ch.refl No w).alloc _
  have p0 := hB.cell 0 _ rfl
  have p1 := hB.cell 1 _ rfl
  have p2 := hB.cell 2 _ rfl
  have p3 := hB.cell 3 _ rfl
  have p4 := hB.cell 4 _ rfl
  have p5 := hB.cell 5 _ rfl
  have hz : fsz 20 = -1 := by kernel_rfl
  go_enter Tryd.func92, Tryd.ntmps92
  go_wp2_with (first | (go_at_call 102; refine (fixedSize_calls 20 _).mono ?_; rintro e w1 ⟨rfl, hch1⟩; rw [hz]; have C2 := C1.no_no hch1; have q0 := hch1.cell0 p0; have q1 := hch1.cell0 p1; have q2 := hch1.cell0 p2; have q3 := hch1.cell0 p3; have q4 := hch1.cell0 p4; have q5 := hch1.cell0 p5) | (go_at_call 103; refine (asciiOnly_calls s _ hsb).mono ?_; rintro e w2 ⟨bb, rfl, hch2⟩))
  all_goals
    go_ret
    refine ⟨_, rfl, (C2.no_no hch2), fun hbt => ⟨fun _ => ?_, fun _ => ?_, fun _ => ?_, fun _ => ?_, fun _ => ?_, fun _ => ?_, fun _ => ?_, fun _ => ?_, fun _ => ?_⟩⟩ <;> first | (exfalso; omega) | omega | assumption
set_option maxRecDepth 100000 in
set_option maxHeartbeats 2000000 in
theorem cont_23 (w0 : World) (n o : Int) (s : ByteArray) (m d : Nat) (K : Fin m → Va) (D : Fin d → Va) (A B : Option Addr) (cap capB : Nat) (w : World) (ht : VaP w0 (.mk 23 n s m K o d D) [.int .i64 23, .int .u64 n, .string s, .slice A m cap, .int .i64 o, .slice B d capB]) (hw : Ch (Fro w0.heap.size) w0 w) (hmb : m ≤ 9223372036854775807) (hsb : s.size ≤ 9223372036854775807) (hT : Tabs w) (h0 : 0 ≤ n) (h1 : n < 18446744073709551616) :
    Calls Tryd.prog 92 #[.agg #[.int .i64 23, .int .u64 n, .string s, .slice A m cap, .int .i64 o, .slice B d capB]] w (CfTo 23 n s o K w) := by
  have hB := Row.alloc w [.int .i64 23, .int .u64 n, .string s, .slice A m cap, .int .i64 o, .slice B d capB] 25
  have C1 : Ch No w (w.alloc (.cells #[.int .i64 23, .int .u64 n, .string s, .slice A m cap, .int .i64 o, .slice B d capB] 25)) := (Ch.refl No w).alloc _
  have p0 := hB.cell 0 _ rfl
  have p1 := hB.cell 1 _ rfl
  have p2 := hB.cell 2 _ rfl
  have p3 := hB.cell 3 _ rfl
  have p4 := hB.cell 4 _ rfl
  have p5 := hB.cell 5 _ rfl
  have hz : fsz 23 = -1 := by kernel_rfl
  go_enter Tryd.func92, Tryd.ntmps92
  go_wp2_with (first | (go_at_call 102; refine (fixedSize_calls 23 _).mono ?_; rintro e w1 ⟨rfl, hch1⟩; rw [hz]; have C2 := C1.no_no hch1; have q0 := hch1.cell0 p0; have q1 := hch1.cell0 p1; have q2 := hch1.cell0 p2; have q3 := hch1.cell0 p3; have q4 := hch1.cell0 p4; have q5 := hch1.cell0 p5) | (go_at_call 104; refine (arrayFits_calls w0 23 n o s m d K D A B cap capB _ ht (hw.then_no C2) hmb).mono ?_; rintro e w2 ⟨bb, rfl, hch2, haf⟩))
  go_ret
  refine ⟨_, rfl, C2.no_no hch2, fun hbt => ⟨fun _ => ?_, fun _ => ?_, fun _ => ?_, fun _ => ?_, fun _ => ?_, fun _ => ?_, fun _ => ?_, fun _ => ?_, fun _ => haf hbt⟩⟩ <;> (exfalso; omega)

end Go.Proofs.YtbdgkikipekmlaaDoor
