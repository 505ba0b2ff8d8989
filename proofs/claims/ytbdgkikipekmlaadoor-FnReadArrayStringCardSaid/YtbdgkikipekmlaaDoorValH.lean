/- The walk of the reference's look at what a value bears: numbers with a sign. No condition. -/
import Derived.Test.YtbdgkikipekmlaaDoorValG
namespace Go.Proofs.YtbdgkikipekmlaaDoor
set_option linter.unusedVariables false
set_option linter.unusedSimpArgs false
open Go.RowKit
set_option maxRecDepth 100000 in
set_option maxHeartbeats 2000000 in
theorem cont_6 (w0 : World) (n o : Int) (s : ByteArray) (m d : Nat) (K : Fin m → Va) (D : Fin d → Va) (A B : Option Addr) (cap capB : Nat) (w : World) (ht : VaP w0 (.mk 6 n s m K o d D) [.int .i64 6, .int .u64 n, .string s, .slice A m cap, .int .i64 o, .slice B d capB]) (hw : Ch (Fro w0.heap.size) w0 w) (hmb : m ≤ 9223372036854775807) (hsb : s.size ≤ 9223372036854775807) (hT : Tabs w) (h0 : 0 ≤ n) (h1 : n < 18446744073709551616) :
    Calls Tryd.prog 92 #[.agg #[.int .i64 6, .int .u64 n, .string s, .slice A m cap, .int .i64 o, .slice B d capB]] w (CfTo 6 n s o K w) := by
  have hB := Row.alloc w [.int .i64 6, .int .u64 n, .string s, .slice A m cap, .int .i64 o, .slice B d capB] 25
  have C1 : Ch No w (w.alloc (.cells #[.int .i64 6, .int .u64 n, .string s, .slice A m cap, .int .i64 o, .slice B d capB] 25)) := (Ch.refl No w).alloc _
  have p0 := hB.cell 0 _ rfl
  have p1 := hB.cell 1 _ rfl
  have p2 := hB.cell 2 _ rfl
  have p3 := hB.cell 3 _ rfl
  have p4 := hB.cell 4 _ rfl
  have p5 := hB.cell 5 _ rfl
  have hz : fsz 6 = 1 := by kernel_rfl
  obtain ⟨y, hy⟩ : ∃ y, IntKind.u64.wrap (n * 72057594037927936) = y := ⟨_, rfl⟩
  obtain ⟨z, hzz⟩ : ∃ z, IntKind.i64.wrap y = z := ⟨_, rfl⟩
  have hyr : 0 ≤ y ∧ y < 18446744073709551616 ∧ y / 72057594037927936 = n % 256 := by rw [← hy]; simp [IntKind.wrap, IntKind.bits, IntKind.signed]; omega
  obtain ⟨hy0, hy1, hy2⟩ := hyr
  have hzr : -9223372036854775808 ≤ z ∧ z < 9223372036854775808 ∧ (z = y ∨ z = y - 18446744073709551616) := by rw [← hzz]; simp [IntKind.wrap, IntKind.bits, IntKind.signed]; omega
  obtain ⟨hz0, hz1, hz2⟩ := hzr
  obtain ⟨q, hq⟩ : ∃ q, z / 72057594037927936 = q := ⟨_, rfl⟩
  obtain ⟨r, hr⟩ : ∃ r, IntKind.u64.wrap q = r := ⟨_, rfl⟩
  have hqr : -128 ≤ q ∧ q < 128 := by omega
  obtain ⟨hq0, hq1⟩ := hqr
  have hrr : 0 ≤ r ∧ r < 18446744073709551616 ∧ (r = q ∨ r = q + 18446744073709551616) := by rw [← hr]; simp [IntKind.wrap, IntKind.bits, IntKind.signed]; omega
  obtain ⟨hr0, hr1, hr2⟩ := hrr
  by_cases hn : sgn 128 n
  · have hb : (r != n) = false := by unfold sgn at hn; simp; omega
    clear hz2 hr2 hy2
    go_enter Tryd.func92, Tryd.ntmps92
    go_wp2_with (first | (go_at_call 102; refine (fixedSize_calls 6 _).mono ?_; rintro e w1 ⟨rfl, hch1⟩; rw [hz]; have C2 := C1.no_no hch1; have q0 := hch1.cell0 p0; have q1 := hch1.cell0 p1; have q2 := hch1.cell0 p2; have q3 := hch1.cell0 p3; have q4 := hch1.cell0 p4; have q5 := hch1.cell0 p5))
    go_quiet (fail)
    go_wp2_with fail
    all_goals
      go_ret
      refine ⟨_, rfl, (by repeat (first | exact C2 | apply Ch.drew | apply Ch.drewN)), fun hbt => ⟨fun _ => ?_, fun _ => ?_, fun _ => ?_, fun _ => ?_, fun _ => ?_, fun _ => ?_, fun _ => ?_, fun _ => ?_, fun _ => ?_⟩⟩ <;> first | (exfalso; omega) | omega | assumption
  · have hb : (r != n) = true := by unfold sgn at hn; simp; omega
    clear hz2 hr2 hy2
    go_enter Tryd.func92, Tryd.ntmps92
    go_wp2_with (first | (go_at_call 102; refine (fixedSize_calls 6 _).mono ?_; rintro e w1 ⟨rfl, hch1⟩; rw [hz]; have C2 := C1.no_no hch1; have q0 := hch1.cell0 p0; have q1 := hch1.cell0 p1; have q2 := hch1.cell0 p2; have q3 := hch1.cell0 p3; have q4 := hch1.cell0 p4; have q5 := hch1.cell0 p5))
    go_quiet (fail)
    go_wp2_with fail
    go_ret
    exact ⟨false, rfl, (by repeat (first | exact C2 | apply Ch.drew | apply Ch.drewN)), fun h => by cases h⟩
set_option maxRecDepth 100000 in
set_option maxHeartbeats 2000000 in
theorem cont_7 (w0 : World) (n o : Int) (s : ByteArray) (m d : Nat) (K : Fin m → Va) (D : Fin d → Va) (A B : Option Addr) (cap capB : Nat) (w : World) (ht : VaP w0 (.mk 7 n s m K o d D) [.int .i64 7, .int .u64 n, .string s, .slice A m cap, .int .i64 o, .slice B d capB]) (hw : Ch (Fro w0.heap.size) w0 w) (hmb : m ≤ 9223372036854775807) (hsb : s.size ≤ 9223372036854775807) (hT : Tabs w) (h0 : 0 ≤ n) (h1 : n < 18446744073709551616) :
    Calls Tryd.prog 92 #[.agg #[.int .i64 7, .int .u64 n, .string s, .slice A m cap, .int .i64 o, .slice B d capB]] w (CfTo 7 n s o K w) := by
  have hB := Row.alloc w [.int .i64 7, .int .u64 n, .string s, .slice A m cap, .int .i64 o, .slice B d capB] 25
  have C1 : Ch No w (w.alloc (.cells #[.int .i64 7, .int .u64 n, .string s, .slice A m cap, .int .i64 o, .slice B d capB] 25)) := (Ch.refl No w).alloc _
  have p0 := hB.cell 0 _ rfl
  have p1 := hB.cell 1 _ rfl
  have p2 := hB.cell 2 _ rfl
  have p3 := hB.cell 3 _ rfl
  have p4 := hB.cell 4 _ rfl
  have p5 := hB.cell 5 _ rfl
  have hz : fsz 7 = 2 := by kernel_rfl
  obtain ⟨y, hy⟩ : ∃ y, IntKind.u64.wrap (n * 281474976710656) = y := ⟨_, rfl⟩
  obtain ⟨z, hzz⟩ : ∃ z, IntKind.i64.wrap y = z := ⟨_, rfl⟩
  have hyr : 0 ≤ y ∧ y < 18446744073709551616 ∧ y / 281474976710656 = n % 65536 := by rw [← hy]; simp [IntKind.wrap, IntKind.bits, IntKind.signed]; omega
  obtain ⟨hy0, hy1, hy2⟩ := hyr
  have hzr : -9223372036854775808 ≤ z ∧ z < 9223372036854775808 ∧ (z = y ∨ z = y - 18446744073709551616) := by rw [← hzz]; simp [IntKind.wrap, IntKind.bits, IntKind.signed]; omega
  obtain ⟨hz0, hz1, hz2⟩ := hzr
  obtain ⟨q, hq⟩ : ∃ q, z / 281474976710656 = q := ⟨_, rfl⟩
  obtain ⟨r, hr⟩ : ∃ r, IntKind.u64.wrap q = r := ⟨_, rfl⟩
  have hqr : -32768 ≤ q ∧ q < 32768 := by omega
  obtain ⟨hq0, hq1⟩ := hqr
  have hrr : 0 ≤ r ∧ r < 18446744073709551616 ∧ (r = q ∨ r = q + 18446744073709551616) := by rw [← hr]; simp [IntKind.wrap, IntKind.bits, IntKind.signed]; omega
  obtain ⟨hr0, hr1, hr2⟩ := hrr
  by_cases hn : sgn 32768 n
  · have hb : (r != n) = false := by unfold sgn at hn; simp; omega
    clear hz2 hr2 hy2
    go_enter Tryd.func92, Tryd.ntmps92
    go_wp2_with (first | (go_at_call 102; refine (fixedSize_calls 7 _).mono ?_; rintro e w1 ⟨rfl, hch1⟩; rw [hz]; have C2 := C1.no_no hch1; have q0 := hch1.cell0 p0; have q1 := hch1.cell0 p1; have q2 := hch1.cell0 p2; have q3 := hch1.cell0 p3; have q4 := hch1.cell0 p4; have q5 := hch1.cell0 p5))
    go_quiet (fail)
    go_wp2_with fail
    all_goals
      go_ret
      refine ⟨_, rfl, (by repeat (first | exact C2 | apply Ch.drew | apply Ch.drewN)), fun hbt => ⟨fun _ => ?_, fun _ => ?_, fun _ => ?_, fun _ => ?_, fun _ => ?_, fun _ => ?_, fun _ => ?_, fun _ => ?_, fun _ => ?_⟩⟩ <;> first | (exfalso; omega) | omega | assumption
  · have hb : (r != n) = true := by unfold sgn at hn; simp; omega
    clear hz2 hr2 hy2
    go_enter Tryd.func92, Tryd.ntmps92
    go_wp2_with (first | (go_at_call 102; refine (fixedSize_calls 7 _).mono ?_; rintro e w1 ⟨rfl, hch1⟩; rw [hz]; have C2 := C1.no_no hch1; have q0 := hch1.cell0 p0; have q1 := hch1.cell0 p1; have q2 := hch1.cell0 p2; have q3 := hch1.cell0 p3; have q4 := hch1.cell0 p4; have q5 := hch1.cell0 p5))
    go_quiet (fail)
    go_wp2_with fail
    go_ret
    exact ⟨false, rfl, (by repeat (first | exact C2 | apply Ch.drew | apply Ch.drewN)), fun h => by cases h⟩
set_option maxRecDepth 100000 in
set_option maxHeartbeats 2000000 in
theorem cont_8 (w0 : World) (n o : Int) (s : ByteArray) (m d : Nat) (K : Fin m → Va) (D : Fin d → Va) (A B : Option Addr) (cap capB : Nat) (w : World) (ht : VaP w0 (.mk 8 n s m K o d D) [.int .i64 8, .int .u64 n, .string s, .slice A m cap, .int .i64 o, .slice B d capB]) (hw : Ch (Fro w0.heap.size) w0 w) (hmb : m ≤ 9223372036854775807) (hsb : s.size ≤ 9223372036854775807) (hT : Tabs w) (h0 : 0 ≤ n) (h1 : n < 18446744073709551616) :
    Calls Tryd.prog 92 #[.agg #[.int .i64 8, .int .u64 n, .string s, .slice A m cap, .int .i64 o, .slice B d capB]] w (CfTo 8 n s o K w) := by
  have hB := Row.alloc w [.int .i64 8, .int .u64 n, .string s, .slice A m cap, .int .i64 o, .slice B d capB] 25
  have C1 : Ch No w (w.alloc (.cells #[.int .i64 8, .int .u64 n, .string s, .slice A m cap, .int .i64 o, .slice B d capB] 25)) := (Ch.refl No w).alloc _
  have p0 := hB.cell 0 _ rfl
  have p1 := hB.cell 1 _ rfl
  have p2 := hB.cell 2 _ rfl
  have p3 := hB.cell 3 _ rfl
  have p4 := hB.cell 4 _ rfl
  have p5 := hB.cell 5 _ rfl
  have hz : fsz 8 = 4 := by kernel_rfl
  obtain ⟨y, hy⟩ : ∃ y, IntKind.u64.wrap (n * 4294967296) = y := ⟨_, rfl⟩
  obtain ⟨z, hzz⟩ : ∃ z, IntKind.i64.wrap y = z := ⟨_, rfl⟩
  have hyr : 0 ≤ y ∧ y < 18446744073709551616 ∧ y / 4294967296 = n % 4294967296 := by rw [← hy]; simp [IntKind.wrap, IntKind.bits, IntKind.signed]; omega
  obtain ⟨hy0, hy1, hy2⟩ := hyr
  have hzr : -9223372036854775808 ≤ z ∧ z < 9223372036854775808 ∧ (z = y ∨ z = y - 18446744073709551616) := by rw [← hzz]; simp [IntKind.wrap, IntKind.bits, IntKind.signed]; omega
  obtain ⟨hz0, hz1, hz2⟩ := hzr
  obtain ⟨q, hq⟩ : ∃ q, z / 4294967296 = q := ⟨_, rfl⟩
  obtain ⟨r, hr⟩ : ∃ r, IntKind.u64.wrap q = r := ⟨_, rfl⟩
  have hqr : -2147483648 ≤ q ∧ q < 2147483648 := by omega
  obtain ⟨hq0, hq1⟩ := hqr
  have hrr : 0 ≤ r ∧ r < 18446744073709551616 ∧ (r = q ∨ r = q + 18446744073709551616) := by rw [← hr]; simp [IntKind.wrap, IntKind.bits, IntKind.signed]; omega
  obtain ⟨hr0, hr1, hr2⟩ := hrr
  by_cases hn : sgn 2147483648 n
  · have hb : (r != n) = false := by unfold sgn at hn; simp; omega
    clear hz2 hr2 hy2
    go_enter Tryd.func92, Tryd.ntmps92
    go_wp2_with (first | (go_at_call 102; refine (fixedSize_calls 8 _).mono ?_; rintro e w1 ⟨rfl, hch1⟩; rw [hz]; have C2 := C1.no_no hch1; have q0 := hch1.cell0 p0; have q1 := hch1.cell0 p1; have q2 := hch1.cell0 p2; have q3 := hch1.cell0 p3; have q4 := hch1.cell0 p4; have q5 := hch1.cell0 p5))
    go_quiet (fail)
    go_wp2_with fail
    all_goals
      go_ret
      refine ⟨_, rfl, (by repeat (first | exact C2 | apply Ch.drew | apply Ch.drewN)), fun hbt => ⟨fun _ => ?_, fun _ => ?_, fun _ => ?_, fun _ => ?_, fun _ => ?_, fun _ => ?_, fun _ => ?_, fun _ => ?_, fun _ => ?_⟩⟩ <;> first | (exfalso; omega) | omega | assumption
  · have hb : (r != n) = true := by unfold sgn at hn; simp; omega
    clear hz2 hr2 hy2
    go_enter Tryd.func92, Tryd.ntmps92
    go_wp2_with (first | (go_at_call 102; refine (fixedSize_calls 8 _).mono ?_; rintro e w1 ⟨rfl, hch1⟩; rw [hz]; have C2 := C1.no_no hch1; have q0 := hch1.cell0 p0; have q1 := hch1.cell0 p1; have q2 := hch1.cell0 p2; have q3 := hch1.cell0 p3; have q4 := hch1.cell0 p4; have q5 := hch1.cell0 p5))
    go_quiet (fail)
    go_wp2_with fail
    go_ret
    exact ⟨false, rfl, (by repeat (first | exact C2 | apply Ch.drew | apply Ch.drewN)), fun h => by cases h⟩
set_option maxRecDepth 100000 in
set_option maxHeartbeats 2000000 in
theorem cont_9 (w0 : World) (n o : Int) (s : ByteArray) (m d : Nat) (K : Fin m → Va) (D : Fin d → Va) (A B : Option Addr) (cap capB : Nat) (w : World) (ht : VaP w0 (.mk 9 n s m K o d D) [.int .i64 9, .int .u64 n, .string s, .slice A m cap, .int .i64 o, .slice B d capB]) (hw : Ch (Fro w0.heap.size) w0 w) (hmb : m ≤ 9223372036854775807) (hsb : s.size ≤ 9223372036854775807) (hT : Tabs w) (h0 : 0 ≤ n) (h1 : n < 18446744073709551616) :
    Calls Tryd.prog 92 #[.agg #[.int .i64 9, .int .u64 n, .string s, .slice A m cap, .int .i64 o, .slice B d capB]] w (CfTo 9 n s o K w) := by
  have hB := Row.alloc w [.int .i64 9, .int .u64 n, .string s, .slice A m cap, .int .i64 o, .slice B d capB] 25
  have C1 : Ch No w (w.alloc (.cells #[.int .i64 9, .int .u64 n, .string s, .slice A m cap, .int .i64 o, .slice B d capB] 25)) := (Ch.refl No w).alloc _
  have p0 := hB.cell 0 _ rfl
  have p1 := hB.cell 1 _ rfl
  have p2 := hB.cell 2 _ rfl
  have p3 := hB.cell 3 _ rfl
  have p4 := hB.cell 4 _ rfl
  have p5 := hB.cell 5 _ rfl
  have hz : fsz 9 = 8 := by kernel_rfl
  have hwn : IntKind.u64.wrap n = n := by simp [IntKind.wrap, IntKind.bits, IntKind.signed]; omega
  obtain ⟨z, hzz⟩ : ∃ z, IntKind.i64.wrap n = z := ⟨_, rfl⟩
  have hwz : IntKind.u64.wrap z = n := by rw [← hzz]; simp [IntKind.wrap, IntKind.bits, IntKind.signed]; omega
  have hzr : -9223372036854775808 ≤ z ∧ z < 9223372036854775808 := by rw [← hzz]; simp [IntKind.wrap, IntKind.bits, IntKind.signed]; omega
  obtain ⟨hz0, hz1⟩ := hzr
  go_enter Tryd.func92, Tryd.ntmps92
  go_wp2_with (first | (go_at_call 102; refine (fixedSize_calls 9 _).mono ?_; rintro e w1 ⟨rfl, hch1⟩; rw [hz]; have C2 := C1.no_no hch1; have q0 := hch1.cell0 p0; have q1 := hch1.cell0 p1; have q2 := hch1.cell0 p2; have q3 := hch1.cell0 p3; have q4 := hch1.cell0 p4; have q5 := hch1.cell0 p5))
  go_quiet (fail)
  go_wp2_with fail
  all_goals
    go_ret
    refine ⟨_, rfl, (by repeat (first | exact C2 | apply Ch.drew | apply Ch.drewN)), fun hbt => ⟨fun _ => ?_, fun _ => ?_, fun _ => ?_, fun _ => ?_, fun _ => ?_, fun _ => ?_, fun _ => ?_, fun _ => ?_, fun _ => ?_⟩⟩ <;> first | (exfalso; omega) | omega | assumption

end Go.Proofs.YtbdgkikipekmlaaDoor
