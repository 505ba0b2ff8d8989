/- The walk of the reference's look at what a value bears: numbers without a sign. No condition. -/
import Derived.Test.YtbdgkikipekmlaaDoorVac
import Derived.Test.YtbdgkikipekmlaaDoorVab
import Derived.Test.YtbdgkikipekmlaaDoorLaid
import Derived.BigQuiet
namespace Go.Proofs.YtbdgkikipekmlaaDoor
set_option linter.unusedVariables false
set_option linter.unusedSimpArgs false
open Go.RowKit
def sgn (h n : Int) : Prop := n < h ∨ 18446744073709551616 - h ≤ n
/-- What a value bears is right. -/
def ContF (k n : Int) (s : ByteArray) (o : Int) {m : Nat} (K : Fin m → Va) : Prop :=
  (k = 1 → n ≤ 1) ∧ (k = 2 → n < 256) ∧ (k = 3 → n < 65536) ∧ (k = 4 ∨ k = 10 ∨ k = 12 ∨ k = 15 → n < 4294967296) ∧ (k = 6 → sgn 128 n) ∧ (k = 7 → sgn 32768 n) ∧ (k = 8 → sgn 2147483648 n) ∧ (k = 14 ∨ k = 17 → s.size = 16) ∧ (k = 23 → ArrF o K)
def CfTo (k n : Int) (s : ByteArray) (o : Int) {m : Nat} (K : Fin m → Va) (w : World) (e : Ending) (w' : World) : Prop := ∃ b : Bool, e = .returned (.bool b) ∧ Ch No w w' ∧ (b = true → ContF k n s o K)
set_option maxRecDepth 100000 in
set_option maxHeartbeats 2000000 in
theorem cont_2 (w0 : World) (n o : Int) (s : ByteArray) (m d : Nat) (K : Fin m → Va) (D : Fin d → Va) (A B : Option Addr) (cap capB : Nat) (w : World) (ht : VaP w0 (.mk 2 n s m K o d D) [.int .i64 2, .int .u64 n, .string s, .slice A m cap, .int .i64 o, .slice B d capB]) (hw : Ch (Fro w0.heap.size) w0 w) (hmb : m ≤ 9223372036854775807) (hsb : s.size ≤ 9223372036854775807) (hT : Tabs w) (h0 : 0 ≤ n) (h1 : n < 18446744073709551616) :
    Calls Tryd.prog 92 #[.agg #[.int .i64 2, .int .u64 n, .string s, .slice A m cap, .int .i64 o, .slice B d capB]] w (CfTo 2 n s o K w) := by
  have hB := Row.alloc w [.int .i64 2, .int .u64 n, .string s, .slice A m cap, .int .i64 o, .slice B d capB] 25
  have C1 : Ch No w (w.alloc (.cells #[.int .i64 2, .int .u64 n, .string s, .slice A m cap, .int .i64 o, .slice B d capB] 25)) := (Ch.refl No w).alloc _
  have p0 := hB.cell 0 _ rfl
  have p1 := hB.cell 1 _ rfl
  have p2 := hB.cell 2 _ rfl
  have p3 := hB.cell 3 _ rfl
  have p4 := hB.cell 4 _ rfl
  have p5 := hB.cell 5 _ rfl
  have hz : fsz 2 = 1 := by kernel_rfl
  obtain ⟨y, hy⟩ : ∃ y, IntKind.u64.wrap (n * 72057594037927936) = y := ⟨_, rfl⟩
  have hyr : 0 ≤ y ∧ y < 18446744073709551616 ∧ y / 72057594037927936 = n % 256 := by rw [← hy]; simp [IntKind.wrap, IntKind.bits, IntKind.signed]; omega
  obtain ⟨hy0, hy1, hy2⟩ := hyr
  by_cases hn : n < 256
  · have hb : (n % 256 != n) = false := by simp; omega
    go_enter Tryd.func92, Tryd.ntmps92
    go_wp2_with (first | (go_at_call 102; refine (fixedSize_calls 2 _).mono ?_; rintro e w1 ⟨rfl, hch1⟩; rw [hz]; have C2 := C1.no_no hch1; have q0 := hch1.cell0 p0; have q1 := hch1.cell0 p1; have q2 := hch1.cell0 p2; have q3 := hch1.cell0 p3; have q4 := hch1.cell0 p4; have q5 := hch1.cell0 p5))
    go_quiet (fail)
    go_wp2_with fail
    all_goals
      go_ret
      refine ⟨_, rfl, (by repeat (first | exact C2 | apply Ch.drew | apply Ch.drewN)), fun hbt => ⟨fun _ => ?_, fun _ => ?_, fun _ => ?_, fun _ => ?_, fun _ => ?_, fun _ => ?_, fun _ => ?_, fun _ => ?_, fun _ => ?_⟩⟩ <;> first | (exfalso; omega) | omega | assumption
  · have hb : (n % 256 != n) = true := by simp; omega
    go_enter Tryd.func92, Tryd.ntmps92
    go_wp2_with (first | (go_at_call 102; refine (fixedSize_calls 2 _).mono ?_; rintro e w1 ⟨rfl, hch1⟩; rw [hz]; have C2 := C1.no_no hch1; have q0 := hch1.cell0 p0; have q1 := hch1.cell0 p1; have q2 := hch1.cell0 p2; have q3 := hch1.cell0 p3; have q4 := hch1.cell0 p4; have q5 := hch1.cell0 p5))
    go_quiet (fail)
    go_wp2_with fail
    go_ret
    exact ⟨false, rfl, (by repeat (first | exact C2 | apply Ch.drew | apply Ch.drewN)), fun h => by cases h⟩
set_option maxRecDepth 100000 in
set_option maxHeartbeats 2000000 in
theorem cont_3 (w0 : World) (n o : Int) (s : ByteArray) (m d : Nat) (K : Fin m → Va) (D : Fin d → Va) (A B : Option Addr) (cap capB : Nat) (w : World) (ht : VaP w0 (.mk 3 n s m K o d D) [.int .i64 3, .int .u64 n, .string s, .slice A m cap, .int .i64 o, .slice B d capB]) (hw : Ch (Fro w0.heap.size) w0 w) (hmb : m ≤ 9223372036854775807) (hsb : s.size ≤ 9223372036854775807) (hT : Tabs w) (h0 : 0 ≤ n) (h1 : n < 18446744073709551616) :
    Calls Tryd.prog 92 #[.agg #[.int .i64 3, .int .u64 n, .string s, .slice A m cap, .int .i64 o, .slice B d capB]] w (CfTo 3 n s o K w) := by
  have hB := Row.alloc w [.int .i64 3, .int .u64 n, .string s, .slice A m cap, .int .i64 o, .slice B d capB] 25
  have C1 : Ch No w (w.alloc (.cells #[.int .i64 3, .int .u64 n, .string s, .slice A m cap, .int .i64 o, .slice B d capB] 25)) := (Ch.refl No w).alloc _
  have p0 := hB.cell 0 _ rfl
  have p1 := hB.cell 1 _ rfl
  have p2 := hB.cell 2 _ rfl
  have p3 := hB.cell 3 _ rfl
  have p4 := hB.cell 4 _ rfl
  have p5 := hB.cell 5 _ rfl
  have hz : fsz 3 = 2 := by kernel_rfl
  obtain ⟨y, hy⟩ : ∃ y, IntKind.u64.wrap (n * 281474976710656) = y := ⟨_, rfl⟩
  have hyr : 0 ≤ y ∧ y < 18446744073709551616 ∧ y / 281474976710656 = n % 65536 := by rw [← hy]; simp [IntKind.wrap, IntKind.bits, IntKind.signed]; omega
  obtain ⟨hy0, hy1, hy2⟩ := hyr
  by_cases hn : n < 65536
  · have hb : (n % 65536 != n) = false := by simp; omega
    go_enter Tryd.func92, Tryd.ntmps92
    go_wp2_with (first | (go_at_call 102; refine (fixedSize_calls 3 _).mono ?_; rintro e w1 ⟨rfl, hch1⟩; rw [hz]; have C2 := C1.no_no hch1; have q0 := hch1.cell0 p0; have q1 := hch1.cell0 p1; have q2 := hch1.cell0 p2; have q3 := hch1.cell0 p3; have q4 := hch1.cell0 p4; have q5 := hch1.cell0 p5))
    go_quiet (fail)
    go_wp2_with fail
    all_goals
      go_ret
      refine ⟨_, rfl, (by repeat (first | exact C2 | apply Ch.drew | apply Ch.drewN)), fun hbt => ⟨fun _ => ?_, fun _ => ?_, fun _ => ?_, fun _ => ?_, fun _ => ?_, fun _ => ?_, fun _ => ?_, fun _ => ?_, fun _ => ?_⟩⟩ <;> first | (exfalso; omega) | omega | assumption
  · have hb : (n % 65536 != n) = true := by simp; omega
    go_enter Tryd.func92, Tryd.ntmps92
    go_wp2_with (first | (go_at_call 102; refine (fixedSize_calls 3 _).mono ?_; rintro e w1 ⟨rfl, hch1⟩; rw [hz]; have C2 := C1.no_no hch1; have q0 := hch1.cell0 p0; have q1 := hch1.cell0 p1; have q2 := hch1.cell0 p2; have q3 := hch1.cell0 p3; have q4 := hch1.cell0 p4; have q5 := hch1.cell0 p5))
    go_quiet (fail)
    go_wp2_with fail
    go_ret
    exact ⟨false, rfl, (by repeat (first | exact C2 | apply Ch.drew | apply Ch.drewN)), fun h => by cases h⟩
set_option maxRecDepth 100000 in
set_option maxHeartbeats 2000000 in
theorem cont_4 (w0 : World) (n o : Int) (s : ByteArray) (m d : Nat) (K : Fin m → Va) (D : Fin d → Va) (A B : Option Addr) (cap capB : Nat) (w : World) (ht : VaP w0 (.mk 4 n s m K o d D) [.int .i64 4, .int .u64 n, .string s, .slice A m cap, .int .i64 o, .slice B d capB]) (hw : Ch (Fro w0.heap.size) w0 w) (hmb : m ≤ 9223372036854775807) (hsb : s.size ≤ 9223372036854775807) (hT : Tabs w) (h0 : 0 ≤ n) (h1 : n < 18446744073709551616) :
    Calls Tryd.prog 92 #[.agg #[.int .i64 4, .int .u64 n, .string s, .slice A m cap, .int .i64 o, .slice B d capB]] w (CfTo 4 n s o K w) := by
  have hB := Row.alloc w [.int .i64 4, .int .u64 n, .string s, .slice A m cap, .int .i64 o, .slice B d capB] 25
  have C1 : Ch No w (w.alloc (.cells #[.int .i64 4, .int .u64 n, .string s, .slice A m cap, .int .i64 o, .slice B d capB] 25)) := (Ch.refl No w).alloc _
  have p0 := hB.cell 0 _ rfl
  have p1 := hB.cell 1 _ rfl
  have p2 := hB.cell 2 _ rfl
  have p3 := hB.cell 3 _ rfl
  have p4 := hB.cell 4 _ rfl
  have p5 := hB.cell 5 _ rfl
  have hz : fsz 4 = 4 := by kernel_rfl
  obtain ⟨y, hy⟩ : ∃ y, IntKind.u64.wrap (n * 4294967296) = y := ⟨_, rfl⟩
  have hyr : 0 ≤ y ∧ y < 18446744073709551616 ∧ y / 4294967296 = n % 4294967296 := by rw [← hy]; simp [IntKind.wrap, IntKind.bits, IntKind.signed]; omega
  obtain ⟨hy0, hy1, hy2⟩ := hyr
  by_cases hn : n < 4294967296
  · have hb : (n % 4294967296 != n) = false := by simp; omega
    go_enter Tryd.func92, Tryd.ntmps92
    go_wp2_with (first | (go_at_call 102; refine (fixedSize_calls 4 _).mono ?_; rintro e w1 ⟨rfl, hch1⟩; rw [hz]; have C2 := C1.no_no hch1; have q0 := hch1.cell0 p0; have q1 := hch1.cell0 p1; have q2 := hch1.cell0 p2; have q3 := hch1.cell0 p3; have q4 := hch1.cell0 p4; have q5 := hch1.cell0 p5))
    go_quiet (fail)
    go_wp2_with fail
    all_goals
      go_ret
      refine ⟨_, rfl, (by repeat (first | exact C2 | apply Ch.drew | apply Ch.drewN)), fun hbt => ⟨fun _ => ?_, fun _ => ?_, fun _ => ?_, fun _ => ?_, fun _ => ?_, fun _ => ?_, fun _ => ?_, fun _ => ?_, fun _ => ?_⟩⟩ <;> first | (exfalso; omega) | omega | assumption
  · have hb : (n % 4294967296 != n) = true := by simp; omega
    go_enter Tryd.func92, Tryd.ntmps92
    go_wp2_with (first | (go_at_call 102; refine (fixedSize_calls 4 _).mono ?_; rintro e w1 ⟨rfl, hch1⟩; rw [hz]; have C2 := C1.no_no hch1; have q0 := hch1.cell0 p0; have q1 := hch1.cell0 p1; have q2 := hch1.cell0 p2; have q3 := hch1.cell0 p3; have q4 := hch1.cell0 p4; have q5 := hch1.cell0 p5))
    go_quiet (fail)
    go_wp2_with fail
    go_ret
    exact ⟨false, rfl, (by repeat (first | exact C2 | apply Ch.drew | apply Ch.drewN)), fun h => by cases h⟩
set_option maxRecDepth 100000 in
set_option maxHeartbeats 2000000 in
theorem cont_10 (w0 : World) (n o : Int) (s : ByteArray) (m d : Nat) (K : Fin m → Va) (D : Fin d → Va) (A B : Option Addr) (cap capB : Nat) (w : World) (ht : VaP w0 (.mk 10 n s m K o d D) [.int .i64 10, .int .u64 n, .string s, .slice A m cap, .int .i64 o, .slice B d capB]) (hw : Ch (Fro w0.heap.size) w0 w) (hmb : m ≤ 9223372036854775807) (hsb : s.size ≤ 9223372036854775807) (hT : Tabs w) (h0 : 0 ≤ n) (h1 : n < 18446744073709551616) :
    Calls Tryd.prog 92 #[.agg #[.int .i64 10, .int .u64 n, .string s, .slice A m cap, .int .i64 o, .slice B d capB]] w (CfTo 10 n s o K w) := by
  have hB := Row.alloc w [.int .i64 10, .int .u64 n, .string s, .slice A m cap, .int .i64 o, .slice B d capB] 25
  have C1 : Ch No w (w.alloc (.cells #[.int .i64 10, .int .u64 n, .string s, .slice A m cap, .int .i64 o, .slice B d capB] 25)) := (Ch.refl No w).alloc _
  have p0 := hB.cell 0 _ rfl
  have p1 := hB.cell 1 _ rfl
  have p2 := hB.cell 2 _ rfl
  have p3 := hB.cell 3 _ rfl
  have p4 := hB.cell 4 _ rfl
  have p5 := hB.cell 5 _ rfl
  have hz : fsz 10 = 4 := by kernel_rfl
  obtain ⟨y, hy⟩ : ∃ y, IntKind.u64.wrap (n * 4294967296) = y := ⟨_, rfl⟩
  have hyr : 0 ≤ y ∧ y < 18446744073709551616 ∧ y / 4294967296 = n % 4294967296 := by rw [← hy]; simp [IntKind.wrap, IntKind.bits, IntKind.signed]; omega
  obtain ⟨hy0, hy1, hy2⟩ := hyr
  by_cases hn : n < 4294967296
  · have hb : (n % 4294967296 != n) = false := by simp; omega
    go_enter Tryd.func92, Tryd.ntmps92
    go_wp2_with (first | (go_at_call 102; refine (fixedSize_calls 10 _).mono ?_; rintro e w1 ⟨rfl, hch1⟩; rw [hz]; have C2 := C1.no_no hch1; have q0 := hch1.cell0 p0; have q1 := hch1.cell0 p1; have q2 := hch1.cell0 p2; have q3 := hch1.cell0 p3; have q4 := hch1.cell0 p4; have q5 := hch1.cell0 p5))
    go_quiet (fail)
    go_wp2_with fail
    all_goals
      go_ret
      refine ⟨_, rfl, (by repeat (first | exact C2 | apply Ch.drew | apply Ch.drewN)), fun hbt => ⟨fun _ => ?_, fun _ => ?_, fun _ => ?_, fun _ => ?_, fun _ => ?_, fun _ => ?_, fun _ => ?_, fun _ => ?_, fun _ => ?_⟩⟩ <;> first | (exfalso; omega) | omega | assumption
  · have hb : (n % 4294967296 != n) = true := by simp; omega
    go_enter Tryd.func92, Tryd.ntmps92
    go_wp2_with (first | (go_at_call 102; refine (fixedSize_calls 10 _).mono ?_; rintro e w1 ⟨rfl, hch1⟩; rw [hz]; have C2 := C1.no_no hch1; have q0 := hch1.cell0 p0; have q1 := hch1.cell0 p1; have q2 := hch1.cell0 p2; have q3 := hch1.cell0 p3; have q4 := hch1.cell0 p4; have q5 := hch1.cell0 p5))
    go_quiet (fail)
    go_wp2_with fail
    go_ret
    exact ⟨false, rfl, (by repeat (first | exact C2 | apply Ch.drew | apply Ch.drewN)), fun h => by cases h⟩
set_option maxRecDepth 100000 in
set_option maxHeartbeats 2000000 in
theorem cont_12 (w0 : World) (n o : Int) (s : ByteArray) (m d : Nat) (K : Fin m → Va) (D : Fin d → Va) (A B : Option Addr) (cap capB : Nat) (w : World) (ht : VaP w0 (.mk 12 n s m K o d D) [.int .i64 12, .int .u64 n, .string s, .slice A m cap, .int .i64 o, .slice B d capB]) (hw : Ch (Fro w0.heap.size) w0 w) (hmb : m ≤ 9223372036854775807) (hsb : s.size ≤ 9223372036854775807) (hT : Tabs w) (h0 : 0 ≤ n) (h1 : n < 18446744073709551616) :
    Calls Tryd.prog 92 #[.agg #[.int .i64 12, .int .u64 n, .string s, .slice A m cap, .int .i64 o, .slice B d capB]] w (CfTo 12 n s o K w) := by
  have hB := Row.alloc w [.int .i64 12, .int .u64 n, .string s, .slice A m cap, .int .i64 o, .slice B d capB] 25
  have C1 : Ch No w (w.alloc (.cells #[.int .i64 12, .int .u64 n, .string s, .slice A m cap, .int .i64 o, .slice B d capB] 25)) := (Ch.refl No w).alloc _
  have p0 := hB.cell 0 _ rfl
  have p1 := hB.cell 1 _ rfl
  have p2 := hB.cell 2 _ rfl
  have p3 := hB.cell 3 _ rfl
  have p4 := hB.cell 4 _ rfl
  have p5 := hB.cell 5 _ rfl
  have hz : fsz 12 = 4 := by kernel_rfl
  obtain ⟨y, hy⟩ : ∃ y, IntKind.u64.wrap (n * 4294967296) = y := ⟨_, rfl⟩
  have hyr : 0 ≤ y ∧ y < 18446744073709551616 ∧ y / 4294967296 = n % 4294967296 := by rw [← hy]; simp [IntKind.wrap, IntKind.bits, IntKind.signed]; omega
  obtain ⟨hy0, hy1, hy2⟩ := hyr
  by_cases hn : n < 4294967296
  · have hb : (n % 4294967296 != n) = false := by simp; omega
    go_enter Tryd.func92, Tryd.ntmps92
    go_wp2_with (first | (go_at_call 102; refine (fixedSize_calls 12 _).mono ?_; rintro e w1 ⟨rfl, hch1⟩; rw [hz]; have C2 := C1.no_no hch1; have q0 := hch1.cell0 p0; have q1 := hch1.cell0 p1; have q2 := hch1.cell0 p2; have q3 := hch1.cell0 p3; have q4 := hch1.cell0 p4; have q5 := hch1.cell0 p5))
    go_quiet (fail)
    go_wp2_with fail
    all_goals
      go_ret
      refine ⟨_, rfl, (by repeat (first | exact C2 | apply Ch.drew | apply Ch.drewN)), fun hbt => ⟨fun _ => ?_, fun _ => ?_, fun _ => ?_, fun _ => ?_, fun _ => ?_, fun _ => ?_, fun _ => ?_, fun _ => ?_, fun _ => ?_⟩⟩ <;> first | (exfalso; omega) | omega | assumption
  · have hb : (n % 4294967296 != n) = true := by simp; omega
    go_enter Tryd.func92, Tryd.ntmps92
    go_wp2_with (first | (go_at_call 102; refine (fixedSize_calls 12 _).mono ?_; rintro e w1 ⟨rfl, hch1⟩; rw [hz]; have C2 := C1.no_no hch1; have q0 := hch1.cell0 p0; have q1 := hch1.cell0 p1; have q2 := hch1.cell0 p2; have q3 := hch1.cell0 p3; have q4 := hch1.cell0 p4; have q5 := hch1.cell0 p5))
    go_quiet (fail)
    go_wp2_with fail
    go_ret
    exact ⟨false, rfl, (by repeat (first | exact C2 | apply Ch.drew | apply Ch.drewN)), fun h => by cases h⟩
set_option maxRecDepth 100000 in
set_option maxHeartbeats 2000000 in
theorem cont_15 (w0 : World) (n o : Int) (s : ByteArray) (m d : Nat) (K : Fin m → Va) (D : Fin d → Va) (A B : Option Addr) (cap capB : Nat) (w : World) (ht : VaP w0 (.mk 15 n s m K o d D) [.int .i64 15, .int .u64 n, .string s, .slice A m cap, .int .i64 o, .slice B d capB]) (hw : Ch (Fro w0.heap.size) w0 w) (hmb : m ≤ 9223372036854775807) (hsb : s.size ≤ 9223372036854775807) (hT : Tabs w) (h0 : 0 ≤ n) (h1 : n < 18446744073709551616) :
    Calls Tryd.prog 92 #[.agg #[.int .i64 15, .int .u64 n, .string s, .slice A m cap, .int .i64 o, .slice B d capB]] w (CfTo 15 n s o K w) := by
  have hB := Row.alloc w [.int .i64 15, .int .u64 n, .string s, .slice A m cap, .int .i64 o, .slice B d capB] 25
  have C1 : Ch No w (w.alloc (.cells #[.int .i64 15, .int .u64 n, .string s, .slice A m cap, .int .i64 o, .slice B d capB] 25)) := (Ch.refl No w).alloc _
  have p0 := hB.cell 0 _ rfl
  have p1 := hB.cell 1 _ rfl
  have p2 := hB.cell 2 _ rfl
  have p3 := hB.cell 3 _ rfl
  have p4 := hB.cell 4 _ rfl
  have p5 := hB.cell 5 _ rfl
  have hz : fsz 15 = 4 := by kernel_rfl
  obtain ⟨y, hy⟩ : ∃ y, IntKind.u64.wrap (n * 4294967296) = y := ⟨_, rfl⟩
  have hyr : 0 ≤ y ∧ y < 18446744073709551616 ∧ y / 4294967296 = n % 4294967296 := by rw [← hy]; simp [IntKind.wrap, IntKind.bits, IntKind.signed]; omega
  obtain ⟨hy0, hy1, hy2⟩ := hyr
  by_cases hn : n < 4294967296
  · have hb : (n % 4294967296 != n) = false := by simp; omega
    go_enter Tryd.func92, Tryd.ntmps92
    go_wp2_with (first | (go_at_call 102; refine (fixedSize_calls 15 _).mono ?_; rintro e w1 ⟨rfl, hch1⟩; rw [hz]; have C2 := C1.no_no hch1; have q0 := hch1.cell0 p0; have q1 := hch1.cell0 p1; have q2 := hch1.cell0 p2; have q3 := hch1.cell0 p3; have q4 := hch1.cell0 p4; have q5 := hch1.cell0 p5))
    go_quiet (fail)
    go_wp2_with fail
    all_goals
      go_ret
      refine ⟨_, rfl, (by repeat (first | exact C2 | apply Ch.drew | apply Ch.drewN)), fun hbt => ⟨fun _ => ?_, fun _ => ?_, fun _ => ?_, fun _ => ?_, fun _ => ?_, fun _ => ?_, fun _ => ?_, fun _ => ?_, fun _ => ?_⟩⟩ <;> first | (exfalso; omega) | omega | assumption
  · have hb : (n % 4294967296 != n) = true := by simp; omega
    go_enter Tryd.func92, Tryd.ntmps92
    go_wp2_with (first | (go_at_call 102; refine (fixedSize_calls 15 _).mono ?_; rintro e w1 ⟨rfl, hch1⟩; rw [hz]; have C2 := C1.no_no hch1; have q0 := hch1.cell0 p0; have q1 := hch1.cell0 p1; have q2 := hch1.cell0 p2; have q3 := hch1.cell0 p3; have q4 := hch1.cell0 p4; have q5 := hch1.cell0 p5))
    go_quiet (fail)
    go_wp2_with fail
    go_ret
    exact ⟨false, rfl, (by repeat (first | exact C2 | apply Ch.drew | apply Ch.drewN)), fun h => by cases h⟩
set_option maxRecDepth 100000 in
set_option maxHeartbeats 2000000 in
theorem cont_5 (w0 : World) (n o : Int) (s : ByteArray) (m d : Nat) (K : Fin m → Va) (D : Fin d → Va) (A B : Option Addr) (cap capB : Nat) (w : World) (ht : VaP w0 (.mk 5 n s m K o d D) [.int .i64 5, .int .u64 n, .string s, .slice A m cap, .int .i64 o, .slice B d capB]) (hw : Ch (Fro w0.heap.size) w0 w) (hmb : m ≤ 9223372036854775807) (hsb : s.size ≤ 9223372036854775807) (hT : Tabs w) (h0 : 0 ≤ n) (h1 : n < 18446744073709551616) :
    Calls Tryd.prog 92 #[.agg #[.int .i64 5, .int .u64 n, .string s, .slice A m cap, .int .i64 o, .slice B d capB]] w (CfTo 5 n s o K w) := by
  have hB := Row.alloc w [.int .i64 5, .int .u64 n, .string s, .slice A m cap, .int .i64 o, .slice B d capB] 25
  have C1 : Ch No w (w.alloc (.cells #[.int .i64 5, .int .u64 n, .string s, .slice A m cap, .int .i64 o, .slice B d capB] 25)) := (Ch.refl No w).alloc _
  have p0 := hB.cell 0 _ rfl
  have p1 := hB.cell 1 _ rfl
  have p2 := hB.cell 2 _ rfl
  have p3 := hB.cell 3 _ rfl
  have p4 := hB.cell 4 _ rfl
  have p5 := hB.cell 5 _ rfl
  have hz : fsz 5 = 8 := by kernel_rfl
  have hwn : IntKind.u64.wrap n = n := by simp [IntKind.wrap, IntKind.bits, IntKind.signed]; omega
  go_enter Tryd.func92, Tryd.ntmps92
  go_wp2_with (first | (go_at_call 102; refine (fixedSize_calls 5 _).mono ?_; rintro e w1 ⟨rfl, hch1⟩; rw [hz]; have C2 := C1.no_no hch1; have q0 := hch1.cell0 p0; have q1 := hch1.cell0 p1; have q2 := hch1.cell0 p2; have q3 := hch1.cell0 p3; have q4 := hch1.cell0 p4; have q5 := hch1.cell0 p5))
  go_quiet (fail)
  go_wp2_with fail
  all_goals
    go_ret
    refine ⟨_, rfl, (by repeat (first | exact C2 | apply Ch.drew | apply Ch.drewN)), fun hbt => ⟨fun _ => ?_, fun _ => ?_, fun _ => ?_, fun _ => ?_, fun _ => ?_, fun _ => ?_, fun _ => ?_, fun _ => ?_, fun _ => ?_⟩⟩ <;> first | (exfalso; omega) | omega | assumption
set_option maxRecDepth 100000 in
set_option maxHeartbeats 2000000 in
theorem cont_11 (w0 : World) (n o : Int) (s : ByteArray) (m d : Nat) (K : Fin m → Va) (D : Fin d → Va) (A B : Option Addr) (cap capB : Nat) (w : World) (ht : VaP w0 (.mk 11 n s m K o d D) [.int .i64 11, .int .u64 n, .string s, .slice A m cap, .int .i64 o, .slice B d capB]) (hw : Ch (Fro w0.heap.size) w0 w) (hmb : m ≤ 9223372036854775807) (hsb : s.size ≤ 9223372036854775807) (hT : Tabs w) (h0 : 0 ≤ n) (h1 : n < 18446744073709551616) :
    Calls Tryd.prog 92 #[.agg #[.int .i64 11, .int .u64 n, .string s, .slice A m cap, .int .i64 o, .slice B d capB]] w (CfTo 11 n s o K w) := by
  have hB := Row.alloc w [.int .i64 11, .int .u64 n, .string s, .slice A m cap, .int .i64 o, .slice B d capB] 25
  have C1 : Ch No w (w.alloc (.cells #[.int .i64 11, .int .u64 n, .string s, .slice A m cap, .int .i64 o, .slice B d capB] 25)) := (Ch.refl No w).alloc _
  have p0 := hB.cell 0 _ rfl
  have p1 := hB.cell 1 _ rfl
  have p2 := hB.cell 2 _ rfl
  have p3 := hB.cell 3 _ rfl
  have p4 := hB.cell 4 _ rfl
  have p5 := hB.cell 5 _ rfl
  have hz : fsz 11 = 8 := by kernel_rfl
  have hwn : IntKind.u64.wrap n = n := by simp [IntKind.wrap, IntKind.bits, IntKind.signed]; omega
  go_enter Tryd.func92, Tryd.ntmps92
  go_wp2_with (first | (go_at_call 102; refine (fixedSize_calls 11 _).mono ?_; rintro e w1 ⟨rfl, hch1⟩; rw [hz]; have C2 := C1.no_no hch1; have q0 := hch1.cell0 p0; have q1 := hch1.cell0 p1; have q2 := hch1.cell0 p2; have q3 := hch1.cell0 p3; have q4 := hch1.cell0 p4; have q5 := hch1.cell0 p5))
  go_quiet (fail)
  go_wp2_with fail
  all_goals
    go_ret
    refine ⟨_, rfl, (by repeat (first | exact C2 | apply Ch.drew | apply Ch.drewN)), fun hbt => ⟨fun _ => ?_, fun _ => ?_, fun _ => ?_, fun _ => ?_, fun _ => ?_, fun _ => ?_, fun _ => ?_, fun _ => ?_, fun _ => ?_⟩⟩ <;> first | (exfalso; omega) | omega | assumption
set_option maxRecDepth 100000 in
set_option maxHeartbeats 2000000 in
theorem cont_13 (w0 : World) (n o : Int) (s : ByteArray) (m d : Nat) (K : Fin m → Va) (D : Fin d → Va) (A B : Option Addr) (cap capB : Nat) (w : World) (ht : VaP w0 (.mk 13 n s m K o d D) [.int .i64 13, .int .u64 n, .string s, .slice A m cap, .int .i64 o, .slice B d capB]) (hw : Ch (Fro w0.heap.size) w0 w) (hmb : m ≤ 9223372036854775807) (hsb : s.size ≤ 9223372036854775807) (hT : Tabs w) (h0 : 0 ≤ n) (h1 : n < 18446744073709551616) :
    Calls Tryd.prog 92 #[.agg #[.int .i64 13, .int .u64 n, .string s, .slice A m cap, .int .i64 o, .slice B d capB]] w (CfTo 13 n s o K w) := by
  have hB := Row.alloc w [.int .i64 13, .int .u64 n, .string s, .slice A m cap, .int .i64 o, .slice B d capB] 25
  have C1 : Ch No w (w.alloc (.cells #[.int .i64 13, .int .u64 n, .string s, .slice A m cap, .int .i64 o, .slice B d capB] 25)) := (Ch.refl No w).alloc _
  have p0 := hB.cell 0 _ rfl
  have p1 := hB.cell 1 _ rfl
  have p2 := hB.cell 2 _ rfl
  have p3 := hB.cell 3 _ rfl
  have p4 := hB.cell 4 _ rfl
  have p5 := hB.cell 5 _ rfl
  have hz : fsz 13 = 8 := by kernel_rfl
  have hwn : IntKind.u64.wrap n = n := by simp [IntKind.wrap, IntKind.bits, IntKind.signed]; omega
  go_enter Tryd.func92, Tryd.ntmps92
  go_wp2_with (first | (go_at_call 102; refine (fixedSize_calls 13 _).mono ?_; rintro e w1 ⟨rfl, hch1⟩; rw [hz]; have C2 := C1.no_no hch1; have q0 := hch1.cell0 p0; have q1 := hch1.cell0 p1; have q2 := hch1.cell0 p2; have q3 := hch1.cell0 p3; have q4 := hch1.cell0 p4; have q5 := hch1.cell0 p5))
  go_quiet (fail)
  go_wp2_with fail
  all_goals
    go_ret
    refine ⟨_, rfl, (by repeat (first | exact C2 | apply Ch.drew | apply Ch.drewN)), fun hbt => ⟨fun _ => ?_, fun _ => ?_, fun _ => ?_, fun _ => ?_, fun _ => ?_, fun _ => ?_, fun _ => ?_, fun _ => ?_, fun _ => ?_⟩⟩ <;> first | (exfalso; omega) | omega | assumption
set_option maxRecDepth 100000 in
set_option maxHeartbeats 2000000 in
theorem cont_16 (w0 : World) (n o : Int) (s : ByteArray) (m d : Nat) (K : Fin m → Va) (D : Fin d → Va) (A B : Option Addr) (cap capB : Nat) (w : World) (ht : VaP w0 (.mk 16 n s m K o d D) [.int .i64 16, .int .u64 n, .string s, .slice A m cap, .int .i64 o, .slice B d capB]) (hw : Ch (Fro w0.heap.size) w0 w) (hmb : m ≤ 9223372036854775807) (hsb : s.size ≤ 9223372036854775807) (hT : Tabs w) (h0 : 0 ≤ n) (h1 : n < 18446744073709551616) :
    Calls Tryd.prog 92 #[.agg #[.int .i64 16, .int .u64 n, .string s, .slice A m cap, .int .i64 o, .slice B d capB]] w (CfTo 16 n s o K w) := by
  have hB := Row.alloc w [.int .i64 16, .int .u64 n, .string s, .slice A m cap, .int .i64 o, .slice B d capB] 25
  have C1 : Ch No w (w.alloc (.cells #[.int .i64 16, .int .u64 n, .string s, .slice A m cap, .int .i64 o, .slice B d capB] 25)) := (Ch.refl No w).alloc _
  have p0 := hB.cell 0 _ rfl
  have p1 := hB.cell 1 _ rfl
  have p2 := hB.cell 2 _ rfl
  have p3 := hB.cell 3 _ rfl
  have p4 := hB.cell 4 _ rfl
  have p5 := hB.cell 5 _ rfl
  have hz : fsz 16 = 8 := by kernel_rfl
  have hwn : IntKind.u64.wrap n = n := by simp [IntKind.wrap, IntKind.bits, IntKind.signed]; omega
  go_enter Tryd.func92, Tryd.ntmps92
  go_wp2_with (first | (go_at_call 102; refine (fixedSize_calls 16 _).mono ?_; rintro e w1 ⟨rfl, hch1⟩; rw [hz]; have C2 := C1.no_no hch1; have q0 := hch1.cell0 p0; have q1 := hch1.cell0 p1; have q2 := hch1.cell0 p2; have q3 := hch1.cell0 p3; have q4 := hch1.cell0 p4; have q5 := hch1.cell0 p5))
  go_quiet (fail)
  go_wp2_with fail
  all_goals
    go_ret
    refine ⟨_, rfl, (by repeat (first | exact C2 | apply Ch.drew | apply Ch.drewN)), fun hbt => ⟨fun _ => ?_, fun _ => ?_, fun _ => ?_, fun _ => ?_, fun _ => ?_, fun _ => ?_, fun _ => ?_, fun _ => ?_, fun _ => ?_⟩⟩ <;> first | (exfalso; omega) | omega | assumption

end Go.Proofs.YtbdgkikipekmlaaDoor
