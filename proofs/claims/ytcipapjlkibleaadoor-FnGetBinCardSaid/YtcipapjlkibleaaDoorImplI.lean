/- The walks of the thin package's readers of integers. No condition. -/
import Derived.Test.YtcipapjlkibleaaDoorNumL
namespace Go.Proofs.YtcipapjlkibleaaDoor
set_option linter.unusedVariables false
set_option linter.unusedSimpArgs false
open Go.RowKit

def RbNo (w : World) (e : Ending) (w' : World) : Prop := ∃ i o T v, e = .returned (.tuple #[.int .u8 i, o, .iface T v]) ∧ Ch No w w'
def RbOk (n : Int) (r : List Int) (w : World) (e : Ending) (w' : World) : Prop := ∃ A' c', e = .returned (.tuple #[.int .u8 n, .slice A' r.length c', .nilIface]) ∧ Rd u8 w' A' r ∧ r.length ≤ c' ∧ Ch No w w'
set_option maxRecDepth 100000 in
set_option maxHeartbeats 1000000 in
theorem readB_no (s : Value) (w : World) (h : Calls Tryd.prog 28 #[s] w (RuNo w)) : Calls Tryd.prog 48 #[s] w (RbNo w) := by
  go_enter Tryd.func48, Tryd.ntmps48
  go_wp2_with fail
  refine h.mono ?_
  rintro e w1 ⟨i, hi0, hi1, o, T, v, rfl, hch1⟩
  by_cases hi : 255 < i
  · have hd : decide (255 < i) = true := decide_eq_true hi
    go_wp2_with fail
    go_ret3
    exact ⟨_, _, _, _, rfl, hch1⟩
  · have hd : decide (255 < i) = false := decide_eq_false hi
    go_wp2_with fail
    go_ret3
    exact ⟨_, _, _, _, rfl, hch1⟩
set_option maxRecDepth 100000 in
set_option maxHeartbeats 1000000 in
theorem readB_big (s : Value) (n : Int) (r : List Int) (w : World) (hn : 256 ≤ n) (h : Calls Tryd.prog 28 #[s] w (RuOk n r w)) : Calls Tryd.prog 48 #[s] w (RbNo w) := by
  go_enter Tryd.func48, Tryd.ntmps48
  go_wp2_with fail
  refine h.mono ?_
  rintro e w1 ⟨A1, c1, rfl, hr1, hle, hch1⟩
  have hd : decide (255 < n) = true := decide_eq_true (by omega)
  go_wp2_with fail
  go_ret3
  exact ⟨_, _, _, _, rfl, hch1⟩
set_option maxRecDepth 100000 in
set_option maxHeartbeats 1000000 in
theorem readB_ok (s : Value) (n : Int) (r : List Int) (w : World) (h0 : 0 ≤ n) (hn : n < 256) (h : Calls Tryd.prog 28 #[s] w (RuOk n r w)) : Calls Tryd.prog 48 #[s] w (RbOk n r w) := by
  go_enter Tryd.func48, Tryd.ntmps48
  go_wp2_with fail
  refine h.mono ?_
  rintro e w1 ⟨A1, c1, rfl, hr1, hle, hch1⟩
  have hd : decide (255 < n) = false := decide_eq_false (by omega)
  go_wp2_with fail
  go_ret3
  exact ⟨A1, c1, rfl, hr1, hle, hch1⟩
set_option maxRecDepth 100000 in
set_option maxHeartbeats 1000000 in
theorem readY_no (s : Value) (w : World) (h : Calls Tryd.prog 48 #[s] w (RbNo w)) : Calls Tryd.prog 29 #[s] w (RbNo w) := by
  go_enter Tryd.func29, Tryd.ntmps29
  go_wp2_with fail
  refine h.mono ?_
  rintro e w1 ⟨i, o, T, v, rfl, hch1⟩
  go_wp2_with fail
  go_ret3
  exact ⟨_, _, _, _, rfl, hch1⟩
set_option maxRecDepth 100000 in
set_option maxHeartbeats 1000000 in
theorem readY_ok (s : Value) (n : Int) (r : List Int) (w : World) (h : Calls Tryd.prog 48 #[s] w (RbOk n r w)) : Calls Tryd.prog 29 #[s] w (RbOk n r w) := by
  go_enter Tryd.func29, Tryd.ntmps29
  go_wp2_with fail
  refine h.mono ?_
  rintro e w1 ⟨A1, c1, rfl, hr1, hle, hch1⟩
  go_wp2_with fail
  go_ret3
  exact ⟨A1, c1, rfl, hr1, hle, hch1⟩
def GetIntNo (w : World) (e : Ending) (w' : World) : Prop := e = .returned (.tuple #[.int .i64 0, .slice none 0 0, .bool false]) ∧ Ch No w w'
def GetIntOk (n : Int) (r : List Int) (w : World) (e : Ending) (w' : World) : Prop := ∃ v, e = .returned (.tuple #[.int .i64 n, v, .bool true]) ∧ Ow 5 u8 w' v r ∧ Ch No w w'
set_option maxRecDepth 100000 in
set_option maxHeartbeats 1000000 in
theorem GetInt_no (s : Value) (w : World) (h : Calls Tryd.prog 26 #[s] w (RiNo w)) : Calls Tryd.prog 14 #[s] w (GetIntNo w) := by
  go_enter Tryd.func14, Tryd.ntmps14
  go_wp2_with fail
  refine h.mono ?_
  rintro e w1 ⟨i, o, T, v, rfl, hch1⟩
  go_wp2_with fail
  go_ret3
  exact ⟨rfl, hch1⟩
set_option maxRecDepth 100000 in
set_option maxHeartbeats 1000000 in
theorem GetInt_ok (s : Value) (n : Int) (r : List Int) (w : World) (hl : r.length ≤ 35184372088832) (h : Calls Tryd.prog 26 #[s] w (RiOk n r w)) : Calls Tryd.prog 14 #[s] w (GetIntOk n r w) := by
  go_enter Tryd.func14, Tryd.ntmps14
  go_wp2_with fail
  refine h.mono ?_
  rintro e w1 ⟨A1, c1, rfl, hr1, hle, hch1⟩
  go_wp2_with fail
  refine (copied_calls A1 c1 r w1 hr1 hl).mono ?_
  rintro e w2 ⟨v2, rfl, ho2, _, hch2⟩
  go_wp2_with fail
  go_ret3
  exact ⟨v2, rfl, ho2, hch1.no_no hch2⟩
def GetUintNo (w : World) (e : Ending) (w' : World) : Prop := e = .returned (.tuple #[.int .u64 0, .slice none 0 0, .bool false]) ∧ Ch No w w'
def GetUintOk (n : Int) (r : List Int) (w : World) (e : Ending) (w' : World) : Prop := ∃ v, e = .returned (.tuple #[.int .u64 n, v, .bool true]) ∧ Ow 5 u8 w' v r ∧ Ch No w w'
set_option maxRecDepth 100000 in
set_option maxHeartbeats 1000000 in
theorem GetUint_no (s : Value) (w : World) (h : Calls Tryd.prog 28 #[s] w (RuNo w)) : Calls Tryd.prog 16 #[s] w (GetUintNo w) := by
  go_enter Tryd.func16, Tryd.ntmps16
  go_wp2_with fail
  refine h.mono ?_
  rintro e w1 ⟨i, _, _, o, T, v, rfl, hch1⟩
  go_wp2_with fail
  go_ret3
  exact ⟨rfl, hch1⟩
set_option maxRecDepth 100000 in
set_option maxHeartbeats 1000000 in
theorem GetUint_ok (s : Value) (n : Int) (r : List Int) (w : World) (hl : r.length ≤ 35184372088832) (h : Calls Tryd.prog 28 #[s] w (RuOk n r w)) : Calls Tryd.prog 16 #[s] w (GetUintOk n r w) := by
  go_enter Tryd.func16, Tryd.ntmps16
  go_wp2_with fail
  refine h.mono ?_
  rintro e w1 ⟨A1, c1, rfl, hr1, hle, hch1⟩
  go_wp2_with fail
  refine (copied_calls A1 c1 r w1 hr1 hl).mono ?_
  rintro e w2 ⟨v2, rfl, ho2, _, hch2⟩
  go_wp2_with fail
  go_ret3
  exact ⟨v2, rfl, ho2, hch1.no_no hch2⟩
def GetByteNo (w : World) (e : Ending) (w' : World) : Prop := e = .returned (.tuple #[.int .u8 0, .slice none 0 0, .bool false]) ∧ Ch No w w'
def GetByteOk (n : Int) (r : List Int) (w : World) (e : Ending) (w' : World) : Prop := ∃ v, e = .returned (.tuple #[.int .u8 n, v, .bool true]) ∧ Ow 5 u8 w' v r ∧ Ch No w w'
set_option maxRecDepth 100000 in
set_option maxHeartbeats 1000000 in
theorem GetByte_no (s : Value) (w : World) (h : Calls Tryd.prog 29 #[s] w (RbNo w)) : Calls Tryd.prog 18 #[s] w (GetByteNo w) := by
  go_enter Tryd.func18, Tryd.ntmps18
  go_wp2_with fail
  refine h.mono ?_
  rintro e w1 ⟨i, o, T, v, rfl, hch1⟩
  go_wp2_with fail
  go_ret3
  exact ⟨rfl, hch1⟩
set_option maxRecDepth 100000 in
set_option maxHeartbeats 1000000 in
theorem GetByte_ok (s : Value) (n : Int) (r : List Int) (w : World) (hl : r.length ≤ 35184372088832) (h : Calls Tryd.prog 29 #[s] w (RbOk n r w)) : Calls Tryd.prog 18 #[s] w (GetByteOk n r w) := by
  go_enter Tryd.func18, Tryd.ntmps18
  go_wp2_with fail
  refine h.mono ?_
  rintro e w1 ⟨A1, c1, rfl, hr1, hle, hch1⟩
  go_wp2_with fail
  refine (copied_calls A1 c1 r w1 hr1 hl).mono ?_
  rintro e w2 ⟨v2, rfl, ho2, _, hch2⟩
  go_wp2_with fail
  go_ret3
  exact ⟨v2, rfl, ho2, hch1.no_no hch2⟩

end Go.Proofs.YtcipapjlkibleaaDoor
