/- The walks of the thin package's reader of extensions, whole. No condition. -/
import Derived.Test.YtooifcdkpddlmaaDoorExtG
namespace Go.Proofs.YtooifcdkpddlmaaDoor
set_option linter.unusedVariables false
set_option linter.unusedSimpArgs false
open Go.RowKit

set_option maxRecDepth 100000 in
theorem extType_calls (e : Nat) (kd : Int) (v : Value) (w : World) (hrow : Row w e 70 [v, .int .i8 kd]) :
    Calls Tryd.prog 70 #[.pointer (some ⟨e, 0, none⟩)] w fun en w' => en = .returned (.int .i8 kd) ∧ w = w' := by
  have c1 := hrow.cell 1 _ rfl
  go_enter Tryd.func70, Tryd.ntmps70
  go_wp2_with fail
  go_ret
  exact ⟨rfl, rfl⟩
set_option maxRecDepth 100000 in
theorem errExt_calls (a b : Int) (w : World) : Calls Tryd.prog 40 #[.int .i8 a, .int .i8 b] w fun en w' => (∃ T v, en = .returned (.iface T v)) ∧ Ch No w w' := by
  go_enter Tryd.func40, Tryd.ntmps40
  go_wp2_with fail
  go_ret
  exact ⟨⟨_, _, rfl⟩, Ch.refl _ _⟩
def ReNo (w : World) (en : Ending) (w' : World) : Prop := ∃ o T v, en = .returned (.tuple #[o, .iface T v]) ∧ Ch No w w'
def ReOk (e : Nat) (kd : Int) (x r : List Int) (w : World) (en : Ending) (w' : World) : Prop := ∃ A c A' c', en = .returned (.tuple #[.slice A' r.length c', .nilIface]) ∧ Row w' e 70 [.slice A x.length c, .int .i8 kd] ∧ Rd u8 w' A x ∧ Rd u8 w' A' r ∧ r.length ≤ c' ∧ Ch (fun b => b = e) w w'
set_option maxRecDepth 100000 in
set_option maxHeartbeats 1000000 in
theorem reb_no (s : Value) (e : Nat) (w : World) (h : Calls Tryd.prog 39 #[s] w (RxNo w)) :
    Calls Tryd.prog 26 #[s, .iface 68 (.pointer (some ⟨e, 0, none⟩))] w (ReNo w) := by
  go_enter Tryd.func26, Tryd.ntmps26
  go_wp2_with fail
  refine h.mono ?_
  rintro en w1 ⟨i, o, d, T, v, rfl, hch1⟩
  go_wp2_with fail
  go_ret2
  exact ⟨_, _, _, rfl, hch1⟩
set_option maxRecDepth 100000 in
set_option maxHeartbeats 1000000 in
theorem reb_bad (s : Value) (e : Nat) (kd z : Int) (x r : List Int) (w : World) (hrow : Row w e 70 [.slice none 0 0, .int .i8 kd]) (hz : z ≠ kd) (h : Calls Tryd.prog 39 #[s] w (RxOk z x r w)) :
    Calls Tryd.prog 26 #[s, .iface 68 (.pointer (some ⟨e, 0, none⟩))] w (ReNo w) := by
  have hne : (z != kd) = true := bne_iff_ne.2 hz
  have hne2 : (z == kd) = false := beq_eq_false_iff_ne.2 hz
  have hne3 : decide (z = kd) = false := decide_eq_false hz
  go_enter Tryd.func26, Tryd.ntmps26
  go_wp2_with fail
  refine h.mono ?_
  rintro en w1 ⟨A1, c1, A2, c2, rfl, _, _, _, _, hch1⟩
  have hrow1 := hrow.keep0 hch1
  go_wp2_with fail
  refine (extType_calls e kd _ w1 hrow1).mono ?_
  rintro en w2 ⟨rfl, rfl⟩
  go_wp2_with fail
  refine (extType_calls e kd _ _ hrow1).mono ?_
  rintro en w2 ⟨rfl, rfl⟩
  go_wp2_with fail
  refine (errExt_calls z kd _).mono ?_
  rintro en w2 ⟨⟨T, v, rfl⟩, hch2⟩
  go_wp2_with fail
  go_ret2
  exact ⟨_, _, _, rfl, hch1.no_no hch2⟩
set_option maxRecDepth 100000 in
set_option maxHeartbeats 1000000 in
theorem reb_ok (s : Value) (e : Nat) (kd : Int) (x r : List Int) (w : World) (hrow : Row w e 70 [.slice none 0 0, .int .i8 kd]) (hx : x.length ≤ 35184372088832) (h : Calls Tryd.prog 39 #[s] w (RxOk kd x r w)) :
    Calls Tryd.prog 26 #[s, .iface 68 (.pointer (some ⟨e, 0, none⟩))] w (ReOk e kd x r w) := by
  go_enter Tryd.func26, Tryd.ntmps26
  go_wp2_with fail
  refine h.mono ?_
  rintro en w1 ⟨A1, c1, A2, c2, rfl, h1, h2, h3, h4, hch1⟩
  have hrow1 := hrow.keep0 hch1
  go_wp2_with fail
  refine (extType_calls e kd _ w1 hrow1).mono ?_
  rintro en w2 ⟨rfl, rfl⟩
  go_wp2_with fail
  refine (unm_calls e kd A1 c1 x _ hrow1 h1 hx).mono ?_
  rintro en w2 ⟨A3, c3, rfl, hrow2, hr2, hc3, hch2⟩
  go_wp2_with fail
  go_ret2
  exact ⟨A3, c3, A2, c2, rfl, hrow2, hr2, rd_keep_e hrow1 (fun _ _ h => by cases h) h3 hch2, h4, hch1.no_then hch2⟩
theorem leftI_no (o T v : _) (w : World) : Calls Tryd.prog 25 #[o, .iface T v] w fun en w' => en = .returned (.tuple #[.slice none 0 0, .bool false]) ∧ w = w' := by
  go_enter Tryd.func25, Tryd.ntmps25
  go_wp2_with fail
  go_ret2
  exact ⟨rfl, rfl⟩
theorem leftI_ok (A : Option Addr) (c : Nat) (r : List Int) (w : World) (hr : Rd u8 w A r) (hl : r.length ≤ 35184372088832) : Calls Tryd.prog 25 #[.slice A r.length c, .nilIface] w fun en w' => ∃ v, en = .returned (.tuple #[v, .bool true]) ∧ Ow 5 u8 w' v r ∧ Ch No w w' := by
  go_enter Tryd.func25, Tryd.ntmps25
  go_wp2_with fail
  refine (copied_calls A c r w hr hl).mono ?_
  rintro en w2 ⟨v2, rfl, ho2, _, hch2⟩
  go_wp2_with fail
  go_ret2
  exact ⟨v2, rfl, ho2, hch2⟩
def GeNo (w : World) (en : Ending) (w' : World) : Prop := en = .returned (.tuple #[.slice none 0 0, .slice none 0 0, .bool false]) ∧ Ch No w w'
def GeOk (x r : List Int) (w : World) (en : Ending) (w' : World) : Prop := ∃ v1 v2, en = .returned (.tuple #[v1, v2, .bool true]) ∧ Ow 5 u8 w' v1 x ∧ Ow 5 u8 w' v2 r ∧ Ch No w w'
def EX (kd : Int) : Obj := .cells #[.slice none 0 0, .int .i8 kd] 70
set_option maxRecDepth 100000 in
set_option maxHeartbeats 1000000 in
theorem getExt_no (s : Value) (kd : Int) (w : World) (h : Calls Tryd.prog 26 #[s, .iface 68 (.pointer (some ⟨w.heap.size, 0, none⟩))] (w.alloc (.cells #[.slice none 0 0, .int .i8 kd] 70)) (ReNo (w.alloc (.cells #[.slice none 0 0, .int .i8 kd] 70)))) :
    Calls Tryd.prog 15 #[s, .int .i8 kd] w (GeNo w) := by
  go_enter Tryd.func15, Tryd.ntmps15
  go_wp2_with fail
  refine h.mono ?_
  rintro en w1 ⟨o, T, v, rfl, hch1⟩
  go_wp2_with fail
  refine (leftI_no o T v w1).mono ?_
  rintro en w2 ⟨rfl, rfl⟩
  go_wp2_with fail
  go_ret3
  exact ⟨rfl, ((Ch.refl No w).alloc _).no_no hch1⟩
set_option maxRecDepth 100000 in
set_option maxHeartbeats 1000000 in
theorem getExt_ok (s : Value) (kd : Int) (x r : List Int) (w : World) (hx : x.length ≤ 35184372088832) (hl : r.length ≤ 35184372088832) (h : Calls Tryd.prog 26 #[s, .iface 68 (.pointer (some ⟨w.heap.size, 0, none⟩))] (w.alloc (.cells #[.slice none 0 0, .int .i8 kd] 70)) (ReOk w.heap.size kd x r (w.alloc (.cells #[.slice none 0 0, .int .i8 kd] 70)))) :
    Calls Tryd.prog 15 #[s, .int .i8 kd] w (GeOk x r w) := by
  go_enter Tryd.func15, Tryd.ntmps15
  go_wp2_with fail
  refine h.mono ?_
  rintro en w1 ⟨A1, c1, A2, c2, rfl, hrow1, h1, h3, h4, hch1⟩
  have C1 : Ch No w w1 := ((Ch.refl No w).alloc _).freshg hch1 (Nat.le_refl _)
  go_wp2_with fail
  refine (leftI_ok A2 c2 r w1 h3 hl).mono ?_
  rintro en w2 ⟨v2, rfl, ho2, hch2⟩
  have hrow2 := hrow1.keep0 hch2
  have c0 : w2.cell? ⟨w.heap.size, 0, none⟩ = some (.slice A1 x.length c1) := hrow2.cell 0 _ rfl
  go_wp2_with fail
  refine (copied_calls A1 c1 x w2 (h1.keep0 hch2) hx).mono ?_
  rintro en w3 ⟨v3, rfl, ho3, _, hch3⟩
  go_wp2_with fail
  go_ret3
  exact ⟨v3, v2, rfl, ho3, ho2.keep0 hch3, (C1.no_no hch2).no_no hch3⟩
end Go.Proofs.YtooifcdkpddlmaaDoor
