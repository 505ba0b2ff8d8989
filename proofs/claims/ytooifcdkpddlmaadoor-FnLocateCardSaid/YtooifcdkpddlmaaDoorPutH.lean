/- The walks of the reference's heads by kind, of the copy that a reader hands back, of the comparison. No condition. -/
import Derived.Test.YtooifcdkpddlmaaDoorFrmH
import Derived.Test.YtooifcdkpddlmaaDoorGetM
namespace Go.Proofs.YtooifcdkpddlmaaDoor
set_option linter.unusedVariables false
set_option linter.unusedSimpArgs false
open Go.RowKit

theorem conv_rd {w : World} {A : Option Addr} {c : Nat} {l : List Int} (h : Rd u8 w A l) : ∀ W : World, Ch No w W → (convert 24 9 (.slice A l.length c)).run Tryd.prog W = .ok (.string (strOfNums l)) W := by
  intro W hW
  have h := h.keep0 hW
  rcases Nat.eq_zero_or_pos l.length with h0 | h0
  · obtain rfl : l = [] := List.eq_nil_of_length_eq_zero h0
    cases A with
    | none => exact run_convert_bytes_nil W 24 5 Tryd.underlying24 Tryd.underlying5 0 c 9 Tryd.underlying9
    | some ad =>
      have hl : (loadCells ad 0).run Tryd.prog W = .ok (([] : List Int).map (Value.int .u8)).toArray W := by simpa using run_loadCells_list (P := Tryd.prog) W ad [] (by simp)
      have h1 := run_convert_bytes_string (P := Tryd.prog) W 24 9 5 (some ad) 0 c Tryd.underlying24 Tryd.underlying5 Tryd.underlying9
      rw [run_bytesToString W ad 0 c [] hl, foldl_push_bytes] at h1
      exact h1
  · obtain ⟨b, o, rfl, hc⟩ := h h0
    exact run_convert_bytes_arg W 24 5 Tryd.underlying24 Tryd.underlying5 b o l.length c l rfl (fun i hi => by
      rw [List.getD_eq_getElem?_getD, List.getElem?_eq_getElem hi]
      exact hc i _ (List.getElem?_eq_getElem hi)) 9 Tryd.underlying9
theorem left_calls (A1 A2 : Option Addr) (c1 c2 : Nat) (l : List Int) (w : World) (h1 : Rd u8 w A1 l) (h2 : Rd u8 w A2 l) :
    Calls Tryd.prog 8 #[.slice A1 l.length c1, .slice A2 l.length c2] w fun e w' => e = .returned (.bool true) ∧ Ch No w w' := by
  have hcon0 : ∀ nq, (convert 24 9 (.slice A1 l.length c1)).run Tryd.prog (w.drewN nq) = .ok (.string (strOfNums l)) (w.drewN nq) := fun nq => conv_rd h1 _ ((Ch.refl _ _).drewN _)
  have hcon1 : ∀ nq, (convert 24 9 (.slice A2 l.length c2)).run Tryd.prog (w.drewN nq) = .ok (.string (strOfNums l)) (w.drewN nq) := fun nq => conv_rd h2 _ ((Ch.refl _ _).drewN _)
  have hcon2 : (convert 24 9 (.slice A1 l.length c1)).run Tryd.prog w = .ok (.string (strOfNums l)) w := conv_rd h1 _ (Ch.refl _ _)
  have hcon3 : (convert 24 9 (.slice A2 l.length c2)).run Tryd.prog w = .ok (.string (strOfNums l)) w := conv_rd h2 _ (Ch.refl _ _)
  generalize l.length = m at hcon0 hcon1 hcon2 hcon3 ⊢
  go_enter Tryd.func8, Tryd.ntmps8
  go_wp2_with (go_quiet (fail))
  go_ret
  exact ⟨by simp, by repeat (first | exact Ch.refl _ _ | apply Ch.drewN | apply Ch.drew)⟩
def GmNo (w : World) (e : Ending) (w' : World) : Prop := e = .returned (.tuple #[.int .u32 0, .slice none 0 0, .bool false]) ∧ Ch No w w'
def GmOk (n : Int) (r : List Int) (w : World) (e : Ending) (w' : World) : Prop := ∃ v, e = .returned (.tuple #[.int .u32 n, v, .bool true]) ∧ Ow 5 u8 w' v r ∧ Ch No w w'
theorem getMap_no (s : Value) (w : World) (h : Calls Tryd.prog 17 #[s] w (RmNo w)) : Calls Tryd.prog 6 #[s] w (GmNo w) := by
  go_enter Tryd.func6, Tryd.ntmps6
  go_wp2_with fail
  refine h.mono ?_
  rintro e w1 ⟨T, v, rfl, hch1⟩
  go_wp2_with fail
  go_ret3
  exact ⟨rfl, hch1⟩
theorem getMap_ok (s : Value) (n : Int) (r : List Int) (w : World) (hl : r.length ≤ 35184372088832) (h : Calls Tryd.prog 17 #[s] w (RmOk n r w)) : Calls Tryd.prog 6 #[s] w (GmOk n r w) := by
  go_enter Tryd.func6, Tryd.ntmps6
  go_wp2_with fail
  refine h.mono ?_
  rintro e w1 ⟨A1, c1, rfl, hr1, hle, hch1⟩
  go_wp2_with fail
  refine (copied_calls A1 c1 r w1 hr1 hl).mono ?_
  rintro e w2 ⟨v2, rfl, ho2, _, hch2⟩
  go_wp2_with fail
  go_ret3
  exact ⟨v2, rfl, ho2, hch1.no_no hch2⟩
theorem RdK.lit (w : World) (e : TypeId) (fs : List (Int × Nat)) : RdK fmc (w.alloc (.cells (fs.flatMap fmc).toArray e)) (some ⟨w.heap.size, 0, none⟩) fs := fun _ =>
  ⟨_, rfl, fun j u hj => (Row.alloc w (fs.flatMap fmc) e).cell j u hj⟩
theorem HdTo.lift {pf : Nat} {fixed under : Int} {fs : List (Int × Nat)} {n : Int} {w w1 : World} {e : Ending} {w' : World} (hch : Ch No w w1) (h : HdTo pf fixed under fs n w1 e w') : HdTo pf fixed under fs n w e w' := by
  obtain ⟨v, d, rfl, h1, h2, h3, h4, h5⟩ := h
  exact ⟨v, d, rfl, h1, h2, h3.weak hch.size, h4, hch.no_then h5⟩
theorem okf_last (n : Int) (c : Int) (h0 : 0 ≤ n) (h1 : n < 4294967296) : okf n (c, 4) = true := by
  have h : n / 256 ^ 4 = 0 := Int.ediv_eq_zero_of_lt h0 (by omega)
  unfold okf
  rw [decide_eq_true h, Bool.or_true]
set_option maxRecDepth 100000 in
set_option maxHeartbeats 1000000 in
theorem head_8 (pf : Nat) (n : Int) (w : World) (hF : Fm w pf) (h0 : 0 ≤ n) (h1 : n < 4294967296) :
    Calls Tryd.prog 7 #[.int .i64 8, .int .u32 n, .pointer (some ⟨pf, 0, none⟩)] w (HdTo pf (144) 16 [(220, 2), (221, 4)] n w) := by
  have hwr : IntKind.i64.wrap n = n := by simp [IntKind.wrap, IntKind.bits, IntKind.signed]; omega
  have hput : ∀ w1, Ch No w w1 → RdK fmc w1 (some ⟨w.heap.size, 0, none⟩) [(220, 2), (221, 4)] → Calls Tryd.prog 19 #[.pointer (some ⟨pf, 0, none⟩), .int .i64 n, .int .i64 (144), .int .i64 16, .slice (some ⟨w.heap.size, 0, none⟩) 2 2] w1 (HdTo pf (144) 16 [(220, 2), (221, 4)] n w1) := fun w1 hch hrk =>
    putHead_calls pf n (144) 16 _ 2 [(220, 2), (221, 4)] w1 (hF.keep0 hch) hrk (fun ad h => by have := hF.lt; injection h with h; subst h; intro h; simp at h; omega) (by simp) (by simp) (by simp) h0 h1 ⟨(221, 4), by simp, okf_last n 221 h0 h1⟩ (by simp)
  go_enter Tryd.func7, Tryd.ntmps7
  go_wp2_with fail
  refine (hput _ ((Ch.refl No w).alloc _) (RdK.lit w 62 [(220, 2), (221, 4)])).mono ?_
  rintro e w1 hh
  obtain ⟨v, d, rfl, hg⟩ := hh.lift ((Ch.refl No w).alloc _)
  go_wp2_with fail
  go_ret
  exact ⟨v, d, rfl, hg⟩

set_option maxRecDepth 100000 in
set_option maxHeartbeats 1000000 in
theorem head_9 (pf : Nat) (n : Int) (w : World) (hF : Fm w pf) (h0 : 0 ≤ n) (h1 : n < 4294967296) :
    Calls Tryd.prog 7 #[.int .i64 9, .int .u32 n, .pointer (some ⟨pf, 0, none⟩)] w (HdTo pf (128) 16 [(222, 2), (223, 4)] n w) := by
  have hwr : IntKind.i64.wrap n = n := by simp [IntKind.wrap, IntKind.bits, IntKind.signed]; omega
  have hput : ∀ w1, Ch No w w1 → RdK fmc w1 (some ⟨w.heap.size, 0, none⟩) [(222, 2), (223, 4)] → Calls Tryd.prog 19 #[.pointer (some ⟨pf, 0, none⟩), .int .i64 n, .int .i64 (128), .int .i64 16, .slice (some ⟨w.heap.size, 0, none⟩) 2 2] w1 (HdTo pf (128) 16 [(222, 2), (223, 4)] n w1) := fun w1 hch hrk =>
    putHead_calls pf n (128) 16 _ 2 [(222, 2), (223, 4)] w1 (hF.keep0 hch) hrk (fun ad h => by have := hF.lt; injection h with h; subst h; intro h; simp at h; omega) (by simp) (by simp) (by simp) h0 h1 ⟨(223, 4), by simp, okf_last n 223 h0 h1⟩ (by simp)
  go_enter Tryd.func7, Tryd.ntmps7
  go_wp2_with fail
  refine (hput _ ((Ch.refl No w).alloc _) (RdK.lit w 62 [(222, 2), (223, 4)])).mono ?_
  rintro e w1 hh
  obtain ⟨v, d, rfl, hg⟩ := hh.lift ((Ch.refl No w).alloc _)
  go_wp2_with fail
  go_ret
  exact ⟨v, d, rfl, hg⟩

set_option maxRecDepth 100000 in
set_option maxHeartbeats 1000000 in
theorem head_7 (pf : Nat) (n : Int) (w : World) (hF : Fm w pf) (h0 : 0 ≤ n) (h1 : n < 4294967296) :
    Calls Tryd.prog 7 #[.int .i64 7, .int .u32 n, .pointer (some ⟨pf, 0, none⟩)] w (HdTo pf (-1) 0 [(196, 1), (197, 2), (198, 4)] n w) := by
  have hwr : IntKind.i64.wrap n = n := by simp [IntKind.wrap, IntKind.bits, IntKind.signed]; omega
  have hput : ∀ w1, Ch No w w1 → RdK fmc w1 (some ⟨w.heap.size, 0, none⟩) [(196, 1), (197, 2), (198, 4)] → Calls Tryd.prog 19 #[.pointer (some ⟨pf, 0, none⟩), .int .i64 n, .int .i64 (-1), .int .i64 0, .slice (some ⟨w.heap.size, 0, none⟩) 3 3] w1 (HdTo pf (-1) 0 [(196, 1), (197, 2), (198, 4)] n w1) := fun w1 hch hrk =>
    putHead_calls pf n (-1) 0 _ 3 [(196, 1), (197, 2), (198, 4)] w1 (hF.keep0 hch) hrk (fun ad h => by have := hF.lt; injection h with h; subst h; intro h; simp at h; omega) (by simp) (by simp) (by simp) h0 h1 ⟨(198, 4), by simp, okf_last n 198 h0 h1⟩ (by simp)
  go_enter Tryd.func7, Tryd.ntmps7
  go_wp2_with fail
  refine (hput _ ((Ch.refl No w).alloc _) (RdK.lit w 62 [(196, 1), (197, 2), (198, 4)])).mono ?_
  rintro e w1 hh
  obtain ⟨v, d, rfl, hg⟩ := hh.lift ((Ch.refl No w).alloc _)
  go_wp2_with fail
  go_ret
  exact ⟨v, d, rfl, hg⟩

set_option maxRecDepth 100000 in
set_option maxHeartbeats 1000000 in
theorem head_6 (pf : Nat) (n : Int) (w : World) (hF : Fm w pf) (h0 : 0 ≤ n) (h1 : n < 4294967296) :
    Calls Tryd.prog 7 #[.int .i64 6, .int .u32 n, .pointer (some ⟨pf, 0, none⟩)] w (HdTo pf (160) 32 [(217, 1), (218, 2), (219, 4)] n w) := by
  have hwr : IntKind.i64.wrap n = n := by simp [IntKind.wrap, IntKind.bits, IntKind.signed]; omega
  have hput : ∀ w1, Ch No w w1 → RdK fmc w1 (some ⟨w.heap.size, 0, none⟩) [(217, 1), (218, 2), (219, 4)] → Calls Tryd.prog 19 #[.pointer (some ⟨pf, 0, none⟩), .int .i64 n, .int .i64 (160), .int .i64 32, .slice (some ⟨w.heap.size, 0, none⟩) 3 3] w1 (HdTo pf (160) 32 [(217, 1), (218, 2), (219, 4)] n w1) := fun w1 hch hrk =>
    putHead_calls pf n (160) 32 _ 3 [(217, 1), (218, 2), (219, 4)] w1 (hF.keep0 hch) hrk (fun ad h => by have := hF.lt; injection h with h; subst h; intro h; simp at h; omega) (by simp) (by simp) (by simp) h0 h1 ⟨(219, 4), by simp, okf_last n 219 h0 h1⟩ (by simp)
  go_enter Tryd.func7, Tryd.ntmps7
  go_wp2_with fail
  refine (hput _ ((Ch.refl No w).alloc _) (RdK.lit w 62 [(217, 1), (218, 2), (219, 4)])).mono ?_
  rintro e w1 hh
  obtain ⟨v, d, rfl, hg⟩ := hh.lift ((Ch.refl No w).alloc _)
  go_wp2_with fail
  go_ret
  exact ⟨v, d, rfl, hg⟩


end Go.Proofs.YtooifcdkpddlmaaDoor
