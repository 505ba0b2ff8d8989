/- The walk of MessagePack's table of first bytes, its values told: the ranges. No condition. -/
import Derived.Test.YtooifcdkpddlmaaDoorPutA
import Derived.BigQuiet
namespace Go.Proofs.YtooifcdkpddlmaaDoor
set_option linter.unusedVariables false
set_option linter.unusedSimpArgs false
open Go.RowKit

/-- Of a first byte: how many bytes are told by it alone, and how many values follow, or (below 0) where the number of either stands. -/
def bspec (b : Int) : Int × Int :=
  if b < 128 then (1, 0) else if b < 144 then (1, 2 * (b % 16)) else if b < 160 then (1, b % 16) else if b < 192 then (1 + b % 32, 0) else if 224 ≤ b then (1, 0) else
  if b = 192 then (1, 0) else if b = 194 then (1, 0) else if b = 195 then (1, 0) else if b = 196 then (2, -1) else if b = 197 then (3, -2) else if b = 198 then (5, -3) else if b = 199 then (3, -1) else if b = 200 then (4, -2) else if b = 201 then (6, -3) else if b = 202 then (5, 0) else if b = 203 then (9, 0) else if b = 204 then (2, 0) else if b = 205 then (3, 0) else if b = 206 then (5, 0) else if b = 207 then (9, 0) else if b = 208 then (2, 0) else if b = 209 then (3, 0) else if b = 210 then (5, 0) else if b = 211 then (9, 0) else if b = 212 then (3, 0) else if b = 213 then (4, 0) else if b = 214 then (6, 0) else if b = 215 then (10, 0) else if b = 216 then (18, 0) else if b = 217 then (2, -1) else if b = 218 then (3, -2) else if b = 219 then (5, -3) else if b = 220 then (3, -6) else if b = 221 then (5, -7) else if b = 222 then (3, -4) else if b = 223 then (5, -5) else (0, 0)

def BsE (b : Int) (w : World) (e : Ending) (w' : World) : Prop := ∃ z t : Int, e = .returned (.agg #[.int .u8 (bspec b).1, .int .i8 (bspec b).2, .int .u8 z, .int .u8 t]) ∧ Ch No w w'
theorem BsE.mk' {b x y z t : Int} {w w' : World} (h : bspec b = (x, y)) (hc : Ch No w w') : BsE b w (.returned (.agg #[.int .u8 x, .int .i8 y, .int .u8 z, .int .u8 t])) w' := ⟨z, t, by rw [h], hc⟩
theorem bspec_1 {b : Int} (h : b < 128) : bspec b = (1, 0) := by unfold bspec; rw [if_pos h]
theorem bspec_2 {b : Int} (h0 : 128 ≤ b) (h : b < 144) : bspec b = (1, 2 * (b % 16)) := by unfold bspec; rw [if_neg (by omega), if_pos h]
theorem bspec_3 {b : Int} (h0 : 144 ≤ b) (h : b < 160) : bspec b = (1, b % 16) := by unfold bspec; rw [if_neg (by omega), if_neg (by omega), if_pos h]
theorem bspec_4 {b : Int} (h0 : 160 ≤ b) (h : b < 192) : bspec b = (1 + b % 32, 0) := by unfold bspec; rw [if_neg (by omega), if_neg (by omega), if_neg (by omega), if_pos h]
theorem bspec_5 {b : Int} (h0 : 224 ≤ b) : bspec b = (1, 0) := by unfold bspec; rw [if_neg (by omega), if_neg (by omega), if_neg (by omega), if_neg (by omega), if_pos h0]
set_option maxRecDepth 100000 in
set_option maxHeartbeats 4000000 in
theorem calcE_rest (b : Int) (w : World) (h0 : 0 ≤ b) (h1 : b < 256) (e192 : (b == 192) = false) (e194 : (b == 194) = false) (e195 : (b == 195) = false) (e196 : (b == 196) = false) (e197 : (b == 197) = false) (e198 : (b == 198) = false) (e199 : (b == 199) = false) (e200 : (b == 200) = false) (e201 : (b == 201) = false) (e202 : (b == 202) = false) (e203 : (b == 203) = false) (e204 : (b == 204) = false) (e205 : (b == 205) = false) (e206 : (b == 206) = false) (e207 : (b == 207) = false) (e208 : (b == 208) = false) (e209 : (b == 209) = false) (e210 : (b == 210) = false) (e211 : (b == 211) = false) (e212 : (b == 212) = false) (e213 : (b == 213) = false) (e214 : (b == 214) = false) (e215 : (b == 215) = false) (e216 : (b == 216) = false) (e217 : (b == 217) = false) (e218 : (b == 218) = false) (e219 : (b == 219) = false) (e220 : (b == 220) = false) (e221 : (b == 221) = false) (e222 : (b == 222) = false) (e223 : (b == 223) = false) : Calls Tryd.prog 52 #[.int .u8 b] w (BsE b w) := by
  by_cases r1 : b < 128
  ·
    have f1 : decide (b < 128) = true := decide_eq_true r1
    go_enter Tryd.func52, Tryd.ntmps52
    go_wp2
    refine bodyPost_ret (v := .agg #[.int .u8 (1), .int .i8 (0), .int .u8 (8), .int .u8 0]) ?_ rfl ?_
    · simp [results, Tryd.results52, go_sem]
    exact BsE.mk' (bspec_1 r1) (by repeat (first | exact Ch.refl _ _ | apply Ch.alloc | apply Ch.drew))
  have f1 : decide (b < 128) = false := decide_eq_false r1
  by_cases r2 : 160 ≤ b ∧ b < 192
  · obtain ⟨r2, r3⟩ := r2
    have f2 : decide (160 ≤ b) = true := decide_eq_true r2
    have f3 : decide (b < 192) = true := decide_eq_true r3
    go_enter Tryd.func52, Tryd.ntmps52
    go_wp2
    refine bodyPost_ret (v := .agg #[.int .u8 (1 + b % 32), .int .i8 (0), .int .u8 (1), .int .u8 0]) ?_ rfl ?_
    · simp [results, Tryd.results52, go_sem]
    exact BsE.mk' (bspec_4 r2 r3) (by repeat (first | exact Ch.refl _ _ | apply Ch.alloc | apply Ch.drew))
  have g2 : decide (160 ≤ b) = true ∧ decide (b < 192) = false ∨ decide (160 ≤ b) = false := by
    by_cases h : 160 ≤ b
    · exact .inl ⟨decide_eq_true h, decide_eq_false (by omega)⟩
    · exact .inr (decide_eq_false h)
  by_cases r4 : 128 ≤ b ∧ b < 144
  · obtain ⟨r4, r5⟩ := r4
    have f2 : decide (160 ≤ b) = false := decide_eq_false (by omega)
    have f3 : decide (128 ≤ b) = true := decide_eq_true r4
    have f4 : decide (b < 144) = true := decide_eq_true r5
    go_enter Tryd.func52, Tryd.ntmps52
    go_wp2
    refine bodyPost_ret (v := .agg #[.int .u8 (1), .int .i8 (2 * (b % 16)), .int .u8 (3), .int .u8 0]) ?_ rfl ?_
    · simp [results, Tryd.results52, go_sem]
    exact BsE.mk' (bspec_2 r4 r5) (by repeat (first | exact Ch.refl _ _ | apply Ch.alloc | apply Ch.drew))
  by_cases r6 : 144 ≤ b ∧ b < 160
  · obtain ⟨r6, r7⟩ := r6
    have f2 : decide (160 ≤ b) = false := decide_eq_false (by omega)
    have f3 : decide (128 ≤ b) = true := decide_eq_true (by omega)
    have f4 : decide (b < 144) = false := decide_eq_false (by omega)
    have f5 : decide (144 ≤ b) = true := decide_eq_true r6
    have f6 : decide (b < 160) = true := decide_eq_true r7
    go_enter Tryd.func52, Tryd.ntmps52
    go_wp2
    refine bodyPost_ret (v := .agg #[.int .u8 (1), .int .i8 (b % 16), .int .u8 (4), .int .u8 0]) ?_ rfl ?_
    · simp [results, Tryd.results52, go_sem]
    exact BsE.mk' (bspec_3 r6 r7) (by repeat (first | exact Ch.refl _ _ | apply Ch.alloc | apply Ch.drew))
  have HZ : 224 ≤ b ∨ Hid (bspec b = (0, 0)) := by
    by_cases h : 224 ≤ b
    · exact .inl h
    · refine .inr ?_
      show bspec b = (0, 0)
      unfold bspec
      rw [if_neg (by omega), if_neg (by omega), if_neg (by omega), if_neg (by omega), if_neg (by omega)]
      rw [if_neg (beq_eq_false_iff_ne.1 e192), if_neg (beq_eq_false_iff_ne.1 e194), if_neg (beq_eq_false_iff_ne.1 e195), if_neg (beq_eq_false_iff_ne.1 e196), if_neg (beq_eq_false_iff_ne.1 e197), if_neg (beq_eq_false_iff_ne.1 e198), if_neg (beq_eq_false_iff_ne.1 e199), if_neg (beq_eq_false_iff_ne.1 e200), if_neg (beq_eq_false_iff_ne.1 e201), if_neg (beq_eq_false_iff_ne.1 e202), if_neg (beq_eq_false_iff_ne.1 e203), if_neg (beq_eq_false_iff_ne.1 e204), if_neg (beq_eq_false_iff_ne.1 e205), if_neg (beq_eq_false_iff_ne.1 e206), if_neg (beq_eq_false_iff_ne.1 e207), if_neg (beq_eq_false_iff_ne.1 e208), if_neg (beq_eq_false_iff_ne.1 e209), if_neg (beq_eq_false_iff_ne.1 e210), if_neg (beq_eq_false_iff_ne.1 e211), if_neg (beq_eq_false_iff_ne.1 e212), if_neg (beq_eq_false_iff_ne.1 e213), if_neg (beq_eq_false_iff_ne.1 e214), if_neg (beq_eq_false_iff_ne.1 e215), if_neg (beq_eq_false_iff_ne.1 e216), if_neg (beq_eq_false_iff_ne.1 e217), if_neg (beq_eq_false_iff_ne.1 e218), if_neg (beq_eq_false_iff_ne.1 e219), if_neg (beq_eq_false_iff_ne.1 e220), if_neg (beq_eq_false_iff_ne.1 e221), if_neg (beq_eq_false_iff_ne.1 e222), if_neg (beq_eq_false_iff_ne.1 e223)]
  by_cases r8 : 224 ≤ b
  ·
    have f2 : decide (160 ≤ b) = true := decide_eq_true (by omega)
    have f2b : decide (b < 192) = false := decide_eq_false (by omega)
    have f3 : decide (128 ≤ b) = true := decide_eq_true (by omega)
    have f4 : decide (b < 144) = false := decide_eq_false (by omega)
    have f5 : decide (144 ≤ b) = true := decide_eq_true (by omega)
    have f6 : decide (b < 160) = false := decide_eq_false (by omega)
    have f7 : decide (224 ≤ b) = true := decide_eq_true r8
    have f8 : decide (b < 256) = true := decide_eq_true h1
    go_enter Tryd.func52, Tryd.ntmps52
    go_wp2
    refine bodyPost_ret (v := .agg #[.int .u8 (1), .int .i8 (0), .int .u8 (8), .int .u8 0]) ?_ rfl ?_
    · simp [results, Tryd.results52, go_sem]
    exact BsE.mk' (bspec_5 r8) (by repeat (first | exact Ch.refl _ _ | apply Ch.alloc | apply Ch.drew))
  ·
    have f2 : decide (160 ≤ b) = true := decide_eq_true (by omega)
    have f2b : decide (b < 192) = false := decide_eq_false (by omega)
    have f3 : decide (128 ≤ b) = true := decide_eq_true (by omega)
    have f4 : decide (b < 144) = false := decide_eq_false (by omega)
    have f5 : decide (144 ≤ b) = true := decide_eq_true (by omega)
    have f6 : decide (b < 160) = false := decide_eq_false (by omega)
    have f7 : decide (224 ≤ b) = false := decide_eq_false r8
    go_enter Tryd.func52, Tryd.ntmps52
    go_wp2
    refine bodyPost_ret (v := .agg #[.int .u8 (0), .int .i8 (0), .int .u8 (0), .int .u8 0]) ?_ rfl ?_
    · simp [results, Tryd.results52, go_sem]
    exact BsE.mk' ((HZ.resolve_left (by omega)).out) (by repeat (first | exact Ch.refl _ _ | apply Ch.alloc | apply Ch.drew))

end Go.Proofs.YtooifcdkpddlmaaDoor
