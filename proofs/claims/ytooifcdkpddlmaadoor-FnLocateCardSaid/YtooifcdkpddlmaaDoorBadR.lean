/- The walk of MessagePack's table of first bytes: the ranges. No condition. -/
import Derived.Test.YtooifcdkpddlmaaDoorPutA
import Derived.BigQuiet
namespace Go.Proofs.YtooifcdkpddlmaaDoor
set_option linter.unusedVariables false
set_option linter.unusedSimpArgs false
open Go.RowKit

def BsTo (w : World) (e : Ending) (w' : World) : Prop := ∃ x y z t : Int, e = .returned (.agg #[.int .u8 x, .int .i8 y, .int .u8 z, .int .u8 t]) ∧ Ch No w w'
set_option maxRecDepth 100000 in
set_option maxHeartbeats 4000000 in
theorem calc_rest (b : Int) (w : World) (h0 : 0 ≤ b) (h1 : b < 256) (e192 : (b == 192) = false) (e194 : (b == 194) = false) (e195 : (b == 195) = false) (e196 : (b == 196) = false) (e197 : (b == 197) = false) (e198 : (b == 198) = false) (e199 : (b == 199) = false) (e200 : (b == 200) = false) (e201 : (b == 201) = false) (e202 : (b == 202) = false) (e203 : (b == 203) = false) (e204 : (b == 204) = false) (e205 : (b == 205) = false) (e206 : (b == 206) = false) (e207 : (b == 207) = false) (e208 : (b == 208) = false) (e209 : (b == 209) = false) (e210 : (b == 210) = false) (e211 : (b == 211) = false) (e212 : (b == 212) = false) (e213 : (b == 213) = false) (e214 : (b == 214) = false) (e215 : (b == 215) = false) (e216 : (b == 216) = false) (e217 : (b == 217) = false) (e218 : (b == 218) = false) (e219 : (b == 219) = false) (e220 : (b == 220) = false) (e221 : (b == 221) = false) (e222 : (b == 222) = false) (e223 : (b == 223) = false) : Calls Tryd.prog 52 #[.int .u8 b] w (BsTo w) := by
  by_cases r1 : b < 128
  ·
    have f1 : decide (b < 128) = true := decide_eq_true r1
    go_enter Tryd.func52, Tryd.ntmps52
    go_wp2
    refine bodyPost_ret (v := .agg #[.int .u8 (1), .int .i8 (0), .int .u8 (8), .int .u8 0]) ?_ rfl ?_
    · simp [results, Tryd.results52, go_sem]
    exact ⟨_, _, _, _, rfl, by repeat (first | exact Ch.refl _ _ | apply Ch.alloc | apply Ch.drew)⟩
  have f1 : decide (b < 128) = false := decide_eq_false r1
  by_cases r2 : 160 ≤ b ∧ b < 192
  · obtain ⟨r2, r3⟩ := r2
    have f2 : decide (160 ≤ b) = true := decide_eq_true r2
    have f3 : decide (b < 192) = true := decide_eq_true r3
    go_enter Tryd.func52, Tryd.ntmps52
    go_wp2
    refine bodyPost_ret (v := .agg #[.int .u8 (1 + b % 32), .int .i8 (0), .int .u8 (1), .int .u8 0]) ?_ rfl ?_
    · simp [results, Tryd.results52, go_sem]
    exact ⟨_, _, _, _, rfl, by repeat (first | exact Ch.refl _ _ | apply Ch.alloc | apply Ch.drew)⟩
  have g2 : decide (160 ≤ b) = true ∧ decide (b < 192) = false ∨ decide (160 ≤ b) = false := by
    by_cases h : 160 ≤ b
    · exact .inl ⟨decide_eq_true h, decide_eq_false (by omega)⟩
    · exact .inr (decide_eq_false h)
  by_cases r4 : 128 ≤ b ∧ b < 144
  · obtain ⟨r4, r5⟩ := r4
    have f2 : decide (160 ≤ b) = false := decide_eq_false (by omega)
    have f3 : decide (128 ≤ b) = true := decide_eq_true r4
    have f4 : decide (b < 144) = true := decide_eq_true r5
    go_enter Tryd.func52, Tryd.ntmps52
    go_wp2
    refine bodyPost_ret (v := .agg #[.int .u8 (1), .int .i8 (2 * (b % 16)), .int .u8 (3), .int .u8 0]) ?_ rfl ?_
    · simp [results, Tryd.results52, go_sem]
    exact ⟨_, _, _, _, rfl, by repeat (first | exact Ch.refl _ _ | apply Ch.alloc | apply Ch.drew)⟩
  by_cases r6 : 144 ≤ b ∧ b < 160
  · obtain ⟨r6, r7⟩ := r6
    have f2 : decide (160 ≤ b) = false := decide_eq_false (by omega)
    have f3 : decide (128 ≤ b) = true := decide_eq_true (by omega)
    have f4 : decide (b < 144) = false := decide_eq_false (by omega)
    have f5 : decide (144 ≤ b) = true := decide_eq_true r6
    have f6 : decide (b < 160) = true := decide_eq_true r7
    go_enter Tryd.func52, Tryd.ntmps52
    go_wp2
    refine bodyPost_ret (v := .agg #[.int .u8 (1), .int .i8 (b % 16), .int .u8 (4), .int .u8 0]) ?_ rfl ?_
    · simp [results, Tryd.results52, go_sem]
    exact ⟨_, _, _, _, rfl, by repeat (first | exact Ch.refl _ _ | apply Ch.alloc | apply Ch.drew)⟩
  by_cases r8 : 224 ≤ b
  ·
    have f2 : decide (160 ≤ b) = true := decide_eq_true (by omega)
    have f2b : decide (b < 192) = false := decide_eq_false (by omega)
    have f3 : decide (128 ≤ b) = true := decide_eq_true (by omega)
    have f4 : decide (b < 144) = false := decide_eq_false (by omega)
    have f5 : decide (144 ≤ b) = true := decide_eq_true (by omega)
    have f6 : decide (b < 160) = false := decide_eq_false (by omega)
    have f7 : decide (224 ≤ b) = true := decide_eq_true r8
    have f8 : decide (b < 256) = true := decide_eq_true h1
    go_enter Tryd.func52, Tryd.ntmps52
    go_wp2
    refine bodyPost_ret (v := .agg #[.int .u8 (1), .int .i8 (0), .int .u8 (8), .int .u8 0]) ?_ rfl ?_
    · simp [results, Tryd.results52, go_sem]
    exact ⟨_, _, _, _, rfl, by repeat (first | exact Ch.refl _ _ | apply Ch.alloc | apply Ch.drew)⟩
  ·
    have f2 : decide (160 ≤ b) = true := decide_eq_true (by omega)
    have f2b : decide (b < 192) = false := decide_eq_false (by omega)
    have f3 : decide (128 ≤ b) = true := decide_eq_true (by omega)
    have f4 : decide (b < 144) = false := decide_eq_false (by omega)
    have f5 : decide (144 ≤ b) = true := decide_eq_true (by omega)
    have f6 : decide (b < 160) = false := decide_eq_false (by omega)
    have f7 : decide (224 ≤ b) = false := decide_eq_false r8
    go_enter Tryd.func52, Tryd.ntmps52
    go_wp2
    refine bodyPost_ret (v := .agg #[.int .u8 (0), .int .i8 (0), .int .u8 (0), .int .u8 0]) ?_ rfl ?_
    · simp [results, Tryd.results52, go_sem]
    exact ⟨_, _, _, _, rfl, by repeat (first | exact Ch.refl _ _ | apply Ch.alloc | apply Ch.drew)⟩

end Go.Proofs.YtooifcdkpddlmaaDoor
