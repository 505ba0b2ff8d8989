/- The walk of MessagePack's table of first bytes, its values told. No condition. -/
import Derived.Test.YtooifcdkpddlmaaDoorSkR
namespace Go.Proofs.YtooifcdkpddlmaaDoor
set_option linter.unusedVariables false
set_option linter.unusedSimpArgs false
open Go.RowKit

set_option maxRecDepth 100000 in
set_option maxHeartbeats 4000000 in
theorem calcE_calls (b : Int) (w : World) (h0 : 0 ≤ b) (h1 : b < 256) : Calls Tryd.prog 52 #[.int .u8 b] w (BsE b w) := by
  by_cases k192 : b = 192
  · subst k192
    go_enter Tryd.func52, Tryd.ntmps52
    go_wp2
    refine bodyPost_ret (v := .agg #[.int .u8 (1), .int .i8 (0), .int .u8 (10), .int .u8 0]) ?_ rfl ?_
    · simp [results, Tryd.results52, go_sem]
    exact BsE.mk' (by decide) ((Ch.refl No w).alloc _)
  have e192 : (b == 192) = false := beq_eq_false_iff_ne.2 k192
  clear k192
  by_cases k194 : b = 194
  · subst k194
    go_enter Tryd.func52, Tryd.ntmps52
    go_wp2
    refine bodyPost_ret (v := .agg #[.int .u8 (1), .int .i8 (0), .int .u8 (7), .int .u8 0]) ?_ rfl ?_
    · simp [results, Tryd.results52, go_sem]
    exact BsE.mk' (by decide) ((Ch.refl No w).alloc _)
  have e194 : (b == 194) = false := beq_eq_false_iff_ne.2 k194
  clear k194
  by_cases k195 : b = 195
  · subst k195
    go_enter Tryd.func52, Tryd.ntmps52
    go_wp2
    refine bodyPost_ret (v := .agg #[.int .u8 (1), .int .i8 (0), .int .u8 (7), .int .u8 0]) ?_ rfl ?_
    · simp [results, Tryd.results52, go_sem]
    exact BsE.mk' (by decide) ((Ch.refl No w).alloc _)
  have e195 : (b == 195) = false := beq_eq_false_iff_ne.2 k195
  clear k195
  by_cases k196 : b = 196
  · subst k196
    go_enter Tryd.func52, Tryd.ntmps52
    go_wp2
    refine bodyPost_ret (v := .agg #[.int .u8 (2), .int .i8 (-1), .int .u8 (2), .int .u8 0]) ?_ rfl ?_
    · simp [results, Tryd.results52, go_sem]
    exact BsE.mk' (by decide) ((Ch.refl No w).alloc _)
  have e196 : (b == 196) = false := beq_eq_false_iff_ne.2 k196
  clear k196
  by_cases k197 : b = 197
  · subst k197
    go_enter Tryd.func52, Tryd.ntmps52
    go_wp2
    refine bodyPost_ret (v := .agg #[.int .u8 (3), .int .i8 (-2), .int .u8 (2), .int .u8 0]) ?_ rfl ?_
    · simp [results, Tryd.results52, go_sem]
    exact BsE.mk' (by decide) ((Ch.refl No w).alloc _)
  have e197 : (b == 197) = false := beq_eq_false_iff_ne.2 k197
  clear k197
  by_cases k198 : b = 198
  · subst k198
    go_enter Tryd.func52, Tryd.ntmps52
    go_wp2
    refine bodyPost_ret (v := .agg #[.int .u8 (5), .int .i8 (-3), .int .u8 (2), .int .u8 0]) ?_ rfl ?_
    · simp [results, Tryd.results52, go_sem]
    exact BsE.mk' (by decide) ((Ch.refl No w).alloc _)
  have e198 : (b == 198) = false := beq_eq_false_iff_ne.2 k198
  clear k198
  by_cases k199 : b = 199
  · subst k199
    go_enter Tryd.func52, Tryd.ntmps52
    go_wp2
    refine bodyPost_ret (v := .agg #[.int .u8 (3), .int .i8 (-1), .int .u8 (12), .int .u8 0]) ?_ rfl ?_
    · simp [results, Tryd.results52, go_sem]
    exact BsE.mk' (by decide) ((Ch.refl No w).alloc _)
  have e199 : (b == 199) = false := beq_eq_false_iff_ne.2 k199
  clear k199
  by_cases k200 : b = 200
  · subst k200
    go_enter Tryd.func52, Tryd.ntmps52
    go_wp2
    refine bodyPost_ret (v := .agg #[.int .u8 (4), .int .i8 (-2), .int .u8 (12), .int .u8 0]) ?_ rfl ?_
    · simp [results, Tryd.results52, go_sem]
    exact BsE.mk' (by decide) ((Ch.refl No w).alloc _)
  have e200 : (b == 200) = false := beq_eq_false_iff_ne.2 k200
  clear k200
  by_cases k201 : b = 201
  · subst k201
    go_enter Tryd.func52, Tryd.ntmps52
    go_wp2
    refine bodyPost_ret (v := .agg #[.int .u8 (6), .int .i8 (-3), .int .u8 (12), .int .u8 0]) ?_ rfl ?_
    · simp [results, Tryd.results52, go_sem]
    exact BsE.mk' (by decide) ((Ch.refl No w).alloc _)
  have e201 : (b == 201) = false := beq_eq_false_iff_ne.2 k201
  clear k201
  by_cases k202 : b = 202
  · subst k202
    go_enter Tryd.func52, Tryd.ntmps52
    go_wp2
    refine bodyPost_ret (v := .agg #[.int .u8 (5), .int .i8 (0), .int .u8 (6), .int .u8 0]) ?_ rfl ?_
    · simp [results, Tryd.results52, go_sem]
    exact BsE.mk' (by decide) ((Ch.refl No w).alloc _)
  have e202 : (b == 202) = false := beq_eq_false_iff_ne.2 k202
  clear k202
  by_cases k203 : b = 203
  · subst k203
    go_enter Tryd.func52, Tryd.ntmps52
    go_wp2
    refine bodyPost_ret (v := .agg #[.int .u8 (9), .int .i8 (0), .int .u8 (5), .int .u8 0]) ?_ rfl ?_
    · simp [results, Tryd.results52, go_sem]
    exact BsE.mk' (by decide) ((Ch.refl No w).alloc _)
  have e203 : (b == 203) = false := beq_eq_false_iff_ne.2 k203
  clear k203
  by_cases k204 : b = 204
  · subst k204
    go_enter Tryd.func52, Tryd.ntmps52
    go_wp2
    refine bodyPost_ret (v := .agg #[.int .u8 (2), .int .i8 (0), .int .u8 (9), .int .u8 0]) ?_ rfl ?_
    · simp [results, Tryd.results52, go_sem]
    exact BsE.mk' (by decide) ((Ch.refl No w).alloc _)
  have e204 : (b == 204) = false := beq_eq_false_iff_ne.2 k204
  clear k204
  by_cases k205 : b = 205
  · subst k205
    go_enter Tryd.func52, Tryd.ntmps52
    go_wp2
    refine bodyPost_ret (v := .agg #[.int .u8 (3), .int .i8 (0), .int .u8 (9), .int .u8 0]) ?_ rfl ?_
    · simp [results, Tryd.results52, go_sem]
    exact BsE.mk' (by decide) ((Ch.refl No w).alloc _)
  have e205 : (b == 205) = false := beq_eq_false_iff_ne.2 k205
  clear k205
  by_cases k206 : b = 206
  · subst k206
    go_enter Tryd.func52, Tryd.ntmps52
    go_wp2
    refine bodyPost_ret (v := .agg #[.int .u8 (5), .int .i8 (0), .int .u8 (9), .int .u8 0]) ?_ rfl ?_
    · simp [results, Tryd.results52, go_sem]
    exact BsE.mk' (by decide) ((Ch.refl No w).alloc _)
  have e206 : (b == 206) = false := beq_eq_false_iff_ne.2 k206
  clear k206
  by_cases k207 : b = 207
  · subst k207
    go_enter Tryd.func52, Tryd.ntmps52
    go_wp2
    refine bodyPost_ret (v := .agg #[.int .u8 (9), .int .i8 (0), .int .u8 (9), .int .u8 0]) ?_ rfl ?_
    · simp [results, Tryd.results52, go_sem]
    exact BsE.mk' (by decide) ((Ch.refl No w).alloc _)
  have e207 : (b == 207) = false := beq_eq_false_iff_ne.2 k207
  clear k207
  by_cases k208 : b = 208
  · subst k208
    go_enter Tryd.func52, Tryd.ntmps52
    go_wp2
    refine bodyPost_ret (v := .agg #[.int .u8 (2), .int .i8 (0), .int .u8 (8), .int .u8 0]) ?_ rfl ?_
    · simp [results, Tryd.results52, go_sem]
    exact BsE.mk' (by decide) ((Ch.refl No w).alloc _)
  have e208 : (b == 208) = false := beq_eq_false_iff_ne.2 k208
  clear k208
  by_cases k209 : b = 209
  · subst k209
    go_enter Tryd.func52, Tryd.ntmps52
    go_wp2
    refine bodyPost_ret (v := .agg #[.int .u8 (3), .int .i8 (0), .int .u8 (8), .int .u8 0]) ?_ rfl ?_
    · simp [results, Tryd.results52, go_sem]
    exact BsE.mk' (by decide) ((Ch.refl No w).alloc _)
  have e209 : (b == 209) = false := beq_eq_false_iff_ne.2 k209
  clear k209
  by_cases k210 : b = 210
  · subst k210
    go_enter Tryd.func52, Tryd.ntmps52
    go_wp2
    refine bodyPost_ret (v := .agg #[.int .u8 (5), .int .i8 (0), .int .u8 (8), .int .u8 0]) ?_ rfl ?_
    · simp [results, Tryd.results52, go_sem]
    exact BsE.mk' (by decide) ((Ch.refl No w).alloc _)
  have e210 : (b == 210) = false := beq_eq_false_iff_ne.2 k210
  clear k210
  by_cases k211 : b = 211
  · subst k211
    go_enter Tryd.func52, Tryd.ntmps52
    go_wp2
    refine bodyPost_ret (v := .agg #[.int .u8 (9), .int .i8 (0), .int .u8 (8), .int .u8 0]) ?_ rfl ?_
    · simp [results, Tryd.results52, go_sem]
    exact BsE.mk' (by decide) ((Ch.refl No w).alloc _)
  have e211 : (b == 211) = false := beq_eq_false_iff_ne.2 k211
  clear k211
  by_cases k212 : b = 212
  · subst k212
    go_enter Tryd.func52, Tryd.ntmps52
    go_wp2
    refine bodyPost_ret (v := .agg #[.int .u8 (3), .int .i8 (0), .int .u8 (12), .int .u8 0]) ?_ rfl ?_
    · simp [results, Tryd.results52, go_sem]
    exact BsE.mk' (by decide) ((Ch.refl No w).alloc _)
  have e212 : (b == 212) = false := beq_eq_false_iff_ne.2 k212
  clear k212
  by_cases k213 : b = 213
  · subst k213
    go_enter Tryd.func52, Tryd.ntmps52
    go_wp2
    refine bodyPost_ret (v := .agg #[.int .u8 (4), .int .i8 (0), .int .u8 (12), .int .u8 0]) ?_ rfl ?_
    · simp [results, Tryd.results52, go_sem]
    exact BsE.mk' (by decide) ((Ch.refl No w).alloc _)
  have e213 : (b == 213) = false := beq_eq_false_iff_ne.2 k213
  clear k213
  by_cases k214 : b = 214
  · subst k214
    go_enter Tryd.func52, Tryd.ntmps52
    go_wp2
    refine bodyPost_ret (v := .agg #[.int .u8 (6), .int .i8 (0), .int .u8 (12), .int .u8 0]) ?_ rfl ?_
    · simp [results, Tryd.results52, go_sem]
    exact BsE.mk' (by decide) ((Ch.refl No w).alloc _)
  have e214 : (b == 214) = false := beq_eq_false_iff_ne.2 k214
  clear k214
  by_cases k215 : b = 215
  · subst k215
    go_enter Tryd.func52, Tryd.ntmps52
    go_wp2
    refine bodyPost_ret (v := .agg #[.int .u8 (10), .int .i8 (0), .int .u8 (12), .int .u8 0]) ?_ rfl ?_
    · simp [results, Tryd.results52, go_sem]
    exact BsE.mk' (by decide) ((Ch.refl No w).alloc _)
  have e215 : (b == 215) = false := beq_eq_false_iff_ne.2 k215
  clear k215
  by_cases k216 : b = 216
  · subst k216
    go_enter Tryd.func52, Tryd.ntmps52
    go_wp2
    refine bodyPost_ret (v := .agg #[.int .u8 (18), .int .i8 (0), .int .u8 (12), .int .u8 0]) ?_ rfl ?_
    · simp [results, Tryd.results52, go_sem]
    exact BsE.mk' (by decide) ((Ch.refl No w).alloc _)
  have e216 : (b == 216) = false := beq_eq_false_iff_ne.2 k216
  clear k216
  by_cases k217 : b = 217
  · subst k217
    go_enter Tryd.func52, Tryd.ntmps52
    go_wp2
    refine bodyPost_ret (v := .agg #[.int .u8 (2), .int .i8 (-1), .int .u8 (1), .int .u8 0]) ?_ rfl ?_
    · simp [results, Tryd.results52, go_sem]
    exact BsE.mk' (by decide) ((Ch.refl No w).alloc _)
  have e217 : (b == 217) = false := beq_eq_false_iff_ne.2 k217
  clear k217
  by_cases k218 : b = 218
  · subst k218
    go_enter Tryd.func52, Tryd.ntmps52
    go_wp2
    refine bodyPost_ret (v := .agg #[.int .u8 (3), .int .i8 (-2), .int .u8 (1), .int .u8 0]) ?_ rfl ?_
    · simp [results, Tryd.results52, go_sem]
    exact BsE.mk' (by decide) ((Ch.refl No w).alloc _)
  have e218 : (b == 218) = false := beq_eq_false_iff_ne.2 k218
  clear k218
  by_cases k219 : b = 219
  · subst k219
    go_enter Tryd.func52, Tryd.ntmps52
    go_wp2
    refine bodyPost_ret (v := .agg #[.int .u8 (5), .int .i8 (-3), .int .u8 (1), .int .u8 0]) ?_ rfl ?_
    · simp [results, Tryd.results52, go_sem]
    exact BsE.mk' (by decide) ((Ch.refl No w).alloc _)
  have e219 : (b == 219) = false := beq_eq_false_iff_ne.2 k219
  clear k219
  by_cases k220 : b = 220
  · subst k220
    go_enter Tryd.func52, Tryd.ntmps52
    go_wp2
    refine bodyPost_ret (v := .agg #[.int .u8 (3), .int .i8 (-6), .int .u8 (4), .int .u8 0]) ?_ rfl ?_
    · simp [results, Tryd.results52, go_sem]
    exact BsE.mk' (by decide) ((Ch.refl No w).alloc _)
  have e220 : (b == 220) = false := beq_eq_false_iff_ne.2 k220
  clear k220
  by_cases k221 : b = 221
  · subst k221
    go_enter Tryd.func52, Tryd.ntmps52
    go_wp2
    refine bodyPost_ret (v := .agg #[.int .u8 (5), .int .i8 (-7), .int .u8 (4), .int .u8 0]) ?_ rfl ?_
    · simp [results, Tryd.results52, go_sem]
    exact BsE.mk' (by decide) ((Ch.refl No w).alloc _)
  have e221 : (b == 221) = false := beq_eq_false_iff_ne.2 k221
  clear k221
  by_cases k222 : b = 222
  · subst k222
    go_enter Tryd.func52, Tryd.ntmps52
    go_wp2
    refine bodyPost_ret (v := .agg #[.int .u8 (3), .int .i8 (-4), .int .u8 (3), .int .u8 0]) ?_ rfl ?_
    · simp [results, Tryd.results52, go_sem]
    exact BsE.mk' (by decide) ((Ch.refl No w).alloc _)
  have e222 : (b == 222) = false := beq_eq_false_iff_ne.2 k222
  clear k222
  by_cases k223 : b = 223
  · subst k223
    go_enter Tryd.func52, Tryd.ntmps52
    go_wp2
    refine bodyPost_ret (v := .agg #[.int .u8 (5), .int .i8 (-5), .int .u8 (3), .int .u8 0]) ?_ rfl ?_
    · simp [results, Tryd.results52, go_sem]
    exact BsE.mk' (by decide) ((Ch.refl No w).alloc _)
  have e223 : (b == 223) = false := beq_eq_false_iff_ne.2 k223
  clear k223
  exact calcE_rest b w h0 h1 e192 e194 e195 e196 e197 e198 e199 e200 e201 e202 e203 e204 e205 e206 e207 e208 e209 e210 e211 e212 e213 e214 e215 e216 e217 e218 e219 e220 e221 e222 e223

end Go.Proofs.YtooifcdkpddlmaaDoor
