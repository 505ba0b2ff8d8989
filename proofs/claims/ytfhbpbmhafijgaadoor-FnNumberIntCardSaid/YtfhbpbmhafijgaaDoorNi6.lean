/- The walks of the law's own functions: what a float is, whether it is a whole number. No condition. -/
import Derived.Test.YtfhbpbmhafijgaaDoorNi5
namespace Go.Proofs.YtfhbpbmhafijgaaDoor
set_option linter.unusedVariables false
set_option linter.unusedSimpArgs false
open Go.RowKit

section
variable {P : Program} {ops : Array Oper} {Q : Exit → Act → World → Prop} {o : Oper} {rest : List Oper} {a : Act} {w : World}
/-- float64(x) of a float of 32 bits at the operation. -/
theorem wp_conv_ff (hgd : o.guard = none) (s d : TypeId) (x : Operand) (ho : o.op = .convert s d x) (hs : P.underlying s = some (.float .f32)) (hd : P.underlying d = some (.float .f64)) (b : Nat) (hx : a.eval x = .float .f32 b)
    (hb : (∃ r, floatToFloatBits .f32 b .f64 = some r) ∨ ∃ t q, Ieee.single.read b = .nan t q)
    (h : ∀ r w1, (∀ v, floatToFloatBits .f32 b .f64 = some v → r = v) → (floatToFloatBits .f32 b .f64 = none → ∀ y, Ieee.double.order r y = none) → Ch No w w1 → wpList P ops Q rest (a.put o.dst (.float .f64 r)) w1) :
    wpList P ops Q (o :: rest) a w := by
  have key : ∃ r w1, (convert s d (.float .f32 b)).run P w = .ok (.float .f64 r) w1 ∧ (∀ v, floatToFloatBits .f32 b .f64 = some v → r = v) ∧ (floatToFloatBits .f32 b .f64 = none → ∀ y, Ieee.double.order r y = none) ∧ Ch No w w1 := by
    cases hv : floatToFloatBits .f32 b .f64 with
    | some v => exact ⟨v, w, run_convert_float_float w s d .f32 .f64 b v (by rw [hs]; rfl) hd hv, fun v' h' => Option.some.inj h', fun h' => absurd h' (by simp), Ch.refl _ _⟩
    | none =>
      obtain ⟨t, q, hn⟩ : ∃ t q, Ieee.single.read b = .nan t q := by
        rcases hb with ⟨r, hr⟩ | h
        · rw [hv] at hr; cases hr
        · exact h
      have hne : Conv.floatToFloat .f32 b .f64 = (do pure (.float .f64 (← choose (.nanConv .f64 b)))) := by
        unfold Conv.floatToFloat
        rw [if_neg (by decide), show FloatKind.decode .f32 b = .nan t q from hn]
      have hask : (convert s d (.float .f32 b)).run P w = .ok (.float .f64 ((Question.nanConv .f64 b).cut (w.tape w.drawn (Question.nanConv .f64 b)))) w.drew := by
        simp [convert, run_underlying hs, run_underlying hd, hne, Question.forced]
      refine ⟨(Question.nanConv .f64 b).cut (w.tape w.drawn (Question.nanConv .f64 b)), w.drew, hask, fun v' h' => absurd h' (by simp), fun _ => told_nan _ _ _ (asked_nan _), (Ch.refl _ _).drew⟩
  obtain ⟨n, w1, hr, h1, h2, h3⟩ := key
  refine wpList_plain hgd fun K hK => ?_
  unfold Oper.wp execOp
  simp only [ho, Sem.run_bind, Sem.run_pure, Result.andThen_ok, hx, hr]
  exact hK _ _ (h n w1 h1 h2 h3)
end

/-- What Whole62 tells of a float. -/
def WhTo (x : Nat) (W : Prop) (Q : Int → Prop) (w : World) (e : Ending) (w' : World) : Prop :=
  ∃ (n : Int) (is edge : Bool), e = .returned (.tuple #[.int .i64 n, .bool is, .bool edge]) ∧ Ch No w w' ∧ (edge = true ∨ (edge = false ∧ (is = true ↔ W) ∧ (W → floatToIntVal .f64 x .i64 = some n ∧ Q n)))
set_option maxRecDepth 100000 in
set_option maxHeartbeats 1000000 in
theorem whole62_calls (x : Nat) (W : Prop) (Q : Int → Prop) (w : World) (h : Told x W Q) : Calls Tryd.prog 6 #[.float .f64 x] w (WhTo x W Q w) := by
  rcases h with ⟨h1, h2⟩ | ⟨h1, h2⟩ | ⟨h1, h2, h3, n, n1, n2, hv, ho, hq⟩
  · have e1 : FloatKind.f64.format.order x x = none := h1 x
    go_enter Tryd.func6, Tryd.ntmps6
    go_wp2_with (go_quiet (fail))
    go_ret3
    exact ⟨_, _, _, rfl, Ch.refl _ _, .inr ⟨by simp, by simp [h2], fun h => absurd h h2⟩⟩
  · have e1 : FloatKind.f64.format.order x x = some .eq := h1
    rcases h2 with h2 | h2
    · have e2 : FloatKind.f64.format.order x 4886405595696988160 = some .gt := h2
      go_enter Tryd.func6, Tryd.ntmps6
      go_wp2_with (go_quiet (fail))
      go_ret3
      exact ⟨_, _, _, rfl, Ch.refl _ _, .inl (by simp)⟩
    · have e2 : FloatKind.f64.format.order x 14109777632551763968 = some .lt := h2
      obtain ⟨l, hl⟩ : ∃ l : Bool, (FloatKind.f64.format.order x 4886405595696988160 == some .gt) = l := ⟨_, rfl⟩
      cases l
      all_goals
        go_enter Tryd.func6, Tryd.ntmps6
        go_wp2_with (go_quiet (fail))
        go_ret3
        exact ⟨_, _, _, rfl, Ch.refl _ _, .inl (by simp)⟩
  · have e1 : FloatKind.f64.format.order x x = some .eq := h1
    have e2 : (FloatKind.f64.format.order x 4886405595696988160 == some .gt) = false := beq_eq_false_iff_ne.2 h2
    have e3 : (FloatKind.f64.format.order x 14109777632551763968 == some .lt) = false := beq_eq_false_iff_ne.2 h3
    have hc : ∀ w, (convert 32 2 (.float .f64 x)).run Tryd.prog w = .ok (.int .i64 n) w := fun w => run_convert_float_int w 32 2 .f64 .i64 x n (by rw [Tryd.underlying32]; rfl) Tryd.underlying2 hv
    have hd : ∀ w, (convert 2 32 (.int .i64 n)).run Tryd.prog w = .ok (.float .f64 (FloatKind.f64.nearest n)) w := fun w => run_convert_int_float w 2 32 .i64 .f64 n (by rw [Tryd.underlying2]; rfl) Tryd.underlying32
    have ho' : (FloatKind.f64.format.order (FloatKind.f64.nearest n) x == some .eq) = true ↔ W := by rw [beq_iff_eq]; exact ho
    generalize FloatKind.f64.nearest n = y at *
    obtain ⟨is, hy⟩ : ∃ is, (FloatKind.f64.format.order y x == some .eq) = is := ⟨_, rfl⟩
    rw [hy] at ho'
    have HO := hid ho'
    clear ho' ho
    go_enter Tryd.func6, Tryd.ntmps6
    go_wp2_with (first | go_quiet (fail) | simp only [hc] | simp only [hd])
    go_ret3
    exact ⟨_, _, _, rfl, Ch.refl _ _, .inr ⟨rfl, HO.out, fun _ => ⟨hv, hq⟩⟩⟩

/-- A float of the law's own: kinds 2 and 3. -/
theorem value3 (b : Nat) (w : World) : Calls Tryd.prog 7 #[.int .i64 3, .int .u64 b] w fun e w' => e = .returned (.float .f64 b) ∧ Ch No w w' := by
  have hfb := float64frombits_run b
  rw [Int.toNat_natCast] at hfb
  go_enter Tryd.func7, Tryd.ntmps7
  go_wp2_with fail
  go_ret
  exact ⟨rfl, Ch.refl _ _⟩
theorem value2 (b : Nat) (hb : b < 2 ^ 32) (w : World) : Calls Tryd.prog 7 #[.int .i64 2, .int .u64 b] w fun e w' => ∃ r, e = .returned (.float .f64 r) ∧ Ch No w w' ∧ (∀ v, floatToFloatBits .f32 b .f64 = some v → r = v) ∧ (floatToFloatBits .f32 b .f64 = none → ∀ y, Ieee.double.order r y = none) := by
  have hfb := float32frombits_run b
  rw [Int.toNat_natCast] at hfb
  have hb1 : (b : Int) < 4294967296 := by have : b < 4294967296 := hb; omega
  have hb0 : (0 : Int) ≤ b := by omega
  have hor : (∃ r, floatToFloatBits .f32 b .f64 = some r) ∨ ∃ t q, Ieee.single.read b = .nan t q := by
    rcases told32 b hb with ⟨_, _, h, _⟩ | ⟨x, h, _⟩
    · exact .inr h
    · exact .inl ⟨x, h⟩
  have HO := hid hor
  clear hor hb
  go_enter Tryd.func7, Tryd.ntmps7
  go_wp2_with ((with_reducible refine gate (.convert 40 32 _) rfl ?_); refine wp_conv_ff rfl 40 32 _ rfl Tryd.underlying40 Tryd.underlying32 b rfl HO.out ?_; intro r w1 h1 h2 hch; have HH := hid (And.intro h1 h2); clear h1 h2)
  go_ret
  exact ⟨r, rfl, hch, HH.out.1, HH.out.2⟩
/-- Which numbers there are. -/
def NoTo (b : Bool) (w : World) (e : Ending) (w' : World) : Prop := ∃ v0 v1 v2 v3 v4 : Value, e = .returned (.tuple #[.agg #[v0, v1, v2, v3, v4], .bool b]) ∧ (∀ q ∈ [v0, v1, v2, v3, v4], q.oneCell' = true) ∧ Ch No w w'
theorem size_pk : (Tryd.prog.info? 27).map (·.size) = some 5 := by kernel_rfl
abbrev ZL : List Value := [.int .i64 0, .int .u64 0, .string ⟨#[]⟩, .int .i64 0, .slice none 0 0]
set_option maxRecDepth 100000 in
set_option maxHeartbeats 1000000 in
theorem numberOf0 (z : Int) (w : World)  : Calls Tryd.prog 5 #[.int .i64 0, .int .u64 z] w (NoTo true w) := by
  have hR := Row.alloc w ZL 27
  go_enter Tryd.func5, Tryd.ntmps5
  go_wp2_with (first | go_quiet (fail) | ((with_reducible refine gate (.store 27 (.tmp 4) _) rfl ?_); refine wp_store rfl rfl 27 _ _ rfl w.heap.size 0 27 ZL (.agg #[.int .i64 2, .int .u64 z, .string ⟨#[]⟩, .int .i64 0, .slice none 0 0]) rfl rfl [.int .i64 2, .int .u64 z, .string ⟨#[]⟩, .int .i64 0, .slice none 0 0] rfl size_pk (by simp [Value.oneCell']) (hR.keep0 ((Ch.refl No (w.alloc (.cells ZL.toArray 27))).alloc _)) (by simp) ?_; intro w1 hrow hch))
  have d0 := hrow.cell 0 _ rfl
  have d1 := hrow.cell 1 _ rfl
  have d2 := hrow.cell 2 _ rfl
  have d3 := hrow.cell 3 _ rfl
  have d4 := hrow.cell 4 _ rfl
  refine bodyPost_ret (v := .tuple #[.agg #[.int .i64 2, .int .u64 z, .string ⟨#[]⟩, .int .i64 0, .slice none 0 0], .bool true]) ?_ rfl ?_
  · simp [results, Tryd.results5, go_sem, d0, d1, d2, d3, d4]
  exact ⟨_, _, _, _, _, rfl, by simp [Value.oneCell'], (((Ch.refl No w).alloc _).alloc _).freshg hch (Nat.le_refl _)⟩
set_option maxRecDepth 100000 in
set_option maxHeartbeats 1000000 in
theorem numberOf1 (z : Int) (w : World)  : Calls Tryd.prog 5 #[.int .i64 1, .int .u64 z] w (NoTo true w) := by
  have hR := Row.alloc w ZL 27
  go_enter Tryd.func5, Tryd.ntmps5
  go_wp2_with (first | go_quiet (fail) | ((with_reducible refine gate (.store 27 (.tmp 4) _) rfl ?_); refine wp_store rfl rfl 27 _ _ rfl w.heap.size 0 27 ZL (.agg #[.int .i64 3, .int .u64 z, .string ⟨#[]⟩, .int .i64 0, .slice none 0 0]) rfl rfl [.int .i64 3, .int .u64 z, .string ⟨#[]⟩, .int .i64 0, .slice none 0 0] rfl size_pk (by simp [Value.oneCell']) (hR.keep0 ((Ch.refl No (w.alloc (.cells ZL.toArray 27))).alloc _)) (by simp) ?_; intro w1 hrow hch))
  have d0 := hrow.cell 0 _ rfl
  have d1 := hrow.cell 1 _ rfl
  have d2 := hrow.cell 2 _ rfl
  have d3 := hrow.cell 3 _ rfl
  have d4 := hrow.cell 4 _ rfl
  refine bodyPost_ret (v := .tuple #[.agg #[.int .i64 3, .int .u64 z, .string ⟨#[]⟩, .int .i64 0, .slice none 0 0], .bool true]) ?_ rfl ?_
  · simp [results, Tryd.results5, go_sem, d0, d1, d2, d3, d4]
  exact ⟨_, _, _, _, _, rfl, by simp [Value.oneCell'], (((Ch.refl No w).alloc _).alloc _).freshg hch (Nat.le_refl _)⟩
set_option maxRecDepth 100000 in
set_option maxHeartbeats 1000000 in
theorem numberOf3 (z : Int) (w : World)  : Calls Tryd.prog 5 #[.int .i64 3, .int .u64 z] w (NoTo true w) := by
  have hR := Row.alloc w ZL 27
  go_enter Tryd.func5, Tryd.ntmps5
  go_wp2_with (first | go_quiet (fail) | ((with_reducible refine gate (.store 27 (.tmp 4) _) rfl ?_); refine wp_store rfl rfl 27 _ _ rfl w.heap.size 0 27 ZL (.agg #[.int .i64 5, .int .u64 z, .string ⟨#[]⟩, .int .i64 0, .slice none 0 0]) rfl rfl [.int .i64 5, .int .u64 z, .string ⟨#[]⟩, .int .i64 0, .slice none 0 0] rfl size_pk (by simp [Value.oneCell']) (hR.keep0 ((Ch.refl No (w.alloc (.cells ZL.toArray 27))).alloc _)) (by simp) ?_; intro w1 hrow hch))
  have d0 := hrow.cell 0 _ rfl
  have d1 := hrow.cell 1 _ rfl
  have d2 := hrow.cell 2 _ rfl
  have d3 := hrow.cell 3 _ rfl
  have d4 := hrow.cell 4 _ rfl
  refine bodyPost_ret (v := .tuple #[.agg #[.int .i64 5, .int .u64 z, .string ⟨#[]⟩, .int .i64 0, .slice none 0 0], .bool true]) ?_ rfl ?_
  · simp [results, Tryd.results5, go_sem, d0, d1, d2, d3, d4]
  exact ⟨_, _, _, _, _, rfl, by simp [Value.oneCell'], (((Ch.refl No w).alloc _).alloc _).freshg hch (Nat.le_refl _)⟩
set_option maxRecDepth 100000 in
set_option maxHeartbeats 1000000 in
theorem numberOf2 (z : Int) (w : World) (h0 : 0 ≤ z) (h1 : z < 4294967296) : Calls Tryd.prog 5 #[.int .i64 2, .int .u64 z] w (NoTo true w) := by
  have hq : z / 4294967296 = 0 := by omega
  have hR := Row.alloc w ZL 27
  go_enter Tryd.func5, Tryd.ntmps5
  go_wp2_with (first | go_quiet (fail) | ((with_reducible refine gate (.store 27 (.tmp 4) _) rfl ?_); refine wp_store rfl rfl 27 _ _ rfl w.heap.size 0 27 ZL (.agg #[.int .i64 4, .int .u64 z, .string ⟨#[]⟩, .int .i64 0, .slice none 0 0]) rfl rfl [.int .i64 4, .int .u64 z, .string ⟨#[]⟩, .int .i64 0, .slice none 0 0] rfl size_pk (by simp [Value.oneCell']) (hR.keep0 ((Ch.refl No (w.alloc (.cells ZL.toArray 27))).alloc _)) (by simp) ?_; intro w1 hrow hch))
  have d0 := hrow.cell 0 _ rfl
  have d1 := hrow.cell 1 _ rfl
  have d2 := hrow.cell 2 _ rfl
  have d3 := hrow.cell 3 _ rfl
  have d4 := hrow.cell 4 _ rfl
  refine bodyPost_ret (v := .tuple #[.agg #[.int .i64 4, .int .u64 z, .string ⟨#[]⟩, .int .i64 0, .slice none 0 0], .bool true]) ?_ rfl ?_
  · simp [results, Tryd.results5, go_sem, d0, d1, d2, d3, d4]
  exact ⟨_, _, _, _, _, rfl, by simp [Value.oneCell'], (((Ch.refl No w).alloc _).alloc _).freshg hch (Nat.le_refl _)⟩
set_option maxRecDepth 100000 in
set_option maxHeartbeats 1000000 in
theorem numberOf2no (z : Int) (w : World) (h0 : 4294967296 ≤ z) (h1 : z < 18446744073709551616) : Calls Tryd.prog 5 #[.int .i64 2, .int .u64 z] w (NoTo false w) := by
  have hq : decide (0 < z / 4294967296) = true := decide_eq_true (by omega)
  have hR := Row.alloc w ZL 27
  go_enter Tryd.func5, Tryd.ntmps5
  go_wp2_with (first | go_quiet (fail) | ((with_reducible refine gate (.store 27 (.tmp 4) _) rfl ?_); refine wp_store rfl rfl 27 _ _ rfl w.heap.size 0 27 ZL (.agg #[.int .i64 0, .int .u64 0, .string ⟨#[]⟩, .int .i64 0, .slice none 0 0]) rfl rfl [.int .i64 0, .int .u64 0, .string ⟨#[]⟩, .int .i64 0, .slice none 0 0] rfl size_pk (by simp [Value.oneCell']) hR (by simp) ?_; intro w1 hrow hch))
  have d0 := hrow.cell 0 _ rfl
  have d1 := hrow.cell 1 _ rfl
  have d2 := hrow.cell 2 _ rfl
  have d3 := hrow.cell 3 _ rfl
  have d4 := hrow.cell 4 _ rfl
  refine bodyPost_ret (v := .tuple #[.agg #[.int .i64 0, .int .u64 0, .string ⟨#[]⟩, .int .i64 0, .slice none 0 0], .bool false]) ?_ rfl ?_
  · simp [results, Tryd.results5, go_sem, d0, d1, d2, d3, d4]
  exact ⟨_, _, _, _, _, rfl, by simp [Value.oneCell'], ((Ch.refl No w).alloc _).freshg hch (Nat.le_refl _)⟩
set_option maxRecDepth 100000 in
set_option maxHeartbeats 1000000 in
theorem numberOfneg (k z : Int) (w : World) (hk : k < 0) : Calls Tryd.prog 5 #[.int .i64 k, .int .u64 z] w (NoTo false w) := by
  have hq : decide (k < 0) = true := decide_eq_true hk
  have hR := Row.alloc w ZL 27
  go_enter Tryd.func5, Tryd.ntmps5
  go_wp2_with (first | go_quiet (fail) | ((with_reducible refine gate (.store 27 (.tmp 4) _) rfl ?_); refine wp_store rfl rfl 27 _ _ rfl w.heap.size 0 27 ZL (.agg #[.int .i64 0, .int .u64 0, .string ⟨#[]⟩, .int .i64 0, .slice none 0 0]) rfl rfl [.int .i64 0, .int .u64 0, .string ⟨#[]⟩, .int .i64 0, .slice none 0 0] rfl size_pk (by simp [Value.oneCell']) hR (by simp) ?_; intro w1 hrow hch))
  have d0 := hrow.cell 0 _ rfl
  have d1 := hrow.cell 1 _ rfl
  have d2 := hrow.cell 2 _ rfl
  have d3 := hrow.cell 3 _ rfl
  have d4 := hrow.cell 4 _ rfl
  refine bodyPost_ret (v := .tuple #[.agg #[.int .i64 0, .int .u64 0, .string ⟨#[]⟩, .int .i64 0, .slice none 0 0], .bool false]) ?_ rfl ?_
  · simp [results, Tryd.results5, go_sem, d0, d1, d2, d3, d4]
  exact ⟨_, _, _, _, _, rfl, by simp [Value.oneCell'], ((Ch.refl No w).alloc _).freshg hch (Nat.le_refl _)⟩
set_option maxRecDepth 100000 in
set_option maxHeartbeats 1000000 in
theorem numberOfbig (k z : Int) (w : World) (hk : 3 < k) : Calls Tryd.prog 5 #[.int .i64 k, .int .u64 z] w (NoTo false w) := by
  have hq : decide (k < 0) = false := decide_eq_false (by omega)
  have hq2 : decide (3 < k) = true := decide_eq_true hk
  have hR := Row.alloc w ZL 27
  go_enter Tryd.func5, Tryd.ntmps5
  go_wp2_with (first | go_quiet (fail) | ((with_reducible refine gate (.store 27 (.tmp 4) _) rfl ?_); refine wp_store rfl rfl 27 _ _ rfl w.heap.size 0 27 ZL (.agg #[.int .i64 0, .int .u64 0, .string ⟨#[]⟩, .int .i64 0, .slice none 0 0]) rfl rfl [.int .i64 0, .int .u64 0, .string ⟨#[]⟩, .int .i64 0, .slice none 0 0] rfl size_pk (by simp [Value.oneCell']) hR (by simp) ?_; intro w1 hrow hch))
  have d0 := hrow.cell 0 _ rfl
  have d1 := hrow.cell 1 _ rfl
  have d2 := hrow.cell 2 _ rfl
  have d3 := hrow.cell 3 _ rfl
  have d4 := hrow.cell 4 _ rfl
  refine bodyPost_ret (v := .tuple #[.agg #[.int .i64 0, .int .u64 0, .string ⟨#[]⟩, .int .i64 0, .slice none 0 0], .bool false]) ?_ rfl ?_
  · simp [results, Tryd.results5, go_sem, d0, d1, d2, d3, d4]
  exact ⟨_, _, _, _, _, rfl, by simp [Value.oneCell'], ((Ch.refl No w).alloc _).freshg hch (Nat.le_refl _)⟩

end Go.Proofs.YtfhbpbmhafijgaaDoor
