/- The walk of CoerceInt. No condition. -/
import Derived.Test.YtfhbpbmhafijgaaDoorNi2
import Derived.Test.YtfhbpbmhafijgaaDoorExt
namespace Go.Proofs.YtfhbpbmhafijgaaDoor
set_option linter.unusedVariables false
set_option linter.unusedSimpArgs false
open Go.RowKit

section
variable {P : Program} {ops : Array Oper} {Q : Exit → Act → World → Prop} {o : Oper} {rest : List Oper} {a : Act} {w : World}
/-- int64(x) of a float at the operation: the number, where the language fixes it. -/
theorem wp_conv_fi (hgd : o.guard = none) (s d : TypeId) (x : Operand) (ho : o.op = .convert s d x) (k : FloatKind) (hs : P.underlying s = some (.float k)) (hd : P.underlying d = some (.int .i64)) (b : Nat) (hx : a.eval x = .float k b)
    (h : ∀ n w1, (∀ v, floatToIntVal k b .i64 = some v → n = v) → Ch No w w1 → wpList P ops Q rest (a.put o.dst (.int .i64 n)) w1) :
    wpList P ops Q (o :: rest) a w := by
  have key : ∃ n w1, (convert s d (.float k b)).run P w = .ok (.int .i64 n) w1 ∧ (∀ v, floatToIntVal k b .i64 = some v → n = v) ∧ Ch No w w1 := by
    cases hv : floatToIntVal k b .i64 with
    | some v => exact ⟨v, w, run_convert_float_int w s d k .i64 b v (by rw [hs]; rfl) hd hv, fun v' h' => Option.some.inj h', Ch.refl _ _⟩
    | none =>
      have hany : Conv.floatToInt k b .i64 = (do pure (.int .i64 (IntKind.i64.wrap (← choose (.floatToInt k b .i64))))) := by
        unfold floatToIntVal at hv
        unfold Conv.floatToInt
        cases he : (k.decode b).toInt .zero with
        | none => rfl
        | some m =>
          rw [he] at hv
          dsimp only at hv ⊢
          by_cases hm : IntKind.min .i64 ≤ m ∧ m ≤ IntKind.max .i64
          · rw [if_pos hm] at hv; exact absurd hv (by simp)
          · rw [if_neg hm]
      have hask : (convert s d (.float k b)).run P w = .ok (.int .i64 (IntKind.i64.wrap ((Question.floatToInt k b .i64).cut (w.tape w.drawn (Question.floatToInt k b .i64))))) w.drew := by
        simp [convert, run_underlying hs, run_underlying hd, hany, Question.forced]
      exact ⟨IntKind.i64.wrap ((Question.floatToInt k b .i64).cut (w.tape w.drawn (Question.floatToInt k b .i64))), w.drew, hask, fun v' h' => absurd h' (by simp), (Ch.refl _ _).drew⟩
  obtain ⟨n, w1, hr, h1, h2⟩ := key
  refine wpList_plain hgd fun K hK => ?_
  unfold Oper.wp execOp
  simp only [ho, Sem.run_bind, Sem.run_pure, Result.andThen_ok, hx, hr]
  exact hK _ _ (h n w1 h1 h2)
end
set_option maxRecDepth 100000 in
set_option maxHeartbeats 2000000 in
theorem coerce64 (p b : Nat) (hb : b < 2 ^ 64) (w : World) (hT : TabZ w) (hR : Row w p 46 [.int .u64 b, .int .u8 5]) :
    Calls Tryd.prog 9 #[.pointer (some ⟨p, 0, none⟩)] w fun e w' => ∃ (n : Int) (t : Bool), e = .returned (.tuple #[.int .i64 n, .bool t]) ∧ Ch No w w' ∧ (¬ wholeB 1023 52 (b / 2 ^ 52 % 2048) (b % 2 ^ 52) → t = false) ∧ (wholeB 1023 52 (b / 2 ^ 52 % 2048) (b % 2 ^ 52) → ∀ v, floatToIntVal .f64 b .i64 = some v → Ieee.double.order b 4890909195324358656 = some .lt → Ieee.double.order b 14114281232179134464 = some .gt → t = true ∧ n = v) := by
  have c0 := hR.cell 0 _ rfl
  have c1 := hR.cell 1 _ rfl
  have hi := isx64 p b hb w hT hR
  have hfb := float64frombits_run b
  rw [Int.toNat_natCast] at hfb
  have hz : ¬ wholeB 1023 52 (b / 2 ^ 52 % 2048) (b % 2 ^ 52) → ((b : Int) == 0) = false ∧ ((b : Int) == 9223372036854775808) = false := fun h => by
    unfold wholeB at h
    constructor
    · refine beq_eq_false_iff_ne.2 fun e => h (.inl ?_)
      obtain rfl : b = 0 := by omega
      exact ⟨by decide, by decide⟩
    · refine beq_eq_false_iff_ne.2 fun e => h (.inl ?_)
      obtain rfl : b = 9223372036854775808 := by omega
      exact ⟨by decide, by decide⟩
  generalize wholeB 1023 52 (b / 2 ^ 52 % 2048) (b % 2 ^ 52) = W at *
  have HZ := hid hz
  clear hz hR hT
  go_enter Tryd.func9, Tryd.ntmps9
  go_wp2_with fail
  refine hi.mono ?_
  rintro e w1 ⟨t, rfl, ht, hch⟩
  replace c0 := hch.cell0 c0
  replace c1 := hch.cell0 c1
  clear hi
  by_cases hW : W
  · obtain rfl : t = true := ht.2 hW
    clear ht
    obtain ⟨l1, hl1⟩ : ∃ l : Bool, (Ieee.double.order b 4890909195324358656 == some .lt || Ieee.double.order b 4890909195324358656 == some .eq) = l := ⟨_, rfl⟩
    obtain ⟨l2, hl2⟩ : ∃ l : Bool, (Ieee.double.order b 14114281232179134464 == some .gt || Ieee.double.order b 14114281232179134464 == some .eq) = l := ⟨_, rfl⟩
    have i1 : (FloatKind.f64.format.order b 4890909195324358656 == some .lt || FloatKind.f64.format.order b 4890909195324358656 == some .eq) = l1 := hl1
    have i2 : (FloatKind.f64.format.order b 14114281232179134464 == some .gt || FloatKind.f64.format.order b 14114281232179134464 == some .eq) = l2 := hl2
    have HL := hid (And.intro hl1 hl2)
    clear hl1 hl2
    obtain ⟨d1, hd1⟩ : ∃ l : Bool, ((b : Int) == 0) = l := ⟨_, rfl⟩
    obtain ⟨d2, hd2⟩ : ∃ l : Bool, ((b : Int) == 9223372036854775808) = l := ⟨_, rfl⟩
    cases l1
    · cases d1 <;> cases d2 <;> go_wp2_with (first | go_quiet (fail) | ((with_reducible refine gate (.convert 32 2 _) rfl ?_); refine wp_conv_fi rfl 32 2 _ rfl .f64 Tryd.underlying32 Tryd.underlying2 b rfl ?_; intro n w2 hn hch2))
      all_goals
        go_ret2
        exact ⟨_, _, rfl, by first | exact hch | exact hch.drewN _, fun h => absurd hW h, fun _ v h1 h2 h3 => by have := HL.out.1; rw [h2] at this; cases this⟩
    · cases l2
      · cases d1 <;> cases d2 <;> go_wp2_with (first | go_quiet (fail) | ((with_reducible refine gate (.convert 32 2 _) rfl ?_); refine wp_conv_fi rfl 32 2 _ rfl .f64 Tryd.underlying32 Tryd.underlying2 b rfl ?_; intro n w2 hn hch2))
        all_goals
          go_ret2
          exact ⟨_, _, rfl, by first | exact hch | exact hch.drewN _, fun h => absurd hW h, fun _ v h1 h2 h3 => by have := HL.out.2; rw [h3] at this; cases this⟩
      · go_wp2_with (first | go_quiet (fail) | ((with_reducible refine gate (.convert 32 2 _) rfl ?_); refine wp_conv_fi rfl 32 2 _ rfl .f64 Tryd.underlying32 Tryd.underlying2 b rfl ?_; intro n w2 hn hch2))
        go_ret2
        exact ⟨_, _, rfl, hch.no_no hch2, fun h => absurd hW h, fun _ v h1 _ _ => ⟨rfl, hn v h1⟩⟩
  · obtain rfl : t = false := by cases t; rfl; exact absurd (ht.1 rfl) hW
    obtain ⟨q1, q2⟩ := HZ.out hW
    go_wp2_with (first | go_quiet (fail) | ((with_reducible refine gate (.convert 32 2 _) rfl ?_); refine wp_conv_fi rfl 32 2 _ rfl .f64 Tryd.underlying32 Tryd.underlying2 b rfl ?_; intro n w2 hn hch2))
    go_ret2
    exact ⟨_, _, rfl, by first | exact hch | exact hch.drewN _, fun _ => rfl, fun h => absurd h hW⟩
set_option maxRecDepth 100000 in
set_option maxHeartbeats 2000000 in
theorem coerce32 (p b : Nat) (hb : b < 2 ^ 32) (w : World) (hT : TabZ w) (hR : Row w p 46 [.int .u64 b, .int .u8 6]) :
    Calls Tryd.prog 9 #[.pointer (some ⟨p, 0, none⟩)] w fun e w' => ∃ (n : Int) (t : Bool), e = .returned (.tuple #[.int .i64 n, .bool t]) ∧ Ch No w w' ∧ (¬ wholeB 127 23 (b / 2 ^ 23 % 256) (b % 2 ^ 23) → t = false) ∧ (wholeB 127 23 (b / 2 ^ 23 % 256) (b % 2 ^ 23) → ∀ v, floatToIntVal .f32 b .i64 = some v → Ieee.single.order b 1593835520 = some .lt → Ieee.single.order b 3741319168 = some .gt → t = true ∧ n = v) := by
  have c0 := hR.cell 0 _ rfl
  have c1 := hR.cell 1 _ rfl
  have hi := isx32 p b hb w hT hR
  have hfb := float32frombits_run b
  rw [Int.toNat_natCast] at hfb
  have hz : ¬ wholeB 127 23 (b / 2 ^ 23 % 256) (b % 2 ^ 23) → ((b : Int) == 0) = false ∧ ((b : Int) == 2147483648) = false := fun h => by
    unfold wholeB at h
    constructor
    · refine beq_eq_false_iff_ne.2 fun e => h (.inl ?_)
      obtain rfl : b = 0 := by omega
      exact ⟨by decide, by decide⟩
    · refine beq_eq_false_iff_ne.2 fun e => h (.inl ?_)
      obtain rfl : b = 2147483648 := by omega
      exact ⟨by decide, by decide⟩
  generalize wholeB 127 23 (b / 2 ^ 23 % 256) (b % 2 ^ 23) = W at *
  have HZ := hid hz
  clear hz hR hT
  go_enter Tryd.func9, Tryd.ntmps9
  go_wp2_with fail
  refine hi.mono ?_
  rintro e w1 ⟨t, rfl, ht, hch⟩
  replace c0 := hch.cell0 c0
  replace c1 := hch.cell0 c1
  clear hi
  by_cases hW : W
  · obtain rfl : t = true := ht.2 hW
    clear ht
    obtain ⟨l1, hl1⟩ : ∃ l : Bool, (Ieee.single.order b 1593835520 == some .lt || Ieee.single.order b 1593835520 == some .eq) = l := ⟨_, rfl⟩
    obtain ⟨l2, hl2⟩ : ∃ l : Bool, (Ieee.single.order b 3741319168 == some .gt || Ieee.single.order b 3741319168 == some .eq) = l := ⟨_, rfl⟩
    have i1 : (FloatKind.f32.format.order b 1593835520 == some .lt || FloatKind.f32.format.order b 1593835520 == some .eq) = l1 := hl1
    have i2 : (FloatKind.f32.format.order b 3741319168 == some .gt || FloatKind.f32.format.order b 3741319168 == some .eq) = l2 := hl2
    have HL := hid (And.intro hl1 hl2)
    clear hl1 hl2
    obtain ⟨d1, hd1⟩ : ∃ l : Bool, ((b : Int) == 0) = l := ⟨_, rfl⟩
    obtain ⟨d2, hd2⟩ : ∃ l : Bool, ((b : Int) == 2147483648) = l := ⟨_, rfl⟩
    cases l1
    · cases d1 <;> cases d2 <;> go_wp2_with (first | go_quiet (fail) | ((with_reducible refine gate (.convert 40 2 _) rfl ?_); refine wp_conv_fi rfl 40 2 _ rfl .f32 Tryd.underlying40 Tryd.underlying2 b rfl ?_; intro n w2 hn hch2))
      all_goals
        go_ret2
        exact ⟨_, _, rfl, by first | exact hch | exact hch.drewN _, fun h => absurd hW h, fun _ v h1 h2 h3 => by have := HL.out.1; rw [h2] at this; cases this⟩
    · cases l2
      · cases d1 <;> cases d2 <;> go_wp2_with (first | go_quiet (fail) | ((with_reducible refine gate (.convert 40 2 _) rfl ?_); refine wp_conv_fi rfl 40 2 _ rfl .f32 Tryd.underlying40 Tryd.underlying2 b rfl ?_; intro n w2 hn hch2))
        all_goals
          go_ret2
          exact ⟨_, _, rfl, by first | exact hch | exact hch.drewN _, fun h => absurd hW h, fun _ v h1 h2 h3 => by have := HL.out.2; rw [h3] at this; cases this⟩
      · go_wp2_with (first | go_quiet (fail) | ((with_reducible refine gate (.convert 40 2 _) rfl ?_); refine wp_conv_fi rfl 40 2 _ rfl .f32 Tryd.underlying40 Tryd.underlying2 b rfl ?_; intro n w2 hn hch2))
        go_ret2
        exact ⟨_, _, rfl, hch.no_no hch2, fun h => absurd hW h, fun _ v h1 _ _ => ⟨rfl, hn v h1⟩⟩
  · obtain rfl : t = false := by cases t; rfl; exact absurd (ht.1 rfl) hW
    obtain ⟨q1, q2⟩ := HZ.out hW
    go_wp2_with (first | go_quiet (fail) | ((with_reducible refine gate (.convert 40 2 _) rfl ?_); refine wp_conv_fi rfl 40 2 _ rfl .f32 Tryd.underlying40 Tryd.underlying2 b rfl ?_; intro n w2 hn hch2))
    go_ret2
    exact ⟨_, _, rfl, by first | exact hch | exact hch.drewN _, fun _ => rfl, fun h => absurd h hW⟩

end Go.Proofs.YtfhbpbmhafijgaaDoor
