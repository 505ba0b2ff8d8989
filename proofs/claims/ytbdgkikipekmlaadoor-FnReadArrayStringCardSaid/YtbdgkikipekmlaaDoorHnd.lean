/- What comes in with a value of AMQP, and the walk of the data that are written of it. No condition. -/
import Derived.Test.YtbdgkikipekmlaaDoorPcp
import Derived.Deep.RegionLaw
import Derived.WalkKit
import Derived.ProofKit
import Derived.OpenShut
namespace Go.Proofs.YtbdgkikipekmlaaDoor
set_option linter.unusedVariables false
set_option linter.unusedSimpArgs false
open Go.ChangeShapes Go.WideShapes Go.ChangeAt Go.RowKit

theorem cells_handed : Tryd.prog.cellsOf 28 = 9 := by kernel_rfl
section
variable {H : Type} {enc : TypeId × Value → H} {w : World} {base : Nat} {sp : Nat → Bool} {held : Bool}
set_option maxRecDepth 100000 in
theorem open_handed (hsp : ∀ b, sp b = true) (fuel : Nat) (cs : List Value) (x : DataW H × List MemPlace) (h : DataW.trod enc Tryd.prog w base sp held fuel 28 cs = some x) :
    ∃ (t : Va) (v0 v1 v2 v3 v4 v5 : Value) (f : Int) (A : Option Addr) (l : List Int) (cap : Nat) (cut : Int), cs = [v0, v1, v2, v3, v4, v5, .int .u64 f, .slice A l.length cap, .int .i64 cut] ∧ VaP w t [v0, v1, v2, v3, v4, v5] ∧ (Lit.int .u64 f).wf = true ∧ (Lit.int .i64 cut).wf = true ∧ Rd u8 w A l ∧ l.length ≤ cap ∧ ∀ x ∈ l, (Lit.int .u8 x).wf = true := by
  obtain ⟨xs, n, rfl, rfl, hl, hlen, hf⟩ := DataW.trod_struct Tryd.underlying28 h
  rw [cells_handed] at hl
  replace hlen : xs.length = 4 := hlen
  match cs, hl, xs, hlen with
  | [v0, v1, v2, v3, v4, v5, v6, v7, v8], _, [y0, y1, y2, y3], _ =>
    have f0 : DataW.trod enc Tryd.prog w base sp held n 25 (([v0, v1, v2, v3, v4, v5, v6, v7, v8].drop 0).take (Tryd.prog.cellsOf 25)) = some y0 := hf 0 _ rfl
    have f1 : DataW.trod enc Tryd.prog w base sp held n 22 (([v0, v1, v2, v3, v4, v5, v6, v7, v8].drop 6).take (Tryd.prog.cellsOf 22)) = some y1 := hf 1 _ rfl
    have f2 : DataW.trod enc Tryd.prog w base sp held n 26 (([v0, v1, v2, v3, v4, v5, v6, v7, v8].drop 7).take (Tryd.prog.cellsOf 26)) = some y2 := hf 2 _ rfl
    have f3 : DataW.trod enc Tryd.prog w base sp held n 3 (([v0, v1, v2, v3, v4, v5, v6, v7, v8].drop 8).take (Tryd.prog.cellsOf 3)) = some y3 := hf 3 _ rfl
    simp only [cells_va, show Tryd.prog.cellsOf 3 = 1 by kernel_rfl, show Tryd.prog.cellsOf 22 = 1 by kernel_rfl, show Tryd.prog.cellsOf 26 = 1 by kernel_rfl, List.drop_zero, List.drop_succ_cons, List.take_succ_cons, List.take_zero] at f0 f1 f2 f3
    obtain ⟨t, ht⟩ := open_va n _ _ f0
    obtain ⟨f, hf1, _, wf⟩ := DataW.trod_int Tryd.underlying22 f1
    obtain ⟨c, hc1, _, wc⟩ := DataW.trod_int Tryd.underlying3 f3
    obtain rfl : v6 = .int .u64 f := by simpa using hf1
    obtain rfl : v8 = .int .i64 c := by simpa using hc1
    rcases open_ints Tryd.underlying26 Tryd.underlying5 (by kernel_rfl) f2 with ⟨hcs, _⟩ | ⟨y, l, cap, zs, hcs, _, hl, hm, hz, _, hcell, hwz⟩
    · obtain rfl : v7 = .slice none 0 0 := by simpa using hcs
      exact ⟨t, v0, v1, v2, v3, v4, v5, f, none, [], 0, c, rfl, ht, wf, wc, Rd.nil _ _ _, Nat.le_refl _, fun x hx => by cases hx⟩
    · obtain rfl : v7 = .slice (some y) l cap := by simpa using hcs
      obtain ⟨l', rfl, hr, hle, hw⟩ := row_rd (k := .u8) (w := w) (a := some y) (len := l) (cap := cap) (zs := zs) (.inr ⟨y, rfl, hl, hm, by simpa [hsp] using hz, hcell, hwz⟩)
      exact ⟨t, v0, v1, v2, v3, v4, v5, f, some y, l', cap, c, rfl, ht, wf, wc, hr, hle, hw⟩
end
theorem zz_calls (v0 v1 v2 v3 v4 v5 : Value) (f : Int) (A : Option Addr) (m cap : Nat) (cut : Int) (w : World) (b : Bool) (h : decide ((2147483647 : Int) < m) = !b) :
    Calls Tryd.prog 10 #[.agg #[v0, v1, v2, v3, v4, v5, .int .u64 f, .slice A m cap, .int .i64 cut]] w fun e w' => e = .returned (.bool b) ∧ Ch No w w' := by
  have hB := Row.alloc w [v0, v1, v2, v3, v4, v5, .int .u64 f, .slice A m cap, .int .i64 cut] 28
  have q7 := hB.cell 7 _ rfl
  cases b
  all_goals
    simp only [Bool.not_true, Bool.not_false] at h
    go_enter Tryd.func10, Tryd.ntmps10
    go_wp2
    go_ret
    exact ⟨rfl, (Ch.refl No w).alloc _⟩
/-- What is told of a value that is asked. -/
structure Asked (t : Va) (bh : List Int) : Prop where
  fit : FitV t 6
  et : EtOk t
  ds : t.descs = 0
  cn : cntV t ≤ 500
  bl : bh.length ≤ 100
/-- What the data are: not asked; cut off; whole, and what stands behind them. -/
def DvTo (t : Va) (B : Value) (bh : List Int) (w : World) (e : Ending) (w' : World) : Prop :=
  Ch No w w' ∧ ((∃ x y c, e = .returned (.tuple #[x, y, c, .bool false])) ∨
  (Asked t bh ∧ ∃ (A : Option Addr) (cap : Nat) (d : List Int), (Wr t).pv d ∧ d.length ≤ 65550000 ∧
    ((∃ k, (k < d.length ∨ d = []) ∧ e = .returned (.tuple #[.slice A (d.take k).length cap, .slice none 0 0, .bool true, .bool true]) ∧ Rd u8 w' A (d.take k) ∧ (d.take k).length ≤ cap) ∨
     (e = .returned (.tuple #[.slice A (d ++ bh).length cap, B, .bool false, .bool true]) ∧ Rd u8 w' A (d ++ bh) ∧ (d ++ bh).length ≤ cap))))
set_option maxRecDepth 100000 in
set_option maxHeartbeats 4000000 in
theorem data_calls (k n o : Int) (s : ByteArray) (m d : Nat) (K : Fin m → Va) (D : Fin d → Va) (v0 v1 v2 v3 v4 : Value) (B : Option Addr) (capB : Nat) (f : Int) (A : Option Addr) (l : List Int) (cap : Nat) (cut : Int) (w0 w : World) (hw : Ch No w0 w) (hT : Lds w) (ht : VaP w0 (.mk k n s m K o d D) [v0, v1, v2, v3, v4, .slice B d capB]) (hf0 : 0 ≤ f) (hf1 : f < 18446744073709551616) (hr : Rd u8 w A l) :
    Calls Tryd.prog 13 #[.agg #[v0, v1, v2, v3, v4, .slice B d capB, .int .u64 f, .slice A l.length cap, .int .i64 cut]] w (DvTo (.mk k n s m K o d D) (.slice A l.length cap) l w) := by
  have hB := Row.alloc w [v0, v1, v2, v3, v4, .slice B d capB, .int .u64 f, .slice A l.length cap, .int .i64 cut] 28
  have q0 := hB.cell 0 _ rfl
  have q1 := hB.cell 1 _ rfl
  have q2 := hB.cell 2 _ rfl
  have q3 := hB.cell 3 _ rfl
  have q4 := hB.cell 4 _ rfl
  have q5 := hB.cell 5 _ rfl
  have q6 := hB.cell 6 _ rfl
  have q7 := hB.cell 7 _ rfl
  have q8 := hB.cell 8 _ rfl
  have C1 : Ch No w (w.alloc (.cells #[v0, v1, v2, v3, v4, .slice B d capB, .int .u64 f, .slice A l.length cap, .int .i64 cut] 28)) := (Ch.refl No w).alloc _
  obtain ⟨t, hte⟩ : ∃ t, Va.mk k n s m K o d D = t := ⟨_, rfl⟩
  have hdt : t.descs = d := by rw [← hte]; rfl
  have HDT := hid hdt
  rw [hte] at ht ⊢
  clear hdt hte
  go_enter Tryd.func13, Tryd.ntmps13
  go_wp2_with fail
  refine (valueFits_calls w0 t v0 v1 v2 v3 v4 _ _ 6 ht ((hw.no_no C1).mono (fun _ h => h.elim)) (hT.keep0 C1).1 (by omega) (by omega)).mono ?_
  rintro e w1 ⟨b, rfl, hch1, hb⟩
  have C2 := C1.no_no hch1
  have hB1 := hB.keep0 hch1
  have r0 := hB1.cell 0 _ rfl
  have r1 := hB1.cell 1 _ rfl
  have r2 := hB1.cell 2 _ rfl
  have r3 := hB1.cell 3 _ rfl
  have r4 := hB1.cell 4 _ rfl
  have r5 := hB1.cell 5 _ rfl
  have r6 := hB1.cell 6 _ rfl
  have r7 := hB1.cell 7 _ rfl
  have r8 := hB1.cell 8 _ rfl
  cases b
  · go_wp2_with fail
    refine bodyPost_ret (v := .tuple #[.slice none 0 0, .slice none 0 0, .bool false, .bool false]) (by simp [results, Tryd.results13, go_sem]) rfl ?_
    exact ⟨C2, .inl ⟨_, _, _, rfl⟩⟩
  · obtain ⟨hcn, hfit⟩ := hb rfl
    go_wp2_with fail
    refine (valuesV_calls w0 t v0 v1 v2 v3 v4 _ w1 ht ((hw.no_no C2).mono (fun _ h => h.elim)) hcn).mono ?_
    rintro e w2 ⟨rfl, hch2⟩
    have C3 := C2.no_no hch2
    have hB2 := hB1.keep0 hch2
    have s0 := hB2.cell 0 _ rfl
    have s1 := hB2.cell 1 _ rfl
    have s2 := hB2.cell 2 _ rfl
    have s3 := hB2.cell 3 _ rfl
    have s4 := hB2.cell 4 _ rfl
    have s5 := hB2.cell 5 _ rfl
    have s6 := hB2.cell 6 _ rfl
    have s7 := hB2.cell 7 _ rfl
    have s8 := hB2.cell 8 _ rfl
    by_cases h5 : 500 < cntV t
    · have hd5 : decide ((500 : Int) < cntV t) = true := decide_eq_true (by omega)
      go_wp2_with fail
      refine bodyPost_ret (v := .tuple #[.slice none 0 0, .slice none 0 0, .bool false, .bool false]) (by simp [results, Tryd.results13, go_sem]) rfl ?_
      exact ⟨C3, .inl ⟨_, _, _, rfl⟩⟩
    have hd5 : decide ((500 : Int) < cntV t) = false := decide_eq_false (by omega)
    by_cases hl : 100 < l.length
    · have hd6 : decide ((100 : Int) < l.length) = true := decide_eq_true (by omega)
      go_wp2_with fail
      refine bodyPost_ret (v := .tuple #[.slice none 0 0, .slice none 0 0, .bool false, .bool false]) (by simp [results, Tryd.results13, go_sem]) rfl ?_
      exact ⟨C3, .inl ⟨_, _, _, rfl⟩⟩
    have hd6 : decide ((100 : Int) < l.length) = false := decide_eq_false (by omega)
    by_cases hdz : 0 < d
    · have hd7 : decide ((0 : Int) < d) = true := decide_eq_true (by omega)
      go_wp2_with fail
      refine bodyPost_ret (v := .tuple #[.slice none 0 0, .slice none 0 0, .bool false, .bool false]) (by simp [results, Tryd.results13, go_sem]) rfl ?_
      exact ⟨C3, .inl ⟨_, _, _, rfl⟩⟩
    obtain rfl : d = 0 := by omega
    clear hdz
    go_wp2_with fail
    refine (emptyTexts_calls w0 t v0 v1 v2 v3 v4 _ w2 ht ((hw.no_no C3).mono (fun _ h => h.elim))).mono ?_
    rintro e w2' ⟨be, rfl, hch2', het⟩
    have C3' := C3.no_no hch2'
    have hB2' := hB2.keep0 hch2'
    have t0 := hB2'.cell 0 _ rfl
    have t1 := hB2'.cell 1 _ rfl
    have t2 := hB2'.cell 2 _ rfl
    have t3 := hB2'.cell 3 _ rfl
    have t4 := hB2'.cell 4 _ rfl
    have t5 := hB2'.cell 5 _ rfl
    have t6 := hB2'.cell 6 _ rfl
    have t7 := hB2'.cell 7 _ rfl
    have t8 := hB2'.cell 8 _ rfl
    cases be
    case true =>
      go_wp2_with fail
      refine bodyPost_ret (v := .tuple #[.slice none 0 0, .slice none 0 0, .bool false, .bool false]) (by simp [results, Tryd.results13, go_sem]) rfl ?_
      exact ⟨C3', .inl ⟨_, _, _, rfl⟩⟩
    have HET := hid (het rfl)
    clear het
    go_wp2_with fail
    have hw3 := (hw.no_no C3').alloc (.cells #[.int .u64 f, .bool false] 86)
    have hFm : Fm (w2'.alloc (.cells #[.int .u64 f, .bool false] 86)) w2'.heap.size := ⟨f, false, Row.alloc w2' [.int .u64 f, .bool false] 86, hf0, hf1⟩
    have HA : Hid (Asked t l) := hid ⟨hfit, HET.out, HDT.out, by omega, by omega⟩
    refine ((put_any w0 w2'.heap.size (hw.no_no C3').size t 6 hfit hcn).pv v0 v1 v2 v3 v4 _ _ ht (hw3.mono (fun _ h => h.elim)) hFm).mono ?_
    rintro e w3 ⟨v3', dd, rfl, hd, hdl, ho3, hf3, hF3, hch3⟩
    have C4 : Ch No w w3 := (C3'.alloc _).freshg hch3 C3'.size
    obtain ⟨A3, c3, rfl, hc3, hm3⟩ := ho3.slice
    have hB3 := (hB2'.keep0 ((Ch.refl No _).alloc (.cells #[.int .u64 f, .bool false] 86))).keep hch3 (fun h => by have h9 : w.heap.size = w2'.heap.size := h; have := hB2'.lt; omega)
    have y0 := hB3.cell 0 _ rfl
    have y1 := hB3.cell 1 _ rfl
    have y2 := hB3.cell 2 _ rfl
    have y3 := hB3.cell 3 _ rfl
    have y4 := hB3.cell 4 _ rfl
    have y5 := hB3.cell 5 _ rfl
    have y6 := hB3.cell 6 _ rfl
    have y7 := hB3.cell 7 _ rfl
    have y8 := hB3.cell 8 _ rfl
    have hdl2 : dd.length ≤ 65550000 := by omega
    by_cases hc : 0 < cut
    · have hdc : decide (0 < cut) = true := decide_eq_true hc
      have hcutk : ∀ k : Nat, k ≤ dd.length → (k < dd.length ∨ dd = []) → DvTo t (.slice A l.length cap) l w (.returned (.tuple #[.slice A3 k c3, .slice none 0 0, .bool true, .bool true])) w3 := fun k hk hk2 => by
        have hkl : (dd.take k).length = k := by rw [List.length_take]; omega
        refine ⟨C4, .inr ⟨HA.out, A3, c3, dd, hd, hdl2, .inl ⟨k, hk2, by rw [hkl], ho3.rd.take k, by rw [hkl]; omega⟩⟩⟩
      have HCUT := hid hcutk
      have hd0 : dd = [] ∨ 0 < dd.length := by cases dd <;> simp
      have HD0 := hid hd0
      clear hcutk hd0
      go_wp2_with fail
      refine bodyPost_ret (v := .tuple #[.slice A3 ((dd.length : Int) - min cut dd.length).toNat c3, .slice none 0 0, .bool true, .bool true]) (by simp [results, Tryd.results13, go_sem]) rfl ?_
      exact HCUT.out _ (by omega) (by have := HD0.out; rcases this with h | h; exact .inr h; exact .inl (by omega))
    · have hdc : decide (0 < cut) = false := decide_eq_false hc
      have hr3 := hr.keep0 C4
      have hlo : l.length ≤ 100 := by omega
      go_wp2_with fail
      go_region_law (refine step_append rfl _ _ 26 5 (.int .u8 0) 1 rfl Tryd.underlying26 info_u8 rfl (by decide) u8 (fun _ => rfl) _ dd l _ _ _ rfl rfl rfl (by first | exact ho3 | exact ho3.keep0 (Ch.refl No _).drew) (by first | exact hr3 | exact hr3.keep0 (Ch.refl No _).drew) (by omega) ?_; intro v8 w4 ho4 hch4 hat4; have y7' : w4.cell? ⟨w.heap.size, 7, none⟩ = some (.slice A l.length cap) := hch4.cell (by first | exact y7 | exact (Ch.refl No _).drew.cell0 y7) (fun h => by have h1 := hf3 _ h; have h2 := hB2'.lt; simp only [World.size_alloc] at h1; omega))
      all_goals
        go_wp2
        obtain ⟨A8, c8, rfl, hc8, _⟩ := ho4.slice
        refine bodyPost_ret (v := .tuple #[.slice A8 (dd ++ l).length c8, .slice A l.length cap, .bool false, .bool true]) (by simp [results, Tryd.results13, go_sem]) rfl ?_
        exact ⟨by first | exact C4.fresh hch4 (hf3.weak (C3'.alloc _).size) | exact C4.drew.fresh hch4 (hf3.weak (C3'.alloc _).size), .inr ⟨HA.out, A8, c8, dd, hd, hdl2, .inr ⟨rfl, ho4.rd, hc8⟩⟩⟩

end Go.Proofs.YtbdgkikipekmlaaDoor
