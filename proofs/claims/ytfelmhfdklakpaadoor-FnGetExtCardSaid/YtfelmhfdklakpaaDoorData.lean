/- The walk of the data that are written of what comes in. No condition. -/
import Derived.Test.YtfelmhfdklakpaaDoorPutK
import Derived.Test.YtfelmhfdklakpaaDoorGiven
import Derived.Deep.RegionLaw
namespace Go.Proofs.YtfelmhfdklakpaaDoor
set_option linter.unusedVariables false
set_option linter.unusedSimpArgs false
open Go.RowKit

/-- What the data are: not asked; cut off; whole, and what stands behind them. -/
def DtTo (t : Pk) (B : Value) (bh : List Int) (cut : Int) (w : World) (e : Ending) (w' : World) : Prop :=
  Ch No w w' ∧ ((∃ x y c, e = .returned (.tuple #[x, y, c, .bool false])) ∨
  (FitP t 6 ∧ bh.length ≤ 100 ∧ ∃ (A : Option Addr) (cap : Nat) (d : List Int), PutD t d ∧ d.length ≤ 65550000 ∧
    ((∃ k, (k < d.length ∨ d = []) ∧ e = .returned (.tuple #[.slice A (d.take k).length cap, .slice none 0 0, .bool true, .bool true]) ∧ Rd u8 w' A (d.take k) ∧ (d.take k).length ≤ cap) ∨
     (e = .returned (.tuple #[.slice A (d ++ bh).length cap, B, .bool false, .bool true]) ∧ Rd u8 w' A (d ++ bh) ∧ (d ++ bh).length ≤ cap))))
set_option maxRecDepth 100000 in
set_option maxHeartbeats 4000000 in
theorem data_calls (t : Pk) (v0 v1 v2 v3 v4 : Value) (f : Int) (sh : Bool) (A : Option Addr) (l : List Int) (cap : Nat) (cut : Int) (w0 w : World) (hw : Ch No w0 w) (ht : TrP w0 t [v0, v1, v2, v3, v4]) (hf0 : 0 ≤ f) (hf1 : f < 18446744073709551616) (hr : Rd u8 w A l) :
    Calls Tryd.prog 11 #[.agg #[v0, v1, v2, v3, v4, .int .u64 f, .bool sh, .slice A l.length cap, .int .i64 cut]] w (DtTo t (.slice A l.length cap) l cut w) := by
  have hB := Row.alloc w [v0, v1, v2, v3, v4, .int .u64 f, .bool sh, .slice A l.length cap, .int .i64 cut] 37
  have q0 := hB.cell 0 _ rfl
  have q1 := hB.cell 1 _ rfl
  have q2 := hB.cell 2 _ rfl
  have q3 := hB.cell 3 _ rfl
  have q4 := hB.cell 4 _ rfl
  have q5 := hB.cell 5 _ rfl
  have q6 := hB.cell 6 _ rfl
  have q7 := hB.cell 7 _ rfl
  have q8 := hB.cell 8 _ rfl

  go_enter Tryd.func11, Tryd.ntmps11
  go_wp2_with fail
  have C1 : Ch No w (w.alloc (.cells #[v0, v1, v2, v3, v4, .int .u64 f, .bool sh, .slice A l.length cap, .int .i64 cut] 37)) := (Ch.refl No w).alloc _
  refine (packFits_calls w0 t v0 v1 v2 v3 v4 _ 6 ht ((hw.no_no C1).mono (fun _ h => h.elim)) (by omega)).mono ?_
  rintro e w1 ⟨b, rfl, hb, hch1⟩
  have C2 := C1.no_no hch1
  have hB1 := hB.keep0 hch1
  have r0 := hB1.cell 0 _ rfl
  have r1 := hB1.cell 1 _ rfl
  have r2 := hB1.cell 2 _ rfl
  have r3 := hB1.cell 3 _ rfl
  have r4 := hB1.cell 4 _ rfl
  have r5 := hB1.cell 5 _ rfl
  have r6 := hB1.cell 6 _ rfl
  have r7 := hB1.cell 7 _ rfl
  have r8 := hB1.cell 8 _ rfl

  cases b
  · go_wp2_with fail
    refine bodyPost_ret (v := .tuple #[.slice none 0 0, .slice none 0 0, .bool false, .bool false]) (by simp [results, Tryd.results11, go_sem]) rfl ?_
    exact ⟨C2, .inl ⟨_, _, _, rfl⟩⟩
  · obtain ⟨hcn, hfit⟩ := hb rfl
    go_wp2_with fail
    refine (packs_calls w0 t v0 v1 v2 v3 v4 w1 ht ((hw.no_no C2).mono (fun _ h => h.elim)) hcn).mono ?_
    rintro e w2 ⟨rfl, hch2⟩
    have C3 := C2.no_no hch2
    have hB2 := hB1.keep0 hch2
    have s0 := hB2.cell 0 _ rfl
    have s1 := hB2.cell 1 _ rfl
    have s2 := hB2.cell 2 _ rfl
    have s3 := hB2.cell 3 _ rfl
    have s4 := hB2.cell 4 _ rfl
    have s5 := hB2.cell 5 _ rfl
    have s6 := hB2.cell 6 _ rfl
    have s7 := hB2.cell 7 _ rfl
    have s8 := hB2.cell 8 _ rfl

    by_cases h5 : 500 < cnt t
    · have hd5 : decide ((500 : Int) < cnt t) = true := decide_eq_true (by omega)
      go_wp2_with fail
      refine bodyPost_ret (v := .tuple #[.slice none 0 0, .slice none 0 0, .bool false, .bool false]) (by simp [results, Tryd.results11, go_sem]) rfl ?_
      exact ⟨C3, .inl ⟨_, _, _, rfl⟩⟩
    have hd5 : decide ((500 : Int) < cnt t) = false := decide_eq_false (by omega)
    by_cases hl : 100 < l.length
    · have hd6 : decide ((100 : Int) < l.length) = true := decide_eq_true (by omega)
      go_wp2_with fail
      refine bodyPost_ret (v := .tuple #[.slice none 0 0, .slice none 0 0, .bool false, .bool false]) (by simp [results, Tryd.results11, go_sem]) rfl ?_
      exact ⟨C3, .inl ⟨_, _, _, rfl⟩⟩
    have hd6 : decide ((100 : Int) < l.length) = false := decide_eq_false (by omega)
    go_wp2_with fail
    have hw3 := (hw.no_no C3).alloc (.cells #[.int .u64 f, .bool sh] 30)
    have hFm : Fm (w2.alloc (.cells #[.int .u64 f, .bool sh] 30)) w2.heap.size := ⟨f, sh, Row.alloc w2 [.int .u64 f, .bool sh] 30, hf0, hf1⟩
    refine (putPack_calls w0 w2.heap.size (hw.no_no C3).size t v0 v1 v2 v3 v4 _ 6 ht (hw3.mono (fun _ h => h.elim)) hFm hfit hcn).mono ?_
    rintro e w3 ⟨v3, d, rfl, hd, hdl, ho3, hf3, hF3, hch3⟩
    have C4 : Ch No w w3 := (C3.alloc _).freshg hch3 C3.size
    obtain ⟨A3, c3, rfl, hc3, hm3⟩ := ho3.slice
    have hB3 := (hB2.keep0 ((Ch.refl No _).alloc (.cells #[.int .u64 f, .bool sh] 30))).keep hch3 (fun h => by have h9 : w.heap.size = w2.heap.size := h; have := hB2.lt; omega)
    have t0 := hB3.cell 0 _ rfl
    have t1 := hB3.cell 1 _ rfl
    have t2 := hB3.cell 2 _ rfl
    have t3 := hB3.cell 3 _ rfl
    have t4 := hB3.cell 4 _ rfl
    have t5 := hB3.cell 5 _ rfl
    have t6 := hB3.cell 6 _ rfl
    have t7 := hB3.cell 7 _ rfl
    have t8 := hB3.cell 8 _ rfl

    have hdl2 : d.length ≤ 65550000 := by omega
    by_cases hc : 0 < cut
    · have hdc : decide (0 < cut) = true := decide_eq_true hc
      have hcutk : ∀ k : Nat, k ≤ d.length → (k < d.length ∨ d = []) → DtTo t (.slice A l.length cap) l cut w (.returned (.tuple #[.slice A3 k c3, .slice none 0 0, .bool true, .bool true])) w3 := fun k hk hk2 => by
        have hkl : (d.take k).length = k := by rw [List.length_take]; omega
        refine ⟨C4, .inr ⟨hfit, by omega, A3, c3, d, hd, hdl2, .inl ⟨k, hk2, by rw [hkl], ho3.rd.take k, by rw [hkl]; omega⟩⟩⟩
      have HCUT := hid hcutk
      have hd0 : d = [] ∨ 0 < d.length := by cases d <;> simp
      have HD0 := hid hd0
      clear hcutk hd0
      go_wp2_with fail
      all_goals first
      | (refine bodyPost_ret (v := .tuple #[.slice A3 0 c3, .slice none 0 0, .bool true, .bool true]) ?_ rfl ?_
         · (simp [results, Tryd.results11, go_sem]; done)
         · exact HCUT.out 0 (by omega) (by have := HD0.out; rcases this with h | h; exact .inr h; exact .inl h))
      | (refine bodyPost_ret (v := .tuple #[.slice A3 ((d.length : Int) - cut).toNat c3, .slice none 0 0, .bool true, .bool true]) ?_ rfl ?_
         · (simp [results, Tryd.results11, go_sem]; done)
         · exact HCUT.out _ (by omega) (by have := HD0.out; rcases this with h | h; exact .inr h; exact .inl (by omega)))
    · have hdc : decide (0 < cut) = false := decide_eq_false hc
      have hr3 := hr.keep0 C4
      have hlo : l.length ≤ 100 := by omega
      go_wp2_with fail
      go_region_law (refine step_append rfl _ _ 24 5 (.int .u8 0) 1 rfl Tryd.underlying24 info_u8 rfl (by decide) u8 (fun _ => rfl) _ d l _ _ _ rfl rfl rfl (by first | exact ho3 | exact ho3.keep0 (Ch.refl No _).drew) (by first | exact hr3 | exact hr3.keep0 (Ch.refl No _).drew) (by omega) ?_; intro v8 w4 ho4 hch4 hat4; have u7 : w4.cell? ⟨w.heap.size, 7, none⟩ = some (.slice A l.length cap) := hch4.cell (by first | exact t7 | exact (Ch.refl No _).drew.cell0 t7) (fun h => by have h1 := hf3 _ h; have h2 := hB2.lt; simp only [World.size_alloc] at h1; omega))
      all_goals
        go_wp2
        obtain ⟨A8, c8, rfl, hc8, _⟩ := ho4.slice
        refine bodyPost_ret (v := .tuple #[.slice A8 (d ++ l).length c8, .slice A l.length cap, .bool false, .bool true]) (by simp [results, Tryd.results11, go_sem]) rfl ?_
        exact ⟨by first | exact C4.fresh hch4 (hf3.weak (C3.alloc _).size) | exact C4.drew.fresh hch4 (hf3.weak (C3.alloc _).size), .inr ⟨hfit, by omega, A8, c8, d, hd, hdl2, .inr ⟨rfl, ho4.rd, hc8⟩⟩⟩
end Go.Proofs.YtfelmhfdklakpaaDoor
