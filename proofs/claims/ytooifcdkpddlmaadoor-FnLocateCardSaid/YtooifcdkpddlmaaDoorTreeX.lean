/- The walk of the reference's look at whether a value can be written: few enough values, and each fits. No condition. -/
import Derived.Test.YtooifcdkpddlmaaDoorTreeW
namespace Go.Proofs.YtooifcdkpddlmaaDoor
set_option linter.unusedVariables false
set_option linter.unusedSimpArgs false
open Go.RowKit

def PfTo (t : Pk) (lv : Int) (w : World) (e : Ending) (w' : World) : Prop := ∃ b : Bool, e = .returned (.bool b) ∧ (b = true → cnt t ≤ 2000 ∧ FitP t lv) ∧ Ch No w w'
set_option maxRecDepth 100000 in
set_option maxHeartbeats 1000000 in
theorem packFits_calls (w0 : World) (t : Pk) (v0 v1 v2 v3 v4 : Value) (w : World) (lv : Int) (ht : TrP w0 t [v0, v1, v2, v3, v4]) (hw : Ch (Fro w0.heap.size) w0 w) (hlv : lv ≤ 100) :
    Calls Tryd.prog 21 #[.agg #[v0, v1, v2, v3, v4], .int .i64 lv] w (PfTo t lv w) := by
  have hws : w0.heap.size ≤ w.heap.size := hw.size
  have hrow := Row.alloc (w.alloc (.cells #[v0, v1, v2, v3, v4] 35)) [.int .i64 2000] 3
  rw [World.size_alloc] at hrow
  have hB := (Row.alloc w [v0, v1, v2, v3, v4] 35).keep0 ((Ch.refl No _).alloc (.cells #[.int .i64 2000] 3))
  have C1 : Ch No w ((w.alloc (.cells #[v0, v1, v2, v3, v4] 35)).alloc (.cells #[.int .i64 2000] 3)) := ((Ch.refl No w).alloc _).alloc _
  have hfew := few_calls w0 (w.heap.size + 1) (by omega) t v0 v1 v2 v3 v4 _ 2000 ht (hw.then_no C1) hrow (by omega) (by omega)
  go_enter Tryd.func21, Tryd.ntmps21
  go_wp2_with fail
  refine hfew.mono ?_
  rintro e w1 ⟨b, z, rfl, hrow1, hch1, hz⟩
  have C2 : Ch No w w1 := C1.freshg hch1 (by omega)
  have hB1 := hB.keep hch1 (by omega)
  cases b
  · go_wp2_with fail
    go_ret
    exact ⟨false, rfl, (fun h => by cases h), C2⟩
  · obtain ⟨hz0, hz1⟩ := hz rfl
    have hcnt : cnt t ≤ 2000 := by omega
    have q0 : w1.cell? ⟨w.heap.size, 0, none⟩ = some v0 := hB1.cell 0 _ rfl
    have q1 : w1.cell? ⟨w.heap.size, 1, none⟩ = some v1 := hB1.cell 1 _ rfl
    have q2 : w1.cell? ⟨w.heap.size, 2, none⟩ = some v2 := hB1.cell 2 _ rfl
    have q3 : w1.cell? ⟨w.heap.size, 3, none⟩ = some v3 := hB1.cell 3 _ rfl
    have q4 : w1.cell? ⟨w.heap.size, 4, none⟩ = some v4 := hB1.cell 4 _ rfl
    go_wp2_with fail
    refine (fits_calls w0 t v0 v1 v2 v3 v4 w1 lv ht (hw.then_no C2) hlv).mono ?_
    rintro e w2 ⟨b, rfl, hf, hch2⟩
    go_wp2_with fail
    go_ret
    exact ⟨b, rfl, fun h => ⟨hcnt, hf h⟩, C2.no_no hch2⟩
end Go.Proofs.YtooifcdkpddlmaaDoor
