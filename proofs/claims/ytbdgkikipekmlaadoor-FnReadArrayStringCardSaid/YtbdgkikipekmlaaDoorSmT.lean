/- The walk of the reference's comparison of two values without kids that are the same. No condition. -/
import Derived.Test.YtbdgkikipekmlaaDoorLws
import Derived.Test.YtbdgkikipekmlaaDoorVac
import Derived.Deep.LoopGhost
namespace Go.Proofs.YtbdgkikipekmlaaDoor
set_option linter.unusedVariables false
set_option linter.unusedSimpArgs false
open Go.RowKit
set_option maxRecDepth 100000 in
set_option maxHeartbeats 2000000 in
theorem same_true (k n o o' : Int) (s : ByteArray) (A B A' B' : Option Addr) (cap capB cap' capB' : Nat) (w : World) :
    Calls Tryd.prog 14 #[.agg #[.int .i64 k, .int .u64 n, .string s, .slice A 0 cap, .int .i64 o, .slice B 0 capB], .agg #[.int .i64 k, .int .u64 n, .string s, .slice A' 0 cap', .int .i64 o', .slice B' 0 capB']] w fun e w' => e = .returned (.bool true) ∧ Ch No w w' := by
  have K0 : Row ((w.alloc (.cells #[.int .i64 k, .int .u64 n, .string s, .slice A 0 cap, .int .i64 o, .slice B 0 capB] 25)).alloc (.cells #[.int .i64 k, .int .u64 n, .string s, .slice A' 0 cap', .int .i64 o', .slice B' 0 capB'] 25)) w.heap.size 25 [.int .i64 k, .int .u64 n, .string s, .slice A 0 cap, .int .i64 o, .slice B 0 capB] := (Row.alloc w _ _).keep0 ((Ch.refl No _).alloc _)
  have K1 := Row.alloc (w.alloc (.cells #[.int .i64 k, .int .u64 n, .string s, .slice A 0 cap, .int .i64 o, .slice B 0 capB] 25)) [.int .i64 k, .int .u64 n, .string s, .slice A' 0 cap', .int .i64 o', .slice B' 0 capB'] 25
  rw [World.size_alloc] at K1
  have C1 : Ch No w ((w.alloc (.cells #[.int .i64 k, .int .u64 n, .string s, .slice A 0 cap, .int .i64 o, .slice B 0 capB] 25)).alloc (.cells #[.int .i64 k, .int .u64 n, .string s, .slice A' 0 cap', .int .i64 o', .slice B' 0 capB'] 25)) := ((Ch.refl No w).alloc _).alloc _
  have p0 := K0.cell 0 _ rfl
  have r0 := K1.cell 0 _ rfl
  have p1 := K0.cell 1 _ rfl
  have r1 := K1.cell 1 _ rfl
  have p2 := K0.cell 2 _ rfl
  have r2 := K1.cell 2 _ rfl
  have p3 := K0.cell 3 _ rfl
  have r3 := K1.cell 3 _ rfl
  have p5 := K0.cell 5 _ rfl
  have r5 := K1.cell 5 _ rfl
  go_enter Tryd.func14, Tryd.ntmps14
  go_wp2_with fail
  go_loopg [46] 0 (fun q s46 wr => s46 = .int .i64 0 ∧ Ch No ((w.alloc (.cells #[.int .i64 k, .int .u64 n, .string s, .slice A 0 cap, .int .i64 o, .slice B 0 capB] 25)).alloc (.cells #[.int .i64 k, .int .u64 n, .string s, .slice A' 0 cap', .int .i64 o', .slice B' 0 capB'] 25)) wr)
  case atStart => exact ⟨rfl, Ch.refl _ _⟩
  case round =>
    obtain ⟨rfl, hch⟩ := hrel
    have c3 := (K0.keep0 hch).cell 3 _ rfl
    have c5 := (K0.keep0 hch).cell 5 _ rfl
    have f3 := (K1.keep0 hch).cell 3 _ rfl
    have f5 := (K1.keep0 hch).cell 5 _ rfl
    have C2 := C1.no_no hch
    go_wp2_with fail
    go_quiet (fail)
    go_wp2
    go_ret
    exact ⟨rfl, by repeat (first | exact C2 | apply Ch.drew | apply Ch.drewN)⟩

/-- What a value without kids has besides: no kids, no text. -/
theorem fit_plain {k n o : Int} {s : ByteArray} {m d : Nat} {K : Fin m → Va} {D : Fin d → Va} {lv : Int} (h : FitV (.mk k n s m K o d D) lv) : (k ≠ 21 → k ≠ 22 → k ≠ 23 → m = 0) ∧ (k ≠ 14 → k < 17 ∨ 20 < k → s.toList = []) ∧ (k < 1 ∨ 16 < k ∨ k = 14 → n = 0) :=
  ⟨h.2.2.2.1, h.2.2.2.2.1, h.2.2.2.2.2.1⟩
theorem bytes_nil {s : ByteArray} (h : s.toList = []) : s = ⟨#[]⟩ := by
  obtain ⟨a⟩ := s
  have hd := ByteArray.toList_eq ⟨a⟩
  rw [h] at hd
  have : a.toList = [] := hd.symm
  rw [Array.toList_eq_nil_iff] at this
  rw [this]
end Go.Proofs.YtbdgkikipekmlaaDoor
