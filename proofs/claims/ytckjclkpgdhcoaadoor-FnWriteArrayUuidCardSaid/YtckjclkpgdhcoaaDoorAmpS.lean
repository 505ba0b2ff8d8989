/- The walk of the reference's comparison of two values of AMQP: numbers and texts, and lists of such. No condition. -/
import Derived.Test.YtckjclkpgdhcoaaDoorAmpV
import Derived.StillTailTactics
import Derived.Deep.LoopGhost
namespace Go.Proofs.YtckjclkpgdhcoaaDoor
set_option linter.unusedVariables false
set_option linter.unusedSimpArgs false
open Go.RowKit

/-- A number or a text as it stands in a list. -/
structure It where
  k : Int
  n : Int
  s : ByteArray
def It.c (x : It) : List Value := avc x.k x.n x.s (.slice none 0 0)
def RdV (w : World) (A : Option Addr) (l : List It) : Prop := 0 < l.length → ∃ b, A = some ⟨b, 0, none⟩ ∧ ∀ j u, (l.flatMap It.c)[j]? = some u → w.cell? ⟨b, j, none⟩ = some u
theorem RdV.nil (w : World) (A : Option Addr) : RdV w A [] := fun h => absurd h (by simp)
theorem RdV.keep0 {w w' : World} {A : Option Addr} {l : List It} (h : RdV w A l) (k : Ch No w w') : RdV w' A l := fun hp => by
  obtain ⟨b, e, hc⟩ := h hp
  exact ⟨b, e, fun j u hj => k.cell0 (hc j u hj)⟩
theorem OwV.rd {w : World} {A : Option Addr} {m c : Nat} {l : List It} (h : OwV w (.slice A m c) l.length (l.flatMap It.c)) : RdV w A l := fun hp => h.cell hp
theorem flat6 : ∀ (l : List It) (i : Nat) (hi : i < l.length) (j : Nat), j < 6 → (l.flatMap It.c)[i * 6 + j]? = (It.c l[i])[j]?
  | [], i, hi, _, _ => absurd hi (by simp)
  | x :: l, 0, _, j, hj => by
    rw [List.flatMap_cons, Nat.zero_mul, Nat.zero_add, List.getElem?_append_left (by exact hj)]
    rfl
  | x :: l, i + 1, hi, j, hj => by
    have h6 : (It.c x).length = 6 := rfl
    rw [List.flatMap_cons, List.getElem?_append_right (by rw [h6]; omega), h6, show (i + 1) * 6 + j - 6 = i * 6 + j by omega]
    exact flat6 l i (by simpa using hi) j hj
theorem RdV.at_ {w : World} {A : Option Addr} {l : List It} (h : RdV w A l) (i : Nat) (hi : i < l.length) : ∃ b, A = some ⟨b, 0, none⟩ ∧ w.cell? ⟨b, i * 6, none⟩ = some (.int .i64 l[i].k) ∧ w.cell? ⟨b, i * 6 + 1, none⟩ = some (.int .u64 l[i].n) ∧ w.cell? ⟨b, i * 6 + 2, none⟩ = some (.string l[i].s) ∧ w.cell? ⟨b, i * 6 + 3, none⟩ = some (.slice none 0 0) ∧ w.cell? ⟨b, i * 6 + 4, none⟩ = some (.int .i64 0) ∧ w.cell? ⟨b, i * 6 + 5, none⟩ = some (.slice none 0 0) := by
  obtain ⟨b, e, hc⟩ := h (by omega)
  refine ⟨b, e, ?_, ?_, ?_, ?_, ?_, ?_⟩
  · exact hc (i * 6 + 0) _ (by rw [flat6 l i hi 0 (by omega)]; rfl)
  · exact hc (i * 6 + 1) _ (by rw [flat6 l i hi 1 (by omega)]; rfl)
  · exact hc (i * 6 + 2) _ (by rw [flat6 l i hi 2 (by omega)]; rfl)
  · exact hc (i * 6 + 3) _ (by rw [flat6 l i hi 3 (by omega)]; rfl)
  · exact hc (i * 6 + 4) _ (by rw [flat6 l i hi 4 (by omega)]; rfl)
  · exact hc (i * 6 + 5) _ (by rw [flat6 l i hi 5 (by omega)]; rfl)
set_option maxRecDepth 100000 in
set_option maxHeartbeats 2000000 in
theorem sameV_list (k n of : Int) (s : ByteArray) (A B : Option Addr) (ca cb : Nat) (l : List It) (w : World) (hA : RdV w A l) (hB : RdV w B l) (hl : l.length ≤ 1048576) :
    Calls Tryd.prog 24 #[av k n s (.slice A l.length ca), avo k n s (.slice B l.length cb) of] w fun e w' => e = .returned (.bool true) ∧ Ch No w w' := by
  have HA := hid hA
  have HB := hid hB
  clear hA hB
  have K0 : Row ((w.alloc (.cells (avc k n s (.slice A l.length ca)).toArray 30)).alloc (.cells (avoc k n s (.slice B l.length cb) of).toArray 30)) w.heap.size 30 (avc k n s (.slice A l.length ca)) := (Row.alloc w _ _).keep0 ((Ch.refl No _).alloc _)
  have K1 := Row.alloc (w.alloc (.cells (avc k n s (.slice A l.length ca)).toArray 30)) (avoc k n s (.slice B l.length cb) of) 30
  rw [World.size_alloc] at K1
  have HK0 := hid K0
  have HK1 := hid K1
  clear K0 K1
  unfold av avo
  go_enter Tryd.func24, Tryd.ntmps24
  go_wp2_with fail
  go_loopg [46] l.length (fun q s46 wr => ∃ i : Nat, q + i = l.length ∧ s46 = .int .i64 i ∧ Ch No ((w.alloc (.cells (avc k n s (.slice A l.length ca)).toArray 30)).alloc (.cells (avoc k n s (.slice B l.length cb) of).toArray 30)) wr)
  case atStart => exact ⟨0, by omega, rfl, Ch.refl _ _⟩
  case round =>
    obtain ⟨i, hki, rfl, hch⟩ := hrel
    have c0 := (HK0.out.keep0 hch).cell 3 _ rfl
    have c1 := (HK1.out.keep0 hch).cell 3 _ rfl
    have c5 := (HK0.out.keep0 hch).cell 5 _ rfl
    by_cases hi : i < l.length
    · obtain ⟨b1, rfl, a0, a1, a2, a3, a4, a5⟩ := (HA.out.keep0 ((((Ch.refl No w).alloc _).alloc _).no_no hch)).at_ i hi
      obtain ⟨b2, rfl, e0, e1, e2, e3, e4, e5⟩ := (HB.out.keep0 ((((Ch.refl No w).alloc _).alloc _).no_no hch)).at_ i hi
      have hi' : (i : Int) < l.length := by omega
      have hi0 : (0 : Int) ≤ i := by omega
      generalize l[i] = x at a0 a1 a2 a3 a4 a5 e0 e1 e2 e3 e4 e5
      go_wp2_with fail
      refine wp_region_still_tail 10 (by kernel_rfl) (by kernel_rfl) ?_
      simp only [List.take_succ_cons, List.take_zero, List.drop_succ_cons, List.drop_zero]
      change wpStill _ _ (World.drew _) _ _ _
      repeat still_step
      refine wpStill_nil ?_
      change wpList _ _ _ _ _ (World.drew _)

      go_wp2_with (first | (go_at_call 24; refine (sameV_num x.k x.n x.s _).mono ?_; rintro e w5 ⟨rfl, hch5⟩))
      go_roundg (gk - 1)
      case measure => omega
      case rel => exact ⟨i + 1, by omega, by go_num, hch.drew.no_no hch5⟩
    · obtain rfl : i = l.length := by omega
      go_wp2_with fail
      go_quiet (fail)
      go_wp2
      go_ret
      exact ⟨rfl, by
        have := ((((Ch.refl No w).alloc _).alloc _).no_no hch)
        repeat (first | exact this | apply Ch.drew | apply Ch.drewN)⟩
end Go.Proofs.YtckjclkpgdhcoaaDoor
