/- The walks of AMQP's writers of arrays: of ubytes, of shorts. No condition. -/
import Derived.Test.YtckjclkpgdhcoaaDoorAmpA
import Derived.Deep.LoopGhost
namespace Go.Proofs.YtckjclkpgdhcoaaDoor
set_option linter.unusedVariables false
set_option linter.unusedSimpArgs false
open Go.RowKit

theorem nil_eq (w : World) : True := trivial
def MTo (base p : Nat) (l : List Int) (w : World) (e : Ending) (w' : World) : Prop := e = .returned .nilIface ∧ Bf base p l w' ∧ Ch (From base) w w'

theorem flat_le {α : Type} (f : α → List Int) (m : Nat) (h : ∀ x, (f x).length ≤ m) : ∀ l : List α, (l.flatMap f).length ≤ m * l.length
  | [] => by simp
  | x :: l => by
    rw [List.flatMap_cons, List.length_append, List.length_cons, Nat.mul_succ]
    have := flat_le f m h l
    have := h x
    omega
set_option maxRecDepth 100000 in
set_option maxHeartbeats 1000000 in
theorem marshUb (base p : Nat) (A : Option Addr) (c : Nat) (l l0 : List Int) (w : World) (hB : Bf base p l0 w) (hr : Rd u8 w A l) (hA : ∀ ad, A = some ad → ad.block < base) (hn : l.length ≤ 1000) (hl0 : l0.length ≤ 1000) :
    Calls Tryd.prog 26 #[.slice A l.length c, .pointer (some ⟨p, 0, none⟩)] w (MTo base p (l0 ++ (hdrB l.length 1 80 ++ l)) w) := by
  have hd9 : (hdrB (l.length : Int) 1 80).length ≤ 10 := by unfold hdrB; split <;> simp [be4]
  obtain ⟨H, hH⟩ : ∃ H, H = hdrB (l.length : Int) 1 80 := ⟨_, rfl⟩
  rw [← hH] at hd9 ⊢
  have HH := hid hH
  have HD9 := hid hd9
  clear hd9 hH
  go_enter Tryd.func26, Tryd.ntmps26
  go_wp2_with (go_at_call 36; refine (arrHead_1 base p l0 _ 80 w hB (by omega) (by omega) (by omega) (by omega) (by omega)).mono ?_; rintro e w1 ⟨rfl, hB1, hch1⟩)

  rw [← HH.out] at hB1
  have hr1 := hr.keep hch1 (fun ad had h => by have := hA ad had; simp only [From] at h; omega)
  refine (bufAppend base p (l0 ++ H) A c _ l w1 hB1 (by have := HD9.out; rw [List.length_append]; omega) hr1 rfl (by omega)).mono ?_
  rintro e w2 ⟨rfl, hB2, hch2⟩
  go_wp2_with fail
  go_ret
  exact ⟨rfl, by simpa using hB2, hch1.from_from hch2⟩
set_option maxRecDepth 100000 in
set_option maxHeartbeats 1000000 in
theorem marshShort (base p : Nat) (A : Option Addr) (c : Nat) (l l0 : List Int) (w : World) (hB : Bf base p l0 w) (hr : Rd (Value.int .i16) w A l) (hA : ∀ ad, A = some ad → ad.block < base) (hn : l.length ≤ 1000) (hl0 : l0.length ≤ 1000) (hx : ∀ x ∈ l, -32768 ≤ x ∧ x < 32768) :
    Calls Tryd.prog 27 #[.slice A l.length c, .pointer (some ⟨p, 0, none⟩)] w (MTo base p (l0 ++ (hdrB l.length 2 97 ++ l.flatMap fun x => be2 (x % 65536))) w) := by
  have hd9 : (hdrB (l.length : Int) 2 97).length ≤ 10 := by unfold hdrB; split <;> simp [be4]
  have hfl : ∀ i, ((l.take i).flatMap fun x => be2 (x % 65536)).length ≤ 16000 := fun i => by
    have h := flat_le (fun x : Int => be2 (x % 65536)) 16 (fun x => by simp [be2, be8]) (l.take i)
    have : (l.take i).length ≤ 1000 := by rw [List.length_take]; omega
    omega
  have HFL := hid hfl
  obtain ⟨H, hH⟩ : ∃ H, H = hdrB (l.length : Int) 2 97 := ⟨_, rfl⟩
  rw [← hH] at hd9 ⊢
  have HH := hid hH
  have HD9 := hid hd9
  clear hfl hd9 hH
  go_enter Tryd.func27, Tryd.ntmps27
  go_wp2_with (go_at_call 36; refine (arrHead_2 base p l0 _ 97 w hB (by omega) (by omega) (by omega) (by omega) (by omega)).mono ?_; rintro e w1 ⟨rfl, hB1, hch1⟩)
  rw [← HH.out] at hB1
  have hr1 := hr.keep hch1 (fun ad had h => by have := hA ad had; simp only [From] at h; omega)
  go_loopg [13] l.length (fun kk s13 wr => ∃ i : Nat, kk + i = l.length ∧ s13 = .int .i64 i ∧ Bf base p (l0 ++ (H ++ (l.take i).flatMap fun x => be2 (x % 65536))) wr ∧ Ch (From base) w1 wr)
  case atStart => exact ⟨0, by omega, rfl, by simpa using hB1, Ch.refl _ _⟩
  case round =>
    obtain ⟨i, hki, rfl, hBr, hch⟩ := hrel
    by_cases hi : i < l.length
    · obtain ⟨bk, off, rfl, hcell⟩ := (hr1.keep hch (fun ad had h => by have := hA ad had; simp only [From] at h; omega)).at_ i hi
      have hxi := hx l[i] (List.getElem_mem hi)
      have hi' : (i : Int) < l.length := by omega
      have hi0 : (0 : Int) ≤ i := by omega
      have HT := hid (List.take_succ_eq_append_getElem hi)
      generalize l[i] = x at hcell hxi HT ⊢
      have hle : (l0 ++ (H ++ (l.take i).flatMap fun x => be2 (x % 65536))).length ≤ 1099511600000 := by have := HFL.out i; have := HD9.out; simp only [List.length_append]; omega
      go_wp2_with fail
      rw [show IntKind.u16.wrap x = x % 65536 from by simp [IntKind.wrap, IntKind.bits, IntKind.signed]]
      refine (buf16 base p _ (x % 65536) wr hBr (by omega) (by omega) (by omega)).mono ?_
      rintro e w2 ⟨rfl, hB2, hch2⟩
      go_wp2_with fail
      go_roundg (gk - 1)
      case measure => omega
      case rel => exact ⟨i + 1, by omega, by go_num, by rw [HT.out, List.flatMap_append]; simpa using hB2, hch.from_from hch2⟩
    · obtain rfl : i = l.length := by omega
      rw [List.take_length] at hBr
      go_wp2_with fail
      go_ret
      exact ⟨rfl, hBr, hch1.from_from hch⟩

end Go.Proofs.YtckjclkpgdhcoaaDoor
