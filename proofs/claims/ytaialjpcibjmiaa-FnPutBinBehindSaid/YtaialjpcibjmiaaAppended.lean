/- The walk of the laws' 'appended' and 'few'. No condition. -/
import Derived.Test.YtaialjpcibjmiaaSame
namespace Go.Proofs.Ytaialjpcibjmiaa
set_option linter.unusedVariables false
set_option linter.unusedSimpArgs false
open Go.RowKit

theorem few_yes (A : Option Addr) (n c : Nat) (w : World) (h : n ≤ 200) : Calls Try.prog 9 #[.slice A n c] w fun e w' => e = .returned (.bool true) ∧ w = w' := by
  have h1 : decide ((n : Int) ≤ 200) = true := decide_eq_true (by omega)
  go_enter Try.func9, Try.ntmps9
  go_wp2
  go_ret
  exact ⟨rfl, rfl⟩
theorem few_no (A : Option Addr) (n c : Nat) (w : World) (h : 200 < n) : Calls Try.prog 9 #[.slice A n c] w fun e w' => e = .returned (.bool false) ∧ w = w' := by
  have h1 : decide ((n : Int) ≤ 200) = false := decide_eq_false (by omega)
  go_enter Try.func9, Try.ntmps9
  go_wp2
  go_ret
  exact ⟨rfl, rfl⟩

abbrev PKL (k n x : Int) (s : ByteArray) : List Value := [.int .i64 k, .int .u64 n, .string s, .int .i64 x, .slice none 0 0]
set_option maxRecDepth 100000 in
set_option maxHeartbeats 2000000 in
theorem appended_yes (A0 A1 : Option Addr) (c0 c1 m : Nat) (l0 enc : List Int) (k n x k2 n2 x2 most : Int) (s s2 : ByteArray) (w : World) (hr0 : Rd u8 w A0 l0) (hr1 : Rd u8 w A1 (l0 ++ enc)) (hm0 : m = l0.length + enc.length) (hc1 : m ≤ c1)
    (hl1 : enc.length ≤ 1099511627776) (hm : decide (0 ≤ most) = false ∨ (decide (0 ≤ most) = true ∧ (enc.length : Int) ≤ most))
    (htake : ∀ A c w', Rd u8 w' A enc → enc.length ≤ c → Calls Try.prog 19 #[.slice A enc.length c, .int .i64 1] w' (TOk w' A enc enc.length c k2 n2 s2 x2))
    (hsame : ∀ w', Calls Try.prog 20 #[pk k n s x, pk k2 n2 s2 x2] w' fun e w'' => e = .returned (.bool true) ∧ Ch No w' w'') :
    Calls Try.prog 10 #[.slice A0 l0.length c0, .slice A1 m c1, pk k n s x, .int .i64 most] w fun e w' => e = .returned (.bool true) ∧ Ch No w w' := by
  subst hm0
  have hg1 : decide (l0.length + enc.length < l0.length) = false := decide_eq_false (by omega)
  have hg2 : decide ((l0.length : Int) + enc.length < l0.length) = false := decide_eq_false (by omega)
  have hR0 : Row (w.alloc (.cells (PKL k n x s).toArray 29)) w.heap.size 29 (PKL k n x s) := Row.alloc w _ _
  have hcon0 : ∀ nq, (convert 22 9 (.slice A0 l0.length c0)).run Try.prog ((w.alloc (.cells (PKL k n x s).toArray 29)).drewN nq) = .ok (.string (strOfNums l0)) ((w.alloc (.cells (PKL k n x s).toArray 29)).drewN nq) := fun nq => conv_rd hr0 _ (((Ch.refl _ _).alloc _).drewN _)
  have hcon1 : ∀ nq, (convert 22 9 (.slice A1 l0.length c1)).run Try.prog ((w.alloc (.cells (PKL k n x s).toArray 29)).drewN nq) = .ok (.string (strOfNums l0)) ((w.alloc (.cells (PKL k n x s).toArray 29)).drewN nq) := fun nq => by
    have h := conv_rd (c := c1) (hr1.take l0.length) _ (((Ch.refl No w).alloc (.cells (PKL k n x s).toArray 29)).drewN nq)
    simpa using h
  obtain ⟨hk1, hk1'⟩ := Cut.ahead_h 22 5 Try.underlying22 size_u8 A1 (l0.length + enc.length) c1 l0.length l0.length rfl .i64 (by omega)
  obtain ⟨A', hk2, hk3, hcut⟩ := Cut.ahead_l 22 5 Try.underlying22 size_u8 A1 (l0.length + enc.length) c1 l0.length l0.length rfl .i64 (by omega)
  simp only [Nat.add_sub_cancel_left] at hk2 hk3
  have hrd : Rd u8 w A' enc := by
    have := hcut.drop hr1 (by simp) hc1
    simpa using this
  unfold pk
  have hg3 : 0 ≤ most → decide (most < ((l0.length : Int) + enc.length) - l0.length) = false := fun h => decide_eq_false (by
    rcases hm with hm | ⟨_, hm⟩
    · simp at hm; omega
    · omega)
  rcases hm with hm | ⟨hm, hm2⟩
  all_goals
    try (have hg4 := hg3 (by simpa using hm))
    try (have hg5 : decide (most < (enc.length : Int)) = false := decide_eq_false (by omega))
    clear hg3
    go_enter Try.func10, Try.ntmps10
    go_wp2_with fail
    go_quiet (fail)
    go_wp2_with (first | (go_at_call 19; refine (htake _ _ _ (hrd.keep0 (by repeat (first | exact Ch.refl _ _ | assumption | apply Ch.alloc | apply Ch.drew | apply Ch.drewN))) (by omega)).mono ?_; rintro e w2 ⟨HC2, A2, rfl, hcut2⟩; obtain ⟨c0', c1', c2', c3', c4'⟩ := pk_cells (hR0.keep0 (Ch.no_no (by repeat (first | exact Ch.refl _ _ | apply Ch.drewN | apply Ch.drew)) HC2)); have d0' := fun o => ((Ch.refl No w2).alloc o).cell0 c0'; have d1' := fun o => ((Ch.refl No w2).alloc o).cell0 c1'; have d2' := fun o => ((Ch.refl No w2).alloc o).cell0 c2'; have d3' := fun o => ((Ch.refl No w2).alloc o).cell0 c3'; have d4' := fun o => ((Ch.refl No w2).alloc o).cell0 c4'; clear c0' c1' c2' c3' c4'; unfold pk) | (go_at_call 20; refine (hsame _).mono ?_; rintro e w3 ⟨rfl, hch3⟩))

    go_ret
    refine ⟨rfl, Ch.no_no ?_ hch3⟩
    refine Ch.alloc (Ch.no_no ?_ HC2) _
    repeat (first | exact Ch.refl _ _ | apply Ch.drewN | apply Ch.drew | apply Ch.alloc)
end Go.Proofs.Ytaialjpcibjmiaa
