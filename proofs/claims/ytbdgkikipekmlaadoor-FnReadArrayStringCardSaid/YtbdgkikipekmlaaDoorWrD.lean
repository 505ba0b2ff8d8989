/- The walk of AMQP's writer of doubles: a sample. No condition. -/
import Derived.Test.YtbdgkikipekmlaaDoorBuf
import Derived.Test.YtbdgkikipekmlaaDoorRda
import Derived.Defers
import Derived.Recover
import Derived.Laws.Pointers
namespace Go.Proofs.YtbdgkikipekmlaaDoor
set_option linter.unusedVariables false
set_option linter.unusedSimpArgs false
open Go.RowKit

set_option maxHeartbeats 1000000 in
theorem bufBytes (base p : Nat) (l : List Int) (w : World) (hB0 : Bf base p l w) :
    Calls Tryd.prog 35 #[.pointer (some ⟨p, 0, none⟩)] w fun e w' => ∃ A c, e = .returned (.slice A l.length c) ∧ Rd u8 w A l ∧ l.length ≤ c ∧ Ch No w w' := by
  obtain ⟨v, hB⟩ := hB0
  obtain ⟨A, c, rfl, hle, _⟩ := hB.ow.slice
  have hc0 := hB.rp.cell 0 _ rfl
  have hc1 := hB.rp.cell 1 _ rfl
  obtain ⟨A', hk2, hk3, hcut⟩ := Cut.ahead_l 26 5 Tryd.underlying26 size_u8 A l.length c 0 0 rfl .i64 (by omega)
  simp only [Nat.sub_zero] at hk2 hk3
  have hrd := hcut.drop hB.ow.rd rfl hle
  rw [List.drop_zero] at hrd
  go_enter Tryd.func35, Tryd.ntmps35
  go_wp2
  go_region
  all_goals
    go_wp2
    go_ret
    exact ⟨_, _, rfl, hrd, hle, by repeat (first | exact Ch.refl _ _ | apply Ch.drew | apply Ch.drewN)⟩
theorem noData_idle (p q : Addr) (w : World) :
    CallsD Tryd.prog 31 #[.pointer (some p), .pointer (some q)] .returning w fun e u' w' => e = .returned (.tuple #[]) ∧ u' = .returning ∧ w' = w := by
  refine callsD_of_wpS Tryd.func31 rfl fun c₀ cs hu => ?_
  apply wpS_seq
  apply wpS_region
  simp [wpOpsS, go_sem, recoverD, hu, Tryd.ntmps31, Exit.thenS]
  refine wpS_cond (t := false) (by simp [Act.eval, Array.replicate]) ?_
  simp only [Bool.false_eq_true, if_false]
  refine wpS_of_wp (wp_skip ?_)
  cases c₀
  simp_all [bodyPostS, results, Tryd.results31]
def WTo (w : World) (l : List Int) (e : Ending) (w' : World) : Prop := ∃ A c, e = .returned (.tuple #[.slice A l.length c, .bool true]) ∧ Rd u8 w' A l ∧ l.length ≤ c ∧ Ch No w w'
/-- A new Buffer, empty. -/
theorem bf_new (w : World) : Bf w.heap.size w.heap.size [] (w.alloc (.cells #[.slice none 0 0, .int .i64 0] 66)) :=
  ⟨_, Row.alloc w [.slice none 0 0, .int .i64 0] 66, Ow.nil _ _ _, Nat.le_refl _, fun b h => absurd h Blk_nil, Blk_nil⟩
set_option maxHeartbeats 1000000 in
theorem writeDouble_in (base p : Nat) (l : List Int) (n : Nat) (w : World) (hB : Bf base p l w) (hl : l.length ≤ 1099511620000) (hn : (n : Int) < 18446744073709551616) :
    Calls Tryd.prog 65 #[.pointer (some ⟨p, 0, none⟩), .float .f64 n] w (BfTo base p (l ++ 130 :: be8 n) w) := by
  have hfb := float64bits_run n
  go_enter Tryd.func65, Tryd.ntmps65
  go_wp2_with (first | (go_at_call 74; refine (bufByte base p l _ w hB (by omega)).mono ?_; rintro e w1 ⟨rfl, hB1, hch1⟩) | (go_at_call 90; refine (buf64 base p _ _ w1 hB1 (by simp; omega) (by omega) hn).mono ?_; rintro e w2 ⟨rfl, hB2, hch2⟩))

  go_end0
  exact ⟨rfl, by simpa using hB2, hch1.from_from hch2⟩
theorem writeDouble_calls (base p : Nat) (l : List Int) (n : Nat) (w : World) (hB : Bf base p l w) (hl : l.length ≤ 1099511620000) (hn : (n : Int) < 18446744073709551616) :
    Calls Tryd.prog 32 #[.pointer (some ⟨p, 0, none⟩), .float .f64 n] w (BfTo base p (l ++ 130 :: be8 n) w) := by
  go_enter Tryd.func32, Tryd.ntmps32
  go_wp2_with (go_at_call 65; refine (writeDouble_in base p l n w hB hl hn).mono ?_; rintro e w1 ⟨rfl, hB1, hch1⟩)

  go_end0
  exact ⟨rfl, hB1, hch1⟩
set_option maxRecDepth 100000 in
set_option maxHeartbeats 1000000 in
theorem implWriteDouble (N : Nat) (w : World) (h1 : (N : Int) < 18446744073709551616) :
    Calls Tryd.prog 11 #[.int .u64 N] w (WTo w (130 :: be8 N)) := by
  have hfb := float64frombits_run N
  simp only [Int.toNat_natCast] at hfb
  have R0 : Row ((w.alloc (.cells #[.slice none 0 0] 26)).alloc (.cells #[.bool false] 4)) w.heap.size 26 [.slice none 0 0] := (Row.alloc w [.slice none 0 0] 26).keep0 ((Ch.refl No _).alloc _)
  have R1 := Row.alloc (w.alloc (.cells #[.slice none 0 0] 26)) [.bool false] 4
  have hB := bf_new ((w.alloc (.cells #[.slice none 0 0] 26)).alloc (.cells #[.bool false] 4))
  have e2 : ((w.alloc (.cells #[.slice none 0 0] 26)).alloc (.cells #[.bool false] 4)).heap.size = w.heap.size + 1 + 1 := by simp
  have e1 : (w.alloc (.cells #[.slice none 0 0] 26)).heap.size = w.heap.size + 1 := by simp
  rw [e2] at hB
  rw [e1] at R1
  clear e2 e1
  go_enter_defers Tryd.func11, Tryd.ntmps11
  go_wp2_with (first | (go_at_call 32; refine (writeDouble_calls _ _ [] N _ hB (by simp) h1).mono ?_; rintro e w4 ⟨rfl, hBf, hchf⟩; rw [List.nil_append] at hBf; obtain ⟨L, hL⟩ : ∃ L, L = 130 :: be8 N := ⟨_, rfl⟩; rw [← hL] at hBf; have hLl : L.length ≤ 1099511620000 := (by rw [hL]; exact (by simp [be4, be8])); have HL := hid hL; clear hL) | (go_at_call 35; refine (bufBytes _ _ _ _ hBf).mono ?_; rintro e w5 ⟨A5, c5, rfl, hrd5, hle5, hch5⟩) | (go_at_call 34; refine (copied_calls A5 c5 _ _ (hrd5.keep0 hch5) (by omega)).mono ?_; rintro e w6 ⟨v6, rfl, ho6, hf6, hch6⟩; obtain ⟨A6, c6, rfl, hle6, _⟩ := ho6.slice; have K0 := ((R0.keep0 ((Ch.refl No _).alloc _)).keep hchf (fun h => by simp only [From] at h; omega)).keep0 (hch5.no_no hch6); have K1 := ((R1.keep0 ((Ch.refl No _).alloc _)).keep hchf (fun h => by simp only [From] at h; omega)).keep0 (hch5.no_no hch6)) | ((with_reducible refine gate (.store 26 (.tmp 2) _) rfl ?_); refine wp_store rfl rfl 26 _ _ rfl (w.heap.size) 0 26 [.slice none 0 0] (.slice A6 L.length c6) rfl rfl [.slice A6 L.length c6] rfl size_sl (by simp [Value.oneCell']) (K0) (by simp) ?_; intro w7 hrow7 hch7) | ((with_reducible refine gate (.store 4 (.tmp 3) _) rfl ?_); refine wp_store rfl rfl 4 _ _ rfl (w.heap.size + 1) 0 4 [.bool false] (.bool true) rfl rfl [.bool true] rfl size_bool (by simp [Value.oneCell']) (K1.keep hch7 (by omega)) (by simp) ?_; intro w8 hrow8 hch8))
  refine leaves_cons (f := 31) (args := #[.pointer (some ⟨w.heap.size, 0, none⟩), .pointer (some ⟨w.heap.size + 1, 0, none⟩)]) (by simp) (by simp [go_sem]) ?_
  refine (noData_idle _ _ _).mono ?_
  rintro e u' w'' ⟨rfl, rfl, rfl⟩
  have M0 := (hrow7.keep hch8 (by omega)).cell 0 _ rfl
  have M1 := hrow8.cell 0 _ rfl
  have hb0 : w.heap.size ≤ w.heap.size + 1 + 1 := by omega
  have HC : Ch No w w'' := ((((((((((Ch.refl No w).alloc _).alloc _).alloc _).from_no hchf hb0).no_no hch5).no_no hch6).freshg hch7 (Nat.le_refl _)).freshg hch8 (by omega)))
  have s4 := hchf.size
  simp only [World.size_alloc] at s4
  have s5 := hch5.size
  have hr8 := (ho6.rd.keep hch7 (fun ad had h => by subst had; have := hf6 _ rfl; omega)).keep hch8 (fun ad had h => by subst had; have := hf6 _ rfl; omega)
  rw [← HL.out]
  refine ⟨.tuple #[.slice A6 L.length c6, .bool true], ?_, A6, c6, rfl, hr8, hle6, HC⟩
  simp [results, Tryd.results11, go_sem, M0, M1]

end Go.Proofs.YtbdgkikipekmlaaDoor
