/- The walks of AMQP's writers of numbers. No condition. -/
import Derived.Test.YtckjclkpgdhcoaaDoorBuf
import Derived.Test.YtckjclkpgdhcoaaDoorTake
import Derived.Defers
import Derived.Recover
import Derived.Laws.Pointers
namespace Go.Proofs.YtckjclkpgdhcoaaDoor
set_option linter.unusedVariables false
set_option linter.unusedSimpArgs false
open Go.RowKit


set_option maxHeartbeats 1000000 in
theorem bufBytes (base p : Nat) (l : List Int) (w : World) (hB0 : Bf base p l w) :
    Calls Tryd.prog 22 #[.pointer (some ⟨p, 0, none⟩)] w fun e w' => ∃ A c, e = .returned (.slice A l.length c) ∧ Rd u8 w A l ∧ l.length ≤ c ∧ Ch No w w' := by
  obtain ⟨v, hB⟩ := hB0
  obtain ⟨A, c, rfl, hle, _⟩ := hB.ow.slice
  have hc0 := hB.rp.cell 0 _ rfl
  have hc1 := hB.rp.cell 1 _ rfl
  obtain ⟨A', hk2, hk3, hcut⟩ := Cut.ahead_l 23 5 Tryd.underlying23 size_u8 A l.length c 0 0 rfl .i64 (by omega)
  simp only [Nat.sub_zero] at hk2 hk3
  have hrd := hcut.drop hB.ow.rd rfl hle
  rw [List.drop_zero] at hrd
  go_enter Tryd.func22, Tryd.ntmps22
  go_wp2
  go_region
  all_goals
    go_wp2
    go_ret
    exact ⟨_, _, rfl, hrd, hle, by repeat (first | exact Ch.refl _ _ | apply Ch.drew | apply Ch.drewN)⟩
theorem noData_idle (p q : Addr) (w : World) :
    CallsD Tryd.prog 18 #[.pointer (some p), .pointer (some q)] .returning w fun e u' w' => e = .returned (.tuple #[]) ∧ u' = .returning ∧ w' = w := by
  refine callsD_of_wpS Tryd.func18 rfl fun c₀ cs hu => ?_
  apply wpS_seq
  apply wpS_region
  simp [wpOpsS, go_sem, recoverD, hu, Tryd.ntmps18, Exit.thenS]
  refine wpS_cond (t := false) (by simp [Act.eval, Array.replicate]) ?_
  simp only [Bool.false_eq_true, if_false]
  refine wpS_of_wp (wp_skip ?_)
  cases c₀
  simp_all [bodyPostS, results, Tryd.results18]
def WTo (w : World) (l : List Int) (e : Ending) (w' : World) : Prop := ∃ A c, e = .returned (.tuple #[.slice A l.length c, .bool true]) ∧ Rd u8 w' A l ∧ l.length ≤ c ∧ Ch No w w'
set_option maxHeartbeats 1000000 in
theorem writeFloat_in (base p : Nat) (l : List Int) (n : Nat) (w : World) (hB : Bf base p l w) (hl : l.length ≤ 1099511620000) (hn : (n : Int) < 4294967296) :
    Calls Tryd.prog 32 #[.pointer (some ⟨p, 0, none⟩), .float .f32 n] w (BfTo base p (l ++ 114 :: be4 n) w) := by
  have hfb := float32bits_run n
  go_enter Tryd.func32, Tryd.ntmps32
  go_wp2_with (first | (go_at_call 42; refine (bufByte base p l _ w hB (by omega)).mono ?_; rintro e w1 ⟨rfl, hB1, hch1⟩) | (go_at_call 43; refine (buf32 base p _ _ w1 hB1 (by simp; omega) (by omega) hn).mono ?_; rintro e w2 ⟨rfl, hB2, hch2⟩))

  go_end0
  exact ⟨rfl, by simpa using hB2, hch1.from_from hch2⟩
theorem writeFloat_calls (base p : Nat) (l : List Int) (n : Nat) (w : World) (hB : Bf base p l w) (hl : l.length ≤ 1099511620000) (hn : (n : Int) < 4294967296) :
    Calls Tryd.prog 19 #[.pointer (some ⟨p, 0, none⟩), .float .f32 n] w (BfTo base p (l ++ 114 :: be4 n) w) := by
  go_enter Tryd.func19, Tryd.ntmps19
  go_wp2_with (go_at_call 32; refine (writeFloat_in base p l n w hB hl hn).mono ?_; rintro e w1 ⟨rfl, hB1, hch1⟩)

  go_end0
  exact ⟨rfl, hB1, hch1⟩
def encUl (n : Int) : List Int := if n = 0 then [68] else if n < 256 then [83, n] else 128 :: be8 n
set_option maxHeartbeats 1000000 in
theorem writeUint64_in (base p : Nat) (l : List Int) (n : Int) (w : World) (hB : Bf base p l w) (hl : l.length ≤ 1099511620000) (h0 : 0 ≤ n) (h1 : n < 18446744073709551616) :
    Calls Tryd.prog 35 #[.pointer (some ⟨p, 0, none⟩), .int .u64 n] w (BfTo base p (l ++ encUl n) w) := by
  unfold encUl
  by_cases hz : n = 0
  · subst hz
    go_enter Tryd.func35, Tryd.ntmps35
    go_wp2_with (go_at_call 42; refine (bufByte base p l _ w hB (by omega)).mono ?_; rintro e w1 ⟨rfl, hB1, hch1⟩)

    go_end0
    exact ⟨rfl, by simpa using hB1, hch1⟩
  · have hz' : (n == 0) = false := by simpa using hz
    by_cases hs : n < 256
    · have hs' : decide (n < 256) = true := decide_eq_true hs
      go_enter Tryd.func35, Tryd.ntmps35
      go_wp2_with (go_at_call 37; refine (bufAppend base p l _ _ 2 [83, n] _ (hB.keep0 ((Ch.refl No w).alloc _)) (by omega) ((Row.alloc w [u8 83, u8 n] 5).rd (l := [83, n]) rfl) rfl (by omega)).mono ?_; rintro e w1 ⟨rfl, hB1, hch1⟩)

      first | go_end0 | refine bodyPost_ret (results_none rfl _ _ _) rfl ?_
      exact ⟨rfl, hB1, ((Ch.refl (From base) w).alloc _).from_from hch1⟩
    · have hs' : decide (n < 256) = false := decide_eq_false hs
      go_enter Tryd.func35, Tryd.ntmps35
      go_wp2_with (first | (go_at_call 42; refine (bufByte base p l _ w hB (by omega)).mono ?_; rintro e w1 ⟨rfl, hB1, hch1⟩) | (go_at_call 41; refine (buf64 base p _ _ w1 hB1 (by simp; omega) h0 h1).mono ?_; rintro e w2 ⟨rfl, hB2, hch2⟩))

      first | go_end0 | refine bodyPost_ret (results_none rfl _ _ _) rfl ?_
      exact ⟨rfl, by simpa using hB2, hch1.from_from hch2⟩
theorem writeUint64_calls (base p : Nat) (l : List Int) (n : Int) (w : World) (hB : Bf base p l w) (hl : l.length ≤ 1099511620000) (h0 : 0 ≤ n) (h1 : n < 18446744073709551616) :
    Calls Tryd.prog 25 #[.pointer (some ⟨p, 0, none⟩), .int .u64 n] w (BfTo base p (l ++ encUl n) w) := by
  go_enter Tryd.func25, Tryd.ntmps25
  go_wp2_with (go_at_call 35; refine (writeUint64_in base p l n w hB hl h0 h1).mono ?_; rintro e w1 ⟨rfl, hB1, hch1⟩)

  go_end0
  exact ⟨rfl, hB1, hch1⟩
/-- A new Buffer, empty. -/
theorem bf_new (w : World) : Bf w.heap.size w.heap.size [] (w.alloc (.cells #[.slice none 0 0, .int .i64 0] 52)) :=
  ⟨_, Row.alloc w [.slice none 0 0, .int .i64 0] 52, Ow.nil _ _ _, Nat.le_refl _, fun b h => absurd h Blk_nil, Blk_nil⟩
theorem size_bool : (Tryd.prog.info? 4).map (·.size) = some 1 := by kernel_rfl

theorem encUl_len (n : Int) : (encUl n).length ≤ 9 := by
  unfold encUl
  repeat' split
  all_goals simp [be8]
set_option maxRecDepth 100000 in
set_option maxHeartbeats 1000000 in
theorem implWriteUlong (n : Int) (w : World) (h0 : 0 ≤ n) (h1 : n < 18446744073709551616) :
    Calls Tryd.prog 11 #[.int .u64 n] w (WTo w (encUl n)) := by
  have R0 : Row ((w.alloc (.cells #[.slice none 0 0] 23)).alloc (.cells #[.bool false] 4)) w.heap.size 23 [.slice none 0 0] := (Row.alloc w [.slice none 0 0] 23).keep0 ((Ch.refl No _).alloc _)
  have R1 := Row.alloc (w.alloc (.cells #[.slice none 0 0] 23)) [.bool false] 4
  have hB := bf_new ((w.alloc (.cells #[.slice none 0 0] 23)).alloc (.cells #[.bool false] 4))
  have e2 : ((w.alloc (.cells #[.slice none 0 0] 23)).alloc (.cells #[.bool false] 4)).heap.size = w.heap.size + 1 + 1 := by simp
  have e1 : (w.alloc (.cells #[.slice none 0 0] 23)).heap.size = w.heap.size + 1 := by simp
  rw [e2] at hB
  rw [e1] at R1
  clear e2 e1
  go_enter_defers Tryd.func11, Tryd.ntmps11
  go_wp2_with (first | (go_at_call 25; refine (writeUint64_calls _ _ [] n _ hB (by simp) h0 h1).mono ?_; rintro e w4 ⟨rfl, hBf, hchf⟩; rw [List.nil_append] at hBf; obtain ⟨L, hL⟩ : ∃ L, L = encUl n := ⟨_, rfl⟩; rw [← hL] at hBf; have hLl : L.length ≤ 1099511620000 := (by rw [hL]; exact (Nat.le_trans (encUl_len n) (by omega))); have HL := hid hL; clear hL) | (go_at_call 22; refine (bufBytes _ _ _ _ hBf).mono ?_; rintro e w5 ⟨A5, c5, rfl, hrd5, hle5, hch5⟩) | (go_at_call 21; refine (copied_calls A5 c5 _ _ (hrd5.keep0 hch5) (by omega)).mono ?_; rintro e w6 ⟨v6, rfl, ho6, hf6, hch6⟩; obtain ⟨A6, c6, rfl, hle6, _⟩ := ho6.slice; have K0 := ((R0.keep0 ((Ch.refl No _).alloc _)).keep hchf (fun h => by simp only [From] at h; omega)).keep0 (hch5.no_no hch6); have K1 := ((R1.keep0 ((Ch.refl No _).alloc _)).keep hchf (fun h => by simp only [From] at h; omega)).keep0 (hch5.no_no hch6)) | ((with_reducible refine gate (.store 23 (.tmp 2) _) rfl ?_); refine wp_store rfl rfl 23 _ _ rfl (w.heap.size) 0 23 [.slice none 0 0] (.slice A6 L.length c6) rfl rfl [.slice A6 L.length c6] rfl size_sl (by simp [Value.oneCell']) (K0) (by simp) ?_; intro w7 hrow7 hch7) | ((with_reducible refine gate (.store 4 (.tmp 3) _) rfl ?_); refine wp_store rfl rfl 4 _ _ rfl (w.heap.size + 1) 0 4 [.bool false] (.bool true) rfl rfl [.bool true] rfl size_bool (by simp [Value.oneCell']) (K1.keep hch7 (by omega)) (by simp) ?_; intro w8 hrow8 hch8))
  refine leaves_cons (f := 18) (args := #[.pointer (some ⟨w.heap.size, 0, none⟩), .pointer (some ⟨w.heap.size + 1, 0, none⟩)]) (by simp) (by simp [go_sem]) ?_
  refine (noData_idle _ _ _).mono ?_
  rintro e u' w'' ⟨rfl, rfl, rfl⟩
  have M0 := (hrow7.keep hch8 (by omega)).cell 0 _ rfl
  have M1 := hrow8.cell 0 _ rfl
  have hb0 : w.heap.size ≤ w.heap.size + 1 + 1 := by omega
  have HC : Ch No w w'' := ((((((((((Ch.refl No w).alloc _).alloc _).alloc _).from_no hchf hb0).no_no hch5).no_no hch6).freshg hch7 (Nat.le_refl _)).freshg hch8 (by omega)))
  have s4 := hchf.size
  simp only [World.size_alloc] at s4
  have s5 := hch5.size
  have hr8 := (ho6.rd.keep hch7 (fun ad had h => by subst had; have := hf6 _ rfl; omega)).keep hch8 (fun ad had h => by subst had; have := hf6 _ rfl; omega)
  rw [← HL.out]
  refine ⟨.tuple #[.slice A6 L.length c6, .bool true], ?_, A6, c6, rfl, hr8, hle6, HC⟩
  simp [results, Tryd.results11, go_sem, M0, M1]

set_option maxRecDepth 100000 in
set_option maxHeartbeats 1000000 in
theorem implWriteFloat (N : Nat) (w : World) (h1 : (N : Int) < 4294967296) :
    Calls Tryd.prog 9 #[.int .u32 N] w (WTo w (114 :: be4 N)) := by
  have hfb := float32frombits_run N
  simp only [Int.toNat_natCast] at hfb
  have R0 : Row ((w.alloc (.cells #[.slice none 0 0] 23)).alloc (.cells #[.bool false] 4)) w.heap.size 23 [.slice none 0 0] := (Row.alloc w [.slice none 0 0] 23).keep0 ((Ch.refl No _).alloc _)
  have R1 := Row.alloc (w.alloc (.cells #[.slice none 0 0] 23)) [.bool false] 4
  have hB := bf_new ((w.alloc (.cells #[.slice none 0 0] 23)).alloc (.cells #[.bool false] 4))
  have e2 : ((w.alloc (.cells #[.slice none 0 0] 23)).alloc (.cells #[.bool false] 4)).heap.size = w.heap.size + 1 + 1 := by simp
  have e1 : (w.alloc (.cells #[.slice none 0 0] 23)).heap.size = w.heap.size + 1 := by simp
  rw [e2] at hB
  rw [e1] at R1
  clear e2 e1
  go_enter_defers Tryd.func9, Tryd.ntmps9
  go_wp2_with (first | (go_at_call 19; refine (writeFloat_calls _ _ [] N _ hB (by simp) h1).mono ?_; rintro e w4 ⟨rfl, hBf, hchf⟩; rw [List.nil_append] at hBf; obtain ⟨L, hL⟩ : ∃ L, L = 114 :: be4 N := ⟨_, rfl⟩; rw [← hL] at hBf; have hLl : L.length ≤ 1099511620000 := (by rw [hL]; exact (by simp [be4, be8])); have HL := hid hL; clear hL) | (go_at_call 22; refine (bufBytes _ _ _ _ hBf).mono ?_; rintro e w5 ⟨A5, c5, rfl, hrd5, hle5, hch5⟩) | (go_at_call 21; refine (copied_calls A5 c5 _ _ (hrd5.keep0 hch5) (by omega)).mono ?_; rintro e w6 ⟨v6, rfl, ho6, hf6, hch6⟩; obtain ⟨A6, c6, rfl, hle6, _⟩ := ho6.slice; have K0 := ((R0.keep0 ((Ch.refl No _).alloc _)).keep hchf (fun h => by simp only [From] at h; omega)).keep0 (hch5.no_no hch6); have K1 := ((R1.keep0 ((Ch.refl No _).alloc _)).keep hchf (fun h => by simp only [From] at h; omega)).keep0 (hch5.no_no hch6)) | ((with_reducible refine gate (.store 23 (.tmp 2) _) rfl ?_); refine wp_store rfl rfl 23 _ _ rfl (w.heap.size) 0 23 [.slice none 0 0] (.slice A6 L.length c6) rfl rfl [.slice A6 L.length c6] rfl size_sl (by simp [Value.oneCell']) (K0) (by simp) ?_; intro w7 hrow7 hch7) | ((with_reducible refine gate (.store 4 (.tmp 3) _) rfl ?_); refine wp_store rfl rfl 4 _ _ rfl (w.heap.size + 1) 0 4 [.bool false] (.bool true) rfl rfl [.bool true] rfl size_bool (by simp [Value.oneCell']) (K1.keep hch7 (by omega)) (by simp) ?_; intro w8 hrow8 hch8))
  refine leaves_cons (f := 18) (args := #[.pointer (some ⟨w.heap.size, 0, none⟩), .pointer (some ⟨w.heap.size + 1, 0, none⟩)]) (by simp) (by simp [go_sem]) ?_
  refine (noData_idle _ _ _).mono ?_
  rintro e u' w'' ⟨rfl, rfl, rfl⟩
  have M0 := (hrow7.keep hch8 (by omega)).cell 0 _ rfl
  have M1 := hrow8.cell 0 _ rfl
  have hb0 : w.heap.size ≤ w.heap.size + 1 + 1 := by omega
  have HC : Ch No w w'' := ((((((((((Ch.refl No w).alloc _).alloc _).alloc _).from_no hchf hb0).no_no hch5).no_no hch6).freshg hch7 (Nat.le_refl _)).freshg hch8 (by omega)))
  have s4 := hchf.size
  simp only [World.size_alloc] at s4
  have s5 := hch5.size
  have hr8 := (ho6.rd.keep hch7 (fun ad had h => by subst had; have := hf6 _ rfl; omega)).keep hch8 (fun ad had h => by subst had; have := hf6 _ rfl; omega)
  rw [← HL.out]
  refine ⟨.tuple #[.slice A6 L.length c6, .bool true], ?_, A6, c6, rfl, hr8, hle6, HC⟩
  simp [results, Tryd.results9, go_sem, M0, M1]

end Go.Proofs.YtckjclkpgdhcoaaDoor
