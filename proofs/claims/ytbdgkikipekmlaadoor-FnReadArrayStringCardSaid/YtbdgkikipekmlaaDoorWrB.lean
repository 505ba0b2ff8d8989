/- The walk of AMQP's writer of bytes: a sample. No condition. -/
import Derived.Test.YtbdgkikipekmlaaDoorWrD
namespace Go.Proofs.YtbdgkikipekmlaaDoor
set_option linter.unusedVariables false
set_option linter.unusedSimpArgs false
open Go.RowKit

/-- It has been written, and no error comes back. -/
def MTo (base p : Nat) (l : List Int) (w : World) (e : Ending) (w' : World) : Prop := e = .returned .nilIface ∧ Bf base p l w' ∧ Ch (From base) w w'
set_option maxHeartbeats 1000000 in
theorem writeBin_calls (base p : Nat) (l : List Int) (A : Option Addr) (c : Nat) (w : World) (hB : Bf base p l w) (hl : l.length ≤ 1099511620000) (hr : Rd u8 w A [97]) (hA : ∀ ad, A = some ad → ad.block < base) (hbw : base ≤ w.heap.size) :
    Calls Tryd.prog 49 #[.pointer (some ⟨p, 0, none⟩), .slice A 1 c] w (MTo base p (l ++ [160, 1, 97]) w) := by
  go_enter Tryd.func49, Tryd.ntmps49
  go_wp2_with fail
  refine (bufAppend base p l _ _ 2 [160, 1] _ (hB.keep0 ((Ch.refl No w).alloc _)) (by omega) ((Row.alloc w [u8 160, u8 1] 5).rd (l := [160, 1]) rfl) rfl (by omega)).mono ?_
  rintro e w1 ⟨rfl, hB1, hch1⟩
  have hr1 : Rd u8 w1 A [97] := (hr.keep0 ((Ch.refl No w).alloc (.cells #[.int .u8 160, .int .u8 1] 5))).keep hch1 (fun ad had h => by have h8 := hA ad had; have h9 : base ≤ ad.block := h; omega)
  go_wp2_with fail
  refine (bufAppend base p (l ++ [160, 1]) A c 1 [97] w1 hB1 (by simp; omega) hr1 rfl (by omega)).mono ?_
  rintro e w2 ⟨rfl, hB2, hch2⟩
  go_wp2_with fail
  go_ret
  exact ⟨rfl, by simpa using hB2, (((Ch.refl (From base) w).alloc _).from_from hch1).from_from hch2⟩
set_option maxRecDepth 100000 in
set_option maxHeartbeats 1000000 in
theorem implWriteBin (A : Option Addr) (c : Nat) (w : World) (hr : Rd u8 w A [97]) (hA : ∀ ad, A = some ad → ad.block < w.heap.size) :
    Calls Tryd.prog 19 #[.slice A 1 c] w (WTo w ([160, 1, 97])) := by
  have hr3 : Rd u8 (((w.alloc (.cells #[.slice none 0 0] 26)).alloc (.cells #[.bool false] 4)).alloc (.cells #[.slice none 0 0, .int .i64 0] 66)) A [97] := ((hr.keep0 ((Ch.refl No w).alloc _)).keep0 ((Ch.refl No _).alloc _)).keep0 ((Ch.refl No _).alloc _)
  have hA3 : ∀ ad, A = some ad → ad.block < w.heap.size + 1 + 1 := fun ad h => by have := hA ad h; omega
  have R0 : Row ((w.alloc (.cells #[.slice none 0 0] 26)).alloc (.cells #[.bool false] 4)) w.heap.size 26 [.slice none 0 0] := (Row.alloc w [.slice none 0 0] 26).keep0 ((Ch.refl No _).alloc _)
  have R1 := Row.alloc (w.alloc (.cells #[.slice none 0 0] 26)) [.bool false] 4
  have hB := bf_new ((w.alloc (.cells #[.slice none 0 0] 26)).alloc (.cells #[.bool false] 4))
  have e2 : ((w.alloc (.cells #[.slice none 0 0] 26)).alloc (.cells #[.bool false] 4)).heap.size = w.heap.size + 1 + 1 := by simp
  have e1 : (w.alloc (.cells #[.slice none 0 0] 26)).heap.size = w.heap.size + 1 := by simp
  rw [e2] at hB
  rw [e1] at R1
  clear e2 e1
  have hma := writeBin_calls _ _ [] A c _ hB (by simp) hr3 hA3 (by simp)
  rw [List.nil_append] at hma
  obtain ⟨L, hL⟩ : ∃ L : List Int, L = [160, 1, 97] := ⟨_, rfl⟩
  rw [← hL] at hma
  have hLl : L.length ≤ 1099511620000 := (by rw [hL]; exact (by simp))
  have HL := hid hL
  have HMA := hid hma
  clear hL hma
  go_enter_defers Tryd.func19, Tryd.ntmps19
  go_wp2_with fail
  refine HMA.out.mono ?_
  rintro e w4 ⟨rfl, hBf, hchf⟩
  go_wp2_with (first | (go_at_call 35; refine (bufBytes _ _ _ _ hBf).mono ?_; rintro e w5 ⟨A5, c5, rfl, hrd5, hle5, hch5⟩) | (go_at_call 34; refine (copied_calls A5 c5 _ _ (hrd5.keep0 hch5) (by omega)).mono ?_; rintro e w6 ⟨v6, rfl, ho6, hf6, hch6⟩; obtain ⟨A6, c6, rfl, hle6, _⟩ := ho6.slice; have K0 := ((R0.keep0 ((Ch.refl No _).alloc _)).keep hchf (fun h => by simp only [From] at h; omega)).keep0 (hch5.no_no hch6); have K1 := ((R1.keep0 ((Ch.refl No _).alloc _)).keep hchf (fun h => by simp only [From] at h; omega)).keep0 (hch5.no_no hch6)) | ((with_reducible refine gate (.store 26 (.tmp 2) _) rfl ?_); refine wp_store rfl rfl 26 _ _ rfl (w.heap.size) 0 26 [.slice none 0 0] (.slice A6 L.length c6) rfl rfl [.slice A6 L.length c6] rfl size_sl (by simp [Value.oneCell']) (K0) (by simp) ?_; intro w7 hrow7 hch7) | ((with_reducible refine gate (.store 4 (.tmp 3) _) rfl ?_); refine wp_store rfl rfl 4 _ _ rfl (w.heap.size + 1) 0 4 [.bool false] (.bool true) rfl rfl [.bool true] rfl size_bool (by simp [Value.oneCell']) (K1.keep hch7 (by omega)) (by simp) ?_; intro w8 hrow8 hch8))
  refine leaves_cons (f := 31) (args := #[.pointer (some ⟨w.heap.size, 0, none⟩), .pointer (some ⟨w.heap.size + 1, 0, none⟩)]) (by simp) (by simp [go_sem]) ?_
  refine (noData_idle _ _ _).mono ?_
  rintro e u' w'' ⟨rfl, rfl, rfl⟩
  have M0 := (hrow7.keep hch8 (by omega)).cell 0 _ rfl
  have M1 := hrow8.cell 0 _ rfl
  have hb0 : w.heap.size ≤ w.heap.size + 1 + 1 := by omega
  have HC : Ch No w w'' := ((((((((((Ch.refl No w).alloc _).alloc _).alloc _).from_no hchf hb0).no_no hch5).no_no hch6).freshg hch7 (Nat.le_refl _)).freshg hch8 (by omega)))
  have s4 := hchf.size
  simp only [World.size_alloc] at s4
  have s5 := hch5.size
  have hr8 := (ho6.rd.keep hch7 (fun ad had h => by subst had; have := hf6 _ rfl; omega)).keep hch8 (fun ad had h => by subst had; have := hf6 _ rfl; omega)
  rw [← HL.out]
  refine ⟨.tuple #[.slice A6 L.length c6, .bool true], ?_, A6, c6, rfl, hr8, hle6, HC⟩
  simp [results, Tryd.results19, go_sem, M0, M1]

end Go.Proofs.YtbdgkikipekmlaaDoor
