/- The walks of the program's own writers of arrays of AMQP. No condition. -/
import Derived.Test.YtckjclkpgdhcoaaDoorAmpB
namespace Go.Proofs.YtckjclkpgdhcoaaDoor
set_option linter.unusedVariables false
set_option linter.unusedSimpArgs false
open Go.RowKit

theorem info_implArrUb : (Tryd.prog.info? 5).map (fun i => (i.zero, i.size, i.bytes)) = some (some (.int .u8 0), 1, 1) := by kernel_rfl
set_option maxRecDepth 100000 in
set_option maxHeartbeats 2000000 in
theorem implArrUb (A : Option Addr) (c : Nat) (l : List Int) (w : World) (hr : Rd (Value.int .u8) w A l) (hn : l.length ≤ 300)  :
    Calls Tryd.prog 12 #[.slice A l.length c] w (WTo w (hdrB l.length 1 80 ++ l)) := by
  obtain ⟨L, hL⟩ : ∃ L, L = hdrB l.length 1 80 ++ l := ⟨_, rfl⟩
  rw [← hL]
  have hLl : L.length ≤ 1099511620000 := by rw [hL, List.length_append]; have h1 : (hdrB _ _ _).length ≤ 10 := (by unfold hdrB; split <;> simp [be4] : (hdrB (l.length : Int) 1 80).length ≤ 10); skip; omega
  have HL := hid hL
  clear hL
  have R0 : Row ((w.alloc (.cells #[.slice none 0 0] 23)).alloc (.cells #[.bool false] 4)) w.heap.size 23 [.slice none 0 0] := (Row.alloc w [.slice none 0 0] 23).keep0 ((Ch.refl No _).alloc _)
  have R1 := Row.alloc (w.alloc (.cells #[.slice none 0 0] 23)) [.bool false] 4
  have e1 : (w.alloc (.cells #[.slice none 0 0] 23)).heap.size = w.heap.size + 1 := by simp
  rw [e1] at R1
  have C0 : Ch No w ((w.alloc (.cells #[.slice none 0 0] 23)).alloc (.cells #[.bool false] 4)) := ((Ch.refl No w).alloc _).alloc _
  have e2 : ((w.alloc (.cells #[.slice none 0 0] 23)).alloc (.cells #[.bool false] 4)).heap.size = w.heap.size + 1 + 1 := by simp
  have E2 := hid e2
  have hr0 := hr.keep0 C0
  clear e1 e2
  go_enter_defers Tryd.func12, Tryd.ntmps12
  go_wp2_with fail
  go_loopg [4, 10] l.length (fun kk s4 s10 wr => ∃ i : Nat, kk + i = l.length ∧ s10 = .int .i64 i ∧ Ow 5 (Value.int .u8) wr s4 (l.take i) ∧ Ch No ((w.alloc (.cells #[.slice none 0 0] 23)).alloc (.cells #[.bool false] 4)) wr ∧ ∀ b, Blk s4 b → ((w.alloc (.cells #[.slice none 0 0] 23)).alloc (.cells #[.bool false] 4)).heap.size ≤ b)
  case atStart => exact ⟨0, by omega, rfl, Ow.nil _ _ _, Ch.refl _ _, fun b hb => absurd hb Blk_nil⟩
  case round =>
    obtain ⟨i, hki, rfl, HO, hch, hfr⟩ := hrel
    by_cases hi : i < l.length
    · obtain ⟨bk, off, rfl, hcell⟩ := (hr0.keep0 hch).at_ i hi
      have hi' : (i : Int) < l.length := by omega
      have hi0 : (0 : Int) ≤ i := by omega
      have HT := hid (List.take_succ_eq_append_getElem hi)
      generalize l[i] = x at hcell HT ⊢
      have hil : (l.take i).length ≤ 1000 := by rw [List.length_take]; omega
      go_wp2_with ((with_reducible refine gate (.call { callee := .builtin .append, args := #[.tmp _, .tmp _], argTypes := #[62, 62] }) rfl ?_); refine wp_append rfl _ _ 62 5 (.int .u8 0) 1 rfl Tryd.underlying62 info_implArrUb rfl (by decide) (Value.int .u8) (fun _ => rfl) _ (l.take i) [x] _ _ _ rfl rfl rfl (HO.keep0 ((Ch.refl No wr).alloc _)) ((Row.alloc wr [Value.int .u8 x] 5).rd (l := [x]) rfl) (by omega) ?_; intro v1 w2 ho2 hch2 hat2)
      go_roundg (gk - 1)
      case measure => omega
      case rel =>
        have hs := hch.size
        refine ⟨i + 1, by omega, by go_num, by rw [HT.out]; exact ho2, (hch.alloc _).trans hch2 (fun _ h => h) (fun b hb => .inr (hfr b hb)), fun b hb => ?_⟩
        rcases hat2 b hb with h | h
        · exact hfr b h
        · simp only [World.size_alloc] at h hs ⊢
          omega
    · obtain rfl : i = l.length := by omega
      rw [List.take_length] at HO
      obtain ⟨AA, ca, rfl, hla, _⟩ := HO.slice
      have hB := bf_new wr
      have hAA : ∀ ad, AA = some ad → ad.block < wr.heap.size := fun ad had => HO.blk_lt _ (by subst had; rfl)
      have s0 := hch.size
      rw [E2.out] at s0
      have K0 := (R0.keep0 hch)
      have K1 := (R1.keep0 hch)
      have hma := marshUb wr.heap.size wr.heap.size AA ca l [] (wr.alloc (.cells #[.slice none 0 0, .int .i64 0] 52)) hB (HO.rd.keep0 ((Ch.refl No wr).alloc _)) hAA (by omega) (by simp)
      rw [List.nil_append, ← HL.out] at hma
      have HMA := hid hma
      clear hma
      go_wp2_with fail
      refine HMA.out.mono ?_
      rintro e w4 ⟨rfl, hBf, hchf⟩
      go_wp2_with (first | (go_at_call 22; refine (bufBytes _ _ _ _ hBf).mono ?_; rintro e w5 ⟨A5, c5, rfl, hrd5, hle5, hch5⟩) | (go_at_call 21; refine (copied_calls A5 c5 _ _ (hrd5.keep0 hch5) (by omega)).mono ?_; rintro e w6 ⟨v6, rfl, ho6, hf6, hch6⟩; obtain ⟨A6, c6, rfl, hle6, _⟩ := ho6.slice; have M0 := ((K0.keep0 ((Ch.refl No _).alloc _)).keep hchf (fun h => by simp only [From] at h; omega)).keep0 (hch5.no_no hch6); have M1 := ((K1.keep0 ((Ch.refl No _).alloc _)).keep hchf (fun h => by simp only [From] at h; omega)).keep0 (hch5.no_no hch6)) | ((with_reducible refine gate (.store 23 (.tmp 2) _) rfl ?_); refine wp_store rfl rfl 23 _ _ rfl (w.heap.size) 0 23 [.slice none 0 0] (.slice A6 L.length c6) rfl rfl [.slice A6 L.length c6] rfl size_sl (by simp [Value.oneCell']) (M0) (by simp) ?_; intro w7 hrow7 hch7) | ((with_reducible refine gate (.store 4 (.tmp 3) _) rfl ?_); refine wp_store rfl rfl 4 _ _ rfl (w.heap.size + 1) 0 4 [.bool false] (.bool true) rfl rfl [.bool true] rfl size_bool (by simp [Value.oneCell']) (M1.keep hch7 (by omega)) (by simp) ?_; intro w8 hrow8 hch8))
      refine leaves_cons (f := 18) (args := #[.pointer (some ⟨w.heap.size, 0, none⟩), .pointer (some ⟨w.heap.size + 1, 0, none⟩)]) (by simp) (by simp [go_sem]) ?_
      refine (noData_idle _ _ _).mono ?_
      rintro e u' w'' ⟨rfl, rfl, rfl⟩
      have N0 := (hrow7.keep hch8 (by omega)).cell 0 _ rfl
      have N1 := hrow8.cell 0 _ rfl
      have HC : Ch No w w'' := ((((((C0.no_no hch).alloc _).from_no hchf (by omega)).no_no hch5).no_no hch6).freshg hch7 (Nat.le_refl _)).freshg hch8 (by omega)
      have s4 := hchf.size
      simp only [World.size_alloc] at s4
      have s5 := hch5.size
      have hr8 := (ho6.rd.keep hch7 (fun ad had h => by subst had; have := hf6 _ rfl; omega)).keep hch8 (fun ad had h => by subst had; have := hf6 _ rfl; omega)
      refine ⟨.tuple #[.slice A6 L.length c6, .bool true], ?_, A6, c6, rfl, hr8, hle6, HC⟩
      simp [results, Tryd.results12, go_sem, N0, N1]
theorem info_implArrShort : (Tryd.prog.info? 38).map (fun i => (i.zero, i.size, i.bytes)) = some (some (.int .i16 0), 1, 2) := by kernel_rfl
set_option maxRecDepth 100000 in
set_option maxHeartbeats 2000000 in
theorem implArrShort (A : Option Addr) (c : Nat) (l : List Int) (w : World) (hr : Rd (Value.int .i16) w A l) (hn : l.length ≤ 300) (hx : ∀ x ∈ l, -32768 ≤ x ∧ x < 32768) :
    Calls Tryd.prog 13 #[.slice A l.length c] w (WTo w (hdrB l.length 2 97 ++ l.flatMap fun x => be2 (x % 65536))) := by
  obtain ⟨L, hL⟩ : ∃ L, L = hdrB l.length 2 97 ++ l.flatMap fun x => be2 (x % 65536) := ⟨_, rfl⟩
  rw [← hL]
  have hLl : L.length ≤ 1099511620000 := by rw [hL, List.length_append]; have h1 : (hdrB _ _ _).length ≤ 10 := (by unfold hdrB; split <;> simp [be4] : (hdrB (l.length : Int) 2 97).length ≤ 10); have h2 := flat_le (fun x : Int => be2 (x % 65536)) 2 (fun x => by simp [be2]) l; omega
  have HL := hid hL
  clear hL
  have R0 : Row ((w.alloc (.cells #[.slice none 0 0] 23)).alloc (.cells #[.bool false] 4)) w.heap.size 23 [.slice none 0 0] := (Row.alloc w [.slice none 0 0] 23).keep0 ((Ch.refl No _).alloc _)
  have R1 := Row.alloc (w.alloc (.cells #[.slice none 0 0] 23)) [.bool false] 4
  have e1 : (w.alloc (.cells #[.slice none 0 0] 23)).heap.size = w.heap.size + 1 := by simp
  rw [e1] at R1
  have C0 : Ch No w ((w.alloc (.cells #[.slice none 0 0] 23)).alloc (.cells #[.bool false] 4)) := ((Ch.refl No w).alloc _).alloc _
  have e2 : ((w.alloc (.cells #[.slice none 0 0] 23)).alloc (.cells #[.bool false] 4)).heap.size = w.heap.size + 1 + 1 := by simp
  have E2 := hid e2
  have hr0 := hr.keep0 C0
  clear e1 e2
  go_enter_defers Tryd.func13, Tryd.ntmps13
  go_wp2_with fail
  go_loopg [4, 10] l.length (fun kk s4 s10 wr => ∃ i : Nat, kk + i = l.length ∧ s10 = .int .i64 i ∧ Ow 38 (Value.int .i16) wr s4 (l.take i) ∧ Ch No ((w.alloc (.cells #[.slice none 0 0] 23)).alloc (.cells #[.bool false] 4)) wr ∧ ∀ b, Blk s4 b → ((w.alloc (.cells #[.slice none 0 0] 23)).alloc (.cells #[.bool false] 4)).heap.size ≤ b)
  case atStart => exact ⟨0, by omega, rfl, Ow.nil _ _ _, Ch.refl _ _, fun b hb => absurd hb Blk_nil⟩
  case round =>
    obtain ⟨i, hki, rfl, HO, hch, hfr⟩ := hrel
    by_cases hi : i < l.length
    · obtain ⟨bk, off, rfl, hcell⟩ := (hr0.keep0 hch).at_ i hi
      have hi' : (i : Int) < l.length := by omega
      have hi0 : (0 : Int) ≤ i := by omega
      have HT := hid (List.take_succ_eq_append_getElem hi)
      generalize l[i] = x at hcell HT ⊢
      have hil : (l.take i).length ≤ 1000 := by rw [List.length_take]; omega
      go_wp2_with ((with_reducible refine gate (.call { callee := .builtin .append, args := #[.tmp _, .tmp _], argTypes := #[66, 66] }) rfl ?_); refine wp_append rfl _ _ 66 38 (.int .i16 0) 2 rfl Tryd.underlying66 info_implArrShort rfl (by decide) (Value.int .i16) (fun _ => rfl) _ (l.take i) [x] _ _ _ rfl rfl rfl (HO.keep0 ((Ch.refl No wr).alloc _)) ((Row.alloc wr [Value.int .i16 x] 38).rd (l := [x]) rfl) (by omega) ?_; intro v1 w2 ho2 hch2 hat2)
      go_roundg (gk - 1)
      case measure => omega
      case rel =>
        have hs := hch.size
        refine ⟨i + 1, by omega, by go_num, by rw [HT.out]; exact ho2, (hch.alloc _).trans hch2 (fun _ h => h) (fun b hb => .inr (hfr b hb)), fun b hb => ?_⟩
        rcases hat2 b hb with h | h
        · exact hfr b h
        · simp only [World.size_alloc] at h hs ⊢
          omega
    · obtain rfl : i = l.length := by omega
      rw [List.take_length] at HO
      obtain ⟨AA, ca, rfl, hla, _⟩ := HO.slice
      have hB := bf_new wr
      have hAA : ∀ ad, AA = some ad → ad.block < wr.heap.size := fun ad had => HO.blk_lt _ (by subst had; rfl)
      have s0 := hch.size
      rw [E2.out] at s0
      have K0 := (R0.keep0 hch)
      have K1 := (R1.keep0 hch)
      have hma := marshShort wr.heap.size wr.heap.size AA ca l [] (wr.alloc (.cells #[.slice none 0 0, .int .i64 0] 52)) hB (HO.rd.keep0 ((Ch.refl No wr).alloc _)) hAA (by omega) (by simp) hx
      rw [List.nil_append, ← HL.out] at hma
      have HMA := hid hma
      clear hma
      go_wp2_with fail
      refine HMA.out.mono ?_
      rintro e w4 ⟨rfl, hBf, hchf⟩
      go_wp2_with (first | (go_at_call 22; refine (bufBytes _ _ _ _ hBf).mono ?_; rintro e w5 ⟨A5, c5, rfl, hrd5, hle5, hch5⟩) | (go_at_call 21; refine (copied_calls A5 c5 _ _ (hrd5.keep0 hch5) (by omega)).mono ?_; rintro e w6 ⟨v6, rfl, ho6, hf6, hch6⟩; obtain ⟨A6, c6, rfl, hle6, _⟩ := ho6.slice; have M0 := ((K0.keep0 ((Ch.refl No _).alloc _)).keep hchf (fun h => by simp only [From] at h; omega)).keep0 (hch5.no_no hch6); have M1 := ((K1.keep0 ((Ch.refl No _).alloc _)).keep hchf (fun h => by simp only [From] at h; omega)).keep0 (hch5.no_no hch6)) | ((with_reducible refine gate (.store 23 (.tmp 2) _) rfl ?_); refine wp_store rfl rfl 23 _ _ rfl (w.heap.size) 0 23 [.slice none 0 0] (.slice A6 L.length c6) rfl rfl [.slice A6 L.length c6] rfl size_sl (by simp [Value.oneCell']) (M0) (by simp) ?_; intro w7 hrow7 hch7) | ((with_reducible refine gate (.store 4 (.tmp 3) _) rfl ?_); refine wp_store rfl rfl 4 _ _ rfl (w.heap.size + 1) 0 4 [.bool false] (.bool true) rfl rfl [.bool true] rfl size_bool (by simp [Value.oneCell']) (M1.keep hch7 (by omega)) (by simp) ?_; intro w8 hrow8 hch8))
      refine leaves_cons (f := 18) (args := #[.pointer (some ⟨w.heap.size, 0, none⟩), .pointer (some ⟨w.heap.size + 1, 0, none⟩)]) (by simp) (by simp [go_sem]) ?_
      refine (noData_idle _ _ _).mono ?_
      rintro e u' w'' ⟨rfl, rfl, rfl⟩
      have N0 := (hrow7.keep hch8 (by omega)).cell 0 _ rfl
      have N1 := hrow8.cell 0 _ rfl
      have HC : Ch No w w'' := ((((((C0.no_no hch).alloc _).from_no hchf (by omega)).no_no hch5).no_no hch6).freshg hch7 (Nat.le_refl _)).freshg hch8 (by omega)
      have s4 := hchf.size
      simp only [World.size_alloc] at s4
      have s5 := hch5.size
      have hr8 := (ho6.rd.keep hch7 (fun ad had h => by subst had; have := hf6 _ rfl; omega)).keep hch8 (fun ad had h => by subst had; have := hf6 _ rfl; omega)
      refine ⟨.tuple #[.slice A6 L.length c6, .bool true], ?_, A6, c6, rfl, hr8, hle6, HC⟩
      simp [results, Tryd.results13, go_sem, N0, N1]

end Go.Proofs.YtckjclkpgdhcoaaDoor
