/- The walks of AMQP's writer of arrays of timestamps, and of the reference's question which are asked. No condition. -/
import Derived.Test.YtckjclkpgdhcoaaDoorAmpE
namespace Go.Proofs.YtckjclkpgdhcoaaDoor
set_option linter.unusedVariables false
set_option linter.unusedSimpArgs false
open Go.RowKit

theorem RdK.two {w : World} {A : Option Addr} {l : List Int} (h : RdK tmc w A l) (i : Nat) (hi : i < l.length) : ∃ b, A = some ⟨b, 0, none⟩ ∧ w.cell? ⟨b, i * 2, none⟩ = some (.int .i64 (l[i] / 1000)) ∧ w.cell? ⟨b, i * 2 + 1, none⟩ = some (.int .i64 (l[i] % 1000 * 1000000)) := by
  obtain ⟨b, e, hc⟩ := h (by omega)
  exact ⟨b, e, hc (i * 2 + 0) _ (by rw [flatK (S := 2) (fun _ => rfl) l i hi 0 (by omega)]; rfl), hc (i * 2 + 1) _ (by rw [flatK (S := 2) (fun _ => rfl) l i hi 1 (by omega)]; rfl)⟩
theorem quo_nano (x : Int) : (x * 1000000).tdiv 1000000 = x := Int.mul_tdiv_cancel x (by omega)
set_option maxRecDepth 100000 in
set_option maxHeartbeats 1000000 in
theorem marshTs (base p : Nat) (A : Option Addr) (c : Nat) (l l0 : List Int) (w : World) (hB : Bf base p l0 w) (hr : RdK tmc w A l) (hA : ∀ ad, A = some ad → ad.block < base) (hn : l.length ≤ 1000) (hl0 : l0.length ≤ 1000) (hx : ∀ x ∈ l, -9200000000000 ≤ x ∧ x ≤ 9200000000000) :
    Calls Tryd.prog 31 #[.slice A l.length c, .pointer (some ⟨p, 0, none⟩)] w (MTo base p (l0 ++ (hdrB l.length 8 131 ++ l.flatMap fun x => be8 (x % 18446744073709551616))) w) := by
  have hd9 : (hdrB (l.length : Int) 8 131).length ≤ 10 := by unfold hdrB; split <;> simp [be4]
  have hfl : ∀ i, ((l.take i).flatMap fun x => be8 (x % 18446744073709551616)).length ≤ 16000 := fun i => by
    have h := flat_le (fun x : Int => be8 (x % 18446744073709551616)) 16 (fun x => by simp [be8]) (l.take i)
    have : (l.take i).length ≤ 1000 := by rw [List.length_take]; omega
    omega
  have HFL := hid hfl
  obtain ⟨H, hH⟩ : ∃ H, H = hdrB (l.length : Int) 8 131 := ⟨_, rfl⟩
  rw [← hH] at hd9 ⊢
  have HH := hid hH
  have HD9 := hid hd9
  clear hfl hd9 hH
  go_enter Tryd.func31, Tryd.ntmps31
  go_wp2_with (go_at_call 36; refine (arrHead_8 base p l0 _ 131 w hB (by omega) (by omega) (by omega) (by omega) (by omega)).mono ?_; rintro e w1 ⟨rfl, hB1, hch1⟩)

  rw [← HH.out] at hB1
  have hr1 := hr.keep hch1 (fun ad had h => by have := hA ad had; simp only [From] at h; omega)
  go_loopg [14] l.length (fun kk s14 wr => ∃ i : Nat, kk + i = l.length ∧ s14 = .int .i64 i ∧ Bf base p (l0 ++ (H ++ (l.take i).flatMap fun x => be8 (x % 18446744073709551616))) wr ∧ Ch (From base) w1 wr)
  case atStart => exact ⟨0, by omega, rfl, by simpa using hB1, Ch.refl _ _⟩
  case round =>
    obtain ⟨i, hki, rfl, hBr, hch⟩ := hrel
    by_cases hi : i < l.length
    · obtain ⟨bk, rfl, hcell, hcell1⟩ := (hr1.keep hch (fun ad had h => by have := hA ad had; simp only [From] at h; omega)).two i hi
      have hxi := hx l[i] (List.getElem_mem hi)
      have hi' : (i : Int) < l.length := by omega
      have hi0 : (0 : Int) ≤ i := by omega
      have HT := hid (List.take_succ_eq_append_getElem hi)
      generalize l[i] = x at hcell hcell1 hxi HT ⊢
      have hle : (l0 ++ (H ++ (l.take i).flatMap fun x => be8 (x % 18446744073709551616))).length ≤ 1099511600000 := by have := HFL.out i; have := HD9.out; simp only [List.length_append]; omega
      have hus := unixNano (x / 1000) (x % 1000 * 1000000) (wr.alloc (.cells #[.int .i64 (x / 1000), .int .i64 (x % 1000 * 1000000)] 75)) (by omega) (by omega) (by omega) (by omega)
      rw [show x / 1000 * 1000000000 + x % 1000 * 1000000 = x * 1000000 from by omega] at hus
      have hq := quo_nano x
      go_wp2_with fail
      refine hus.mono ?_
      rintro e w2 ⟨rfl, HC2⟩
      have hch2 : Ch (From base) wr w2 := Ch.of_no (((Ch.refl No wr).alloc _).no_no HC2)
      have hB2 := (hBr.keep0 ((Ch.refl No wr).alloc (.cells #[.int .i64 (x / 1000), .int .i64 (x % 1000 * 1000000)] 75))).keep0 HC2
      clear hus
      go_wp2_with fail
      rw [show IntKind.u64.wrap x = x % 18446744073709551616 from by simp [IntKind.wrap, IntKind.bits, IntKind.signed]]
      refine (buf64 base p _ (x % 18446744073709551616) w2 hB2 (by omega) (by omega) (by omega)).mono ?_
      rintro e w3 ⟨rfl, hB3, hch3⟩
      go_wp2_with fail
      go_roundg (gk - 1)
      case measure => omega
      case rel => exact ⟨i + 1, by omega, by go_num, by rw [HT.out, List.flatMap_append]; simpa using hB3, (hch.from_from hch2).from_from hch3⟩
    · obtain rfl : i = l.length := by omega
      rw [List.take_length] at hBr
      go_wp2_with fail
      go_ret
      exact ⟨rfl, hBr, hch1.from_from hch⟩
theorem info_implArrTs : (Tryd.prog.info? 75).map (fun i => (i.zero, i.size, i.bytes)) = some (some (.agg #[.int .i64 0, .int .i64 0]), 2, 16) := by kernel_rfl
set_option maxRecDepth 100000 in
set_option maxHeartbeats 2000000 in
theorem implArrTs (A : Option Addr) (c : Nat) (l : List Int) (w : World) (hr : Rd (Value.int .i64) w A l) (hn : l.length ≤ 300) (hx : ∀ x ∈ l, -9200000000000 ≤ x ∧ x ≤ 9200000000000) :
    Calls Tryd.prog 16 #[.slice A l.length c] w (WTo w (hdrB l.length 8 131 ++ l.flatMap fun x => be8 (x % 18446744073709551616))) := by
  obtain ⟨L, hL⟩ : ∃ L, L = hdrB l.length 8 131 ++ l.flatMap fun x => be8 (x % 18446744073709551616) := ⟨_, rfl⟩
  rw [← hL]
  have hLl : L.length ≤ 1099511620000 := by rw [hL, List.length_append]; have h1 : (hdrB _ _ _).length ≤ 10 := (by unfold hdrB; split <;> simp [be4] : (hdrB (l.length : Int) 8 131).length ≤ 10); have h2 := flat_le (fun x : Int => be8 (x % 18446744073709551616)) 8 (fun x => by simp [be8]) l; omega
  have HL := hid hL
  clear hL
  have R0 : Row ((w.alloc (.cells #[.slice none 0 0] 23)).alloc (.cells #[.bool false] 4)) w.heap.size 23 [.slice none 0 0] := (Row.alloc w [.slice none 0 0] 23).keep0 ((Ch.refl No _).alloc _)
  have R1 := Row.alloc (w.alloc (.cells #[.slice none 0 0] 23)) [.bool false] 4
  have e1 : (w.alloc (.cells #[.slice none 0 0] 23)).heap.size = w.heap.size + 1 := by simp
  rw [e1] at R1
  have C0 : Ch No w ((w.alloc (.cells #[.slice none 0 0] 23)).alloc (.cells #[.bool false] 4)) := ((Ch.refl No w).alloc _).alloc _
  have e2 : ((w.alloc (.cells #[.slice none 0 0] 23)).alloc (.cells #[.bool false] 4)).heap.size = w.heap.size + 1 + 1 := by simp
  have E2 := hid e2
  have hr0 := hr.keep0 C0
  clear e1 e2
  go_enter_defers Tryd.func16, Tryd.ntmps16
  go_wp2_with fail
  go_loopg [4, 10] l.length (fun kk s4 s10 wr => ∃ i : Nat, kk + i = l.length ∧ s10 = .int .i64 i ∧ OwK 75 2 wr s4 i ((l.take i).flatMap tmc) ∧ Ch No ((w.alloc (.cells #[.slice none 0 0] 23)).alloc (.cells #[.bool false] 4)) wr ∧ ∀ b, Blk s4 b → ((w.alloc (.cells #[.slice none 0 0] 23)).alloc (.cells #[.bool false] 4)).heap.size ≤ b)
  case atStart => exact ⟨0, by omega, rfl, OwK.nil _ _ _, Ch.refl _ _, fun b hb => absurd hb Blk_nil⟩
  case round =>
    obtain ⟨i, hki, rfl, HO, hch, hfr⟩ := hrel
    by_cases hi : i < l.length
    · obtain ⟨bk, off, rfl, hcell⟩ := (hr0.keep0 hch).at_ i hi
      have hxi := hx l[i] (List.getElem_mem hi)
      have hi' : (i : Int) < l.length := by omega
      have hi0 : (0 : Int) ≤ i := by omega
      have HT := hid (List.take_succ_eq_append_getElem hi)
      generalize l[i] = x at hcell HT hxi ⊢
      go_wp2_with fail
      refine (atMilli x wr hxi.1 hxi.2).mono ?_
      rintro e w9 ⟨rfl, HC9⟩
      have HC := hid HC9
      clear HC9
      go_wp2_with ((with_reducible refine gate (.call { callee := .builtin .append, args := #[.tmp _, .tmp _], argTypes := #[73, 73] }) rfl ?_); refine wp_appendK rfl _ _ 73 75 (.agg #[.int .i64 0, .int .i64 0]) 2 16 rfl Tryd.underlying73 info_implArrTs rfl (by decide) (by decide) (by decide) _ i ((l.take i).flatMap tmc) ([.int .i64 (x / 1000), .int .i64 (x % 1000 * 1000000)]) _ _ rfl rfl rfl (by simp [Value.oneCell']) (HO.keep0 (HC.out.alloc _)) (Row.alloc w9 ([.int .i64 (x / 1000), .int .i64 (x % 1000 * 1000000)]) 75) (by omega) ?_; intro v1 w2 ho2 hch2 hat2)
      go_roundg (gk - 1)
      case measure => omega
      case rel =>
        have hs := hch.size
        have hs9 := HC.out.size
        refine ⟨i + 1, by omega, by go_num, by rw [HT.out, List.flatMap_append]; simpa [tmc] using ho2, ((hch.no_no HC.out).alloc _).trans hch2 (fun _ h => h) (fun b hb => .inr (hfr b hb)), fun b hb => ?_⟩
        rcases hat2 b hb with h | h
        · exact hfr b h
        · simp only [World.size_alloc] at h hs ⊢
          omega
    · obtain rfl : i = l.length := by omega
      rw [List.take_length] at HO
      obtain ⟨AA, ca, rfl⟩ := HO.slice
      have hB := bf_new wr
      have hAA : ∀ ad, AA = some ad → ad.block < wr.heap.size := fun ad had => by
        rcases HO.2 with ⟨h1, _⟩ | ⟨g, cap, cur, hv, _, hg, _⟩
        · injection h1 with h1; rw [h1] at had; cases had
        · injection hv with h1; rw [h1] at had; injection had with had; subst had; exact (Array.getElem?_eq_some_iff.1 hg).1
      have s0 := hch.size
      rw [E2.out] at s0
      have K0 := (R0.keep0 hch)
      have K1 := (R1.keep0 hch)
      have hma := marshTs wr.heap.size wr.heap.size AA ca l [] (wr.alloc (.cells #[.slice none 0 0, .int .i64 0] 52)) hB (HO.rd.keep0 ((Ch.refl No wr).alloc _)) hAA (by omega) (by simp) hx
      rw [List.nil_append, ← HL.out] at hma
      have HMA := hid hma
      clear hma
      go_wp2_with fail
      refine HMA.out.mono ?_
      rintro e w4 ⟨rfl, hBf, hchf⟩
      go_wp2_with (first | (go_at_call 22; refine (bufBytes _ _ _ _ hBf).mono ?_; rintro e w5 ⟨A5, c5, rfl, hrd5, hle5, hch5⟩) | (go_at_call 21; refine (copied_calls A5 c5 _ _ (hrd5.keep0 hch5) (by omega)).mono ?_; rintro e w6 ⟨v6, rfl, ho6, hf6, hch6⟩; obtain ⟨A6, c6, rfl, hle6, _⟩ := ho6.slice; have M0 := ((K0.keep0 ((Ch.refl No _).alloc _)).keep hchf (fun h => by simp only [From] at h; omega)).keep0 (hch5.no_no hch6); have M1 := ((K1.keep0 ((Ch.refl No _).alloc _)).keep hchf (fun h => by simp only [From] at h; omega)).keep0 (hch5.no_no hch6)) | ((with_reducible refine gate (.store 23 (.tmp 2) _) rfl ?_); refine wp_store rfl rfl 23 _ _ rfl (w.heap.size) 0 23 [.slice none 0 0] (.slice A6 L.length c6) rfl rfl [.slice A6 L.length c6] rfl size_sl (by simp [Value.oneCell']) (M0) (by simp) ?_; intro w7 hrow7 hch7) | ((with_reducible refine gate (.store 4 (.tmp 3) _) rfl ?_); refine wp_store rfl rfl 4 _ _ rfl (w.heap.size + 1) 0 4 [.bool false] (.bool true) rfl rfl [.bool true] rfl size_bool (by simp [Value.oneCell']) (M1.keep hch7 (by omega)) (by simp) ?_; intro w8 hrow8 hch8))
      refine leaves_cons (f := 18) (args := #[.pointer (some ⟨w.heap.size, 0, none⟩), .pointer (some ⟨w.heap.size + 1, 0, none⟩)]) (by simp) (by simp [go_sem]) ?_
      refine (noData_idle _ _ _).mono ?_
      rintro e u' w'' ⟨rfl, rfl, rfl⟩
      have N0 := (hrow7.keep hch8 (by omega)).cell 0 _ rfl
      have N1 := hrow8.cell 0 _ rfl
      have HCC : Ch No w w'' := ((((((C0.no_no hch).alloc _).from_no hchf (by omega)).no_no hch5).no_no hch6).freshg hch7 (Nat.le_refl _)).freshg hch8 (by omega)
      have s4 := hchf.size
      simp only [World.size_alloc] at s4
      have s5 := hch5.size
      have hr8 := (ho6.rd.keep hch7 (fun ad had h => by subst had; have := hf6 _ rfl; omega)).keep hch8 (fun ad had h => by subst had; have := hf6 _ rfl; omega)
      refine ⟨.tuple #[.slice A6 L.length c6, .bool true], ?_, A6, c6, rfl, hr8, hle6, HCC⟩
      simp [results, Tryd.results16, go_sem, N0, N1]

end Go.Proofs.YtckjclkpgdhcoaaDoor
