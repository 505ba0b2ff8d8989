/- The walks of AMQP's arrays of uuids: written; the law. No condition. -/
import Derived.Test.YtckjclkpgdhcoaaDoorAmpX
namespace Go.Proofs.YtckjclkpgdhcoaaDoor
set_option linter.unusedVariables false
set_option linter.unusedSimpArgs false
open Go.RowKit

set_option maxRecDepth 100000 in
set_option maxHeartbeats 1000000 in
theorem marshUu (base p : Nat) (A : Option Addr) (c : Nat) (l : List ByteArray) (l0 : List Int) (w : World) (hB : Bf base p l0 w) (hr : RdK tmu w A l) (hA : ∀ ad, A = some ad → ad.block < base) (hn : l.length ≤ 1000) (hl0 : l0.length ≤ 1000) (hx : ∀ s ∈ l, s.size = 16) :
    Calls Tryd.prog 29 #[.slice A l.length c, .pointer (some ⟨p, 0, none⟩)] w (MTo base p (l0 ++ (hdrB l.length 16 152 ++ l.flatMap bys)) w) := by
  have hd9 : (hdrB (l.length : Int) 16 152).length ≤ 10 := by unfold hdrB; split <;> simp [be4]
  have hfl : ∀ i, ((l.take i).flatMap bys).length ≤ 16000 := fun i => by
    have h := flat_S (E := fun x : It => bys x.s) (S := 16) (q := (l.take i).map fun s => ⟨17, 0, s⟩) (fun y hy => by
      obtain ⟨s, hs, rfl⟩ := List.mem_map.1 hy
      rw [bys_len]
      exact hx s (List.mem_of_mem_take hs))
    rw [flatMap_map', List.length_map] at h
    have : (l.take i).length ≤ 1000 := by rw [List.length_take]; omega
    rw [show ((l.take i).flatMap bys).length = (l.take i).length * 16 from h]
    omega
  have HFL := hid hfl
  obtain ⟨H, hH⟩ : ∃ H, H = hdrB (l.length : Int) 16 152 := ⟨_, rfl⟩
  rw [← hH] at hd9 ⊢
  have HH := hid hH
  have HD9 := hid hd9
  clear hfl hd9 hH
  go_enter Tryd.func29, Tryd.ntmps29
  go_wp2_with (go_at_call 36; refine (arrHead_16 base p l0 _ 152 w hB (by omega) (by omega) (by omega) (by omega) (by omega)).mono ?_; rintro e w1 ⟨rfl, hB1, hch1⟩)
  rw [← HH.out] at hB1
  have hr1 := hr.keep hch1 (fun ad had h => by have := hA ad had; simp only [From] at h; omega)
  go_loopg [13] l.length (fun kk s13 wr => ∃ i : Nat, kk + i = l.length ∧ s13 = .int .i64 i ∧ Bf base p (l0 ++ (H ++ (l.take i).flatMap bys)) wr ∧ Ch (From base) w1 wr)
  case atStart => exact ⟨0, by omega, rfl, by simpa using hB1, Ch.refl _ _⟩
  case round =>
    obtain ⟨i, hki, rfl, hBr, hch⟩ := hrel
    by_cases hi : i < l.length
    · have hs16 := hx l[i] (List.getElem_mem hi)
      obtain ⟨b0, b1, b2, b3, b4, b5, b6, b7, b8, b9, b10, b11, b12, b13, b14, b15, hb⟩ := bys16 l[i] hs16
      obtain ⟨bk, rfl, d0, d1, d2, d3, d4, d5, d6, d7, d8, d9, d10, d11, d12, d13, d14, d15⟩ := RdK.sixteen hx (hr1.keep hch (fun ad had h => by have := hA ad had; simp only [From] at h; omega)) i hi hb

      have hi' : (i : Int) < l.length := by omega
      have hi0 : (0 : Int) ≤ i := by omega
      have HT := hid (List.take_succ_eq_append_getElem hi)
      have hle : (l0 ++ (H ++ (l.take i).flatMap bys)).length ≤ 1099511600000 := by have := HFL.out i; have := HD9.out; simp only [List.length_append]; omega
      have HBX := hid hb
      clear hb
      generalize l[i] = x at HT HBX hs16
      go_wp2_with fail
      refine (bufAppend base p _ (some ⟨wr.heap.size, 0, none⟩) 16 16 [b0, b1, b2, b3, b4, b5, b6, b7, b8, b9, b10, b11, b12, b13, b14, b15] _ (hBr.keep0 ((Ch.refl No wr).alloc _)) (by omega) ((Row.alloc wr [Value.int .u8 b0, Value.int .u8 b1, Value.int .u8 b2, Value.int .u8 b3, Value.int .u8 b4, Value.int .u8 b5, Value.int .u8 b6, Value.int .u8 b7, Value.int .u8 b8, Value.int .u8 b9, Value.int .u8 b10, Value.int .u8 b11, Value.int .u8 b12, Value.int .u8 b13, Value.int .u8 b14, Value.int .u8 b15] 70).rd (l := [b0, b1, b2, b3, b4, b5, b6, b7, b8, b9, b10, b11, b12, b13, b14, b15]) rfl) rfl (by omega)).mono ?_

      rintro e w3 ⟨rfl, hB3, hch3⟩
      have C3 : Ch (From base) wr w3 := ((Ch.refl (From base) wr).alloc _).from_from hch3
      go_wp2_with fail
      go_roundg (gk - 1)
      case measure => omega
      case rel => exact ⟨i + 1, by omega, by go_num, by rw [HT.out, List.flatMap_append]; simpa [HBX.out] using hB3, hch.from_from C3⟩
    · obtain rfl : i = l.length := by omega
      rw [List.take_length] at hBr
      go_wp2_with fail
      go_ret
      exact ⟨rfl, hBr, hch1.from_from hch⟩
theorem flat_sz {l : List ByteArray} (hx : ∀ x ∈ l, x.size = 16) : (l.flatMap bys).length = l.length * 16 := by
  have h := flat_S (E := fun x : It => bys x.s) (S := 16) (q := l.map fun s => ⟨17, 0, s⟩) (fun y hy => by
    obtain ⟨s, hs, rfl⟩ := List.mem_map.1 hy
    rw [bys_len]
    exact hx s hs)
  rw [flatMap_map', List.length_map] at h
  exact h
theorem info_implArrUu : (Tryd.prog.info? 70).map (fun i => (i.zero, i.size, i.bytes)) = some (some (.agg #[Value.int .u8 0, Value.int .u8 0, Value.int .u8 0, Value.int .u8 0, Value.int .u8 0, Value.int .u8 0, Value.int .u8 0, Value.int .u8 0, Value.int .u8 0, Value.int .u8 0, Value.int .u8 0, Value.int .u8 0, Value.int .u8 0, Value.int .u8 0, Value.int .u8 0, Value.int .u8 0]), 16, 16) := by kernel_rfl
set_option maxRecDepth 100000 in
set_option maxHeartbeats 2000000 in
theorem implArrUu (A : Option Addr) (c : Nat) (l : List ByteArray) (w : World) (hr : Rd Value.string w A l) (hn : l.length ≤ 300) (hx : ∀ x ∈ l, x.size = 16) :
    Calls Tryd.prog 15 #[.slice A l.length c] w (WTo w (hdrB l.length 16 152 ++ l.flatMap bys)) := by
  obtain ⟨L, hL⟩ : ∃ L, L = hdrB l.length 16 152 ++ l.flatMap bys := ⟨_, rfl⟩
  rw [← hL]
  have hLl : L.length ≤ 1099511620000 := by rw [hL, List.length_append]; have h1 : (hdrB _ _ _).length ≤ 10 := (by unfold hdrB; split <;> simp [be4] : (hdrB (l.length : Int) 16 152).length ≤ 10); have h2 := flat_sz hx; omega
  have HL := hid hL
  clear hL
  have R0 : Row ((w.alloc (.cells #[.slice none 0 0] 23)).alloc (.cells #[.bool false] 4)) w.heap.size 23 [.slice none 0 0] := (Row.alloc w [.slice none 0 0] 23).keep0 ((Ch.refl No _).alloc _)
  have R1 := Row.alloc (w.alloc (.cells #[.slice none 0 0] 23)) [.bool false] 4
  have e1 : (w.alloc (.cells #[.slice none 0 0] 23)).heap.size = w.heap.size + 1 := by simp
  rw [e1] at R1
  have C0 : Ch No w ((w.alloc (.cells #[.slice none 0 0] 23)).alloc (.cells #[.bool false] 4)) := ((Ch.refl No w).alloc _).alloc _
  have e2 : ((w.alloc (.cells #[.slice none 0 0] 23)).alloc (.cells #[.bool false] 4)).heap.size = w.heap.size + 1 + 1 := by simp
  have E2 := hid e2
  have hr0 := hr.keep0 C0
  clear e1 e2
  go_enter_defers Tryd.func15, Tryd.ntmps15
  go_wp2_with fail
  go_loopg [4, 10] l.length (fun kk s4 s10 wr => ∃ i : Nat, kk + i = l.length ∧ s10 = .int .i64 i ∧ OwK 70 16 wr s4 i ((l.take i).flatMap tmu) ∧ Ch No ((w.alloc (.cells #[.slice none 0 0] 23)).alloc (.cells #[.bool false] 4)) wr ∧ ∀ b, Blk s4 b → ((w.alloc (.cells #[.slice none 0 0] 23)).alloc (.cells #[.bool false] 4)).heap.size ≤ b)
  case atStart => exact ⟨0, by omega, rfl, OwK.nil _ _ _, Ch.refl _ _, fun b hb => absurd hb Blk_nil⟩
  case round =>
    obtain ⟨i, hki, rfl, HO, hch, hfr⟩ := hrel
    by_cases hi : i < l.length
    · obtain ⟨bk, off, rfl, hcell⟩ := (hr0.keep0 hch).at_ i hi
      have hxi := hx l[i] (List.getElem_mem hi)
      have hi' : (i : Int) < l.length := by omega
      have hi0 : (0 : Int) ≤ i := by omega
      have HT := hid (List.take_succ_eq_append_getElem hi)
      generalize l[i] = x at hcell HT hxi ⊢
      obtain ⟨b0, b1, b2, b3, b4, b5, b6, b7, b8, b9, b10, b11, b12, b13, b14, b15, hb⟩ := bys16 x hxi
      go_wp2_with fail
      refine (uuid_calls x b0 b1 b2 b3 b4 b5 b6 b7 b8 b9 b10 b11 b12 b13 b14 b15 wr hxi hb).mono ?_
      rintro e w9 ⟨rfl, HC9⟩
      have HC := hid HC9
      clear HC9
      go_wp2_with ((with_reducible refine gate (.call { callee := .builtin .append, args := #[.tmp _, .tmp _], argTypes := #[68, 68] }) rfl ?_); refine wp_appendK rfl _ _ 68 70 (.agg #[Value.int .u8 0, Value.int .u8 0, Value.int .u8 0, Value.int .u8 0, Value.int .u8 0, Value.int .u8 0, Value.int .u8 0, Value.int .u8 0, Value.int .u8 0, Value.int .u8 0, Value.int .u8 0, Value.int .u8 0, Value.int .u8 0, Value.int .u8 0, Value.int .u8 0, Value.int .u8 0]) 16 16 rfl Tryd.underlying68 info_implArrUu rfl (by decide) (by decide) (by decide) _ i ((l.take i).flatMap tmu) ([Value.int .u8 b0, Value.int .u8 b1, Value.int .u8 b2, Value.int .u8 b3, Value.int .u8 b4, Value.int .u8 b5, Value.int .u8 b6, Value.int .u8 b7, Value.int .u8 b8, Value.int .u8 b9, Value.int .u8 b10, Value.int .u8 b11, Value.int .u8 b12, Value.int .u8 b13, Value.int .u8 b14, Value.int .u8 b15]) _ _ rfl rfl rfl (by simp [Value.oneCell']) (HO.keep0 (HC.out.alloc _)) (Row.alloc w9 ([Value.int .u8 b0, Value.int .u8 b1, Value.int .u8 b2, Value.int .u8 b3, Value.int .u8 b4, Value.int .u8 b5, Value.int .u8 b6, Value.int .u8 b7, Value.int .u8 b8, Value.int .u8 b9, Value.int .u8 b10, Value.int .u8 b11, Value.int .u8 b12, Value.int .u8 b13, Value.int .u8 b14, Value.int .u8 b15]) 70) (by omega) ?_; intro v1 w2 ho2 hch2 hat2)
      go_roundg (gk - 1)
      case measure => omega
      case rel =>
        have hs := hch.size
        have hs9 := HC.out.size
        refine ⟨i + 1, by omega, by go_num, by rw [HT.out, List.flatMap_append]; simpa [tmu, hb] using ho2, ((hch.no_no HC.out).alloc _).trans hch2 (fun _ h => h) (fun b hb => .inr (hfr b hb)), fun b hb => ?_⟩
        rcases hat2 b hb with h | h
        · exact hfr b h
        · simp only [World.size_alloc] at h hs ⊢
          omega
    · obtain rfl : i = l.length := by omega
      rw [List.take_length] at HO
      obtain ⟨AA, ca, rfl⟩ := HO.slice
      have hB := bf_new wr
      have hAA : ∀ ad, AA = some ad → ad.block < wr.heap.size := fun ad had => by
        rcases HO.2 with ⟨h1, _⟩ | ⟨g, cap, cur, hv, _, hg, _⟩
        · injection h1 with h1; rw [h1] at had; cases had
        · injection hv with h1; rw [h1] at had; injection had with had; subst had; exact (Array.getElem?_eq_some_iff.1 hg).1
      have s0 := hch.size
      rw [E2.out] at s0
      have K0 := (R0.keep0 hch)
      have K1 := (R1.keep0 hch)
      have hma := marshUu wr.heap.size wr.heap.size AA ca l [] (wr.alloc (.cells #[.slice none 0 0, .int .i64 0] 52)) hB (HO.rd.keep0 ((Ch.refl No wr).alloc _)) hAA (by omega) (by simp) hx
      rw [List.nil_append, ← HL.out] at hma
      have HMA := hid hma
      clear hma
      go_wp2_with fail
      refine HMA.out.mono ?_
      rintro e w4 ⟨rfl, hBf, hchf⟩
      go_wp2_with (first | (go_at_call 22; refine (bufBytes _ _ _ _ hBf).mono ?_; rintro e w5 ⟨A5, c5, rfl, hrd5, hle5, hch5⟩) | (go_at_call 21; refine (copied_calls A5 c5 _ _ (hrd5.keep0 hch5) (by omega)).mono ?_; rintro e w6 ⟨v6, rfl, ho6, hf6, hch6⟩; obtain ⟨A6, c6, rfl, hle6, _⟩ := ho6.slice; have M0 := ((K0.keep0 ((Ch.refl No _).alloc _)).keep hchf (fun h => by simp only [From] at h; omega)).keep0 (hch5.no_no hch6); have M1 := ((K1.keep0 ((Ch.refl No _).alloc _)).keep hchf (fun h => by simp only [From] at h; omega)).keep0 (hch5.no_no hch6)) | ((with_reducible refine gate (.store 23 (.tmp 2) _) rfl ?_); refine wp_store rfl rfl 23 _ _ rfl (w.heap.size) 0 23 [.slice none 0 0] (.slice A6 L.length c6) rfl rfl [.slice A6 L.length c6] rfl size_sl (by simp [Value.oneCell']) (M0) (by simp) ?_; intro w7 hrow7 hch7) | ((with_reducible refine gate (.store 4 (.tmp 3) _) rfl ?_); refine wp_store rfl rfl 4 _ _ rfl (w.heap.size + 1) 0 4 [.bool false] (.bool true) rfl rfl [.bool true] rfl size_bool (by simp [Value.oneCell']) (M1.keep hch7 (by omega)) (by simp) ?_; intro w8 hrow8 hch8))
      refine leaves_cons (f := 18) (args := #[.pointer (some ⟨w.heap.size, 0, none⟩), .pointer (some ⟨w.heap.size + 1, 0, none⟩)]) (by simp) (by simp [go_sem]) ?_
      refine (noData_idle _ _ _).mono ?_
      rintro e u' w'' ⟨rfl, rfl, rfl⟩
      have N0 := (hrow7.keep hch8 (by omega)).cell 0 _ rfl
      have N1 := hrow8.cell 0 _ rfl
      have HCC : Ch No w w'' := ((((((C0.no_no hch).alloc _).from_no hchf (by omega)).no_no hch5).no_no hch6).freshg hch7 (Nat.le_refl _)).freshg hch8 (by omega)
      have s4 := hchf.size
      simp only [World.size_alloc] at s4
      have s5 := hch5.size
      have hr8 := (ho6.rd.keep hch7 (fun ad had h => by subst had; have := hf6 _ rfl; omega)).keep hch8 (fun ad had h => by subst had; have := hf6 _ rfl; omega)
      refine ⟨.tuple #[.slice A6 L.length c6, .bool true], ?_, A6, c6, rfl, hr8, hle6, HCC⟩
      simp [results, Tryd.results15, go_sem, N0, N1]

end Go.Proofs.YtckjclkpgdhcoaaDoor
