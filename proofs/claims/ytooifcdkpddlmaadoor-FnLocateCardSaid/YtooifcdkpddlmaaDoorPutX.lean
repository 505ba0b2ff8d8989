/- The walk of the reference's writer of the heads of extensions. No condition. -/
import Derived.Test.YtooifcdkpddlmaaDoorPutJ
namespace Go.Proofs.YtooifcdkpddlmaaDoor
set_option linter.unusedVariables false
set_option linter.unusedSimpArgs false
open Go.RowKit

/-- The forms of an extension's head: its length, its type. -/
def ExtD (n x : Int) (d : List Int) : Prop :=
  (∃ p ∈ [((212 : Int), (1 : Int)), (213, 2), (214, 4), (215, 8), (216, 16)], n = p.2 ∧ d = [p.1, x % 256]) ∨ ∃ f ∈ [((199 : Int), (1 : Nat)), (200, 2), (201, 4)], okf n f = true ∧ d = (f.1 :: bg n f.2) ++ [x % 256]
theorem Ow.sl4 (w : World) (o : Obj) (h : o = o) (x : Option Addr × Nat × Nat) (c : Nat) (hc : (w.alloc o).heap.size = c) : Rd sl ((w.alloc o).alloc (.cells #[sl x] 24)) (some ⟨c, 0, none⟩) [x] := by
  subst hc
  exact Ow.sl1 (w.alloc o) x
set_option maxRecDepth 100000 in
set_option maxHeartbeats 4000000 in
theorem putExt_calls (pf : Nat) (n x : Int) (w : World) (hF : Fm w pf) (h0 : 0 ≤ n) (h1 : n < 4294967296) :
    Calls Tryd.prog 42 #[.pointer (some ⟨pf, 0, none⟩), .int .i64 n, .int .i64 x] w (ItTo (ExtD n x) pf w) := by
  have hwn : IntKind.u64.wrap n = n := by simp [IntKind.wrap, IntKind.bits, IntKind.signed]; omega
  obtain ⟨y, hy⟩ : ∃ y, IntKind.u8.wrap x = y := ⟨_, rfl⟩
  have hyx : y = x % 256 := by rw [← hy]; simp [IntKind.wrap, IntKind.bits, IntKind.signed]
  have HYX := hid hyx
  clear hyx
  obtain ⟨fs, hfs⟩ : ∃ fs, fs = [((199 : Int), (1 : Nat)), (200, 2), (201, 4)].filter (okf n) := ⟨_, rfl⟩
  have hfl : fs.length ≤ 3 := by rw [hfs]; exact List.length_filter_le _ _
  have hmem : ∀ f ∈ fs, f ∈ [((199 : Int), (1 : Nat)), (200, 2), (201, 4)] ∧ okf n f = true := fun f hf => by rw [hfs] at hf; exact List.mem_filter.1 hf
  have h201 : 0 < fs.length := List.length_pos_of_mem (a := (201, 4)) (by rw [hfs]; exact List.mem_filter.2 ⟨by simp, okf_last n 201 h0 h1⟩)
  have hsz : ∀ (A : Option Addr) (w1 : World), RdK fmc w1 A [((199 : Int), (1 : Nat)), (200, 2), (201, 4)] → Calls Tryd.prog 33 #[.int .u64 n, .slice A 3 3] w1 fun e w' => ∃ v, e = .returned v ∧ OwK 62 2 w' v fs.length (fs.flatMap fmc) ∧ Fr w1 v ∧ Ch No w1 w' := fun A w1 hr => by
    rw [hfs]
    exact sizes_calls n A 3 [((199 : Int), (1 : Nat)), (200, 2), (201, 4)] w1 hr (by simp) (by simp) h0 (by omega)
  clear hfs
  have HMEM := hid hmem
  have HSZ := hid hsz
  clear hmem hsz
  go_enter Tryd.func42, Tryd.ntmps42
  go_wp2_with fail
  have hT := Row.alloc w [.int .i64 1, .int .i64 2, .int .i64 4, .int .i64 8, .int .i64 16] 3
  go_loopg [7, 14] 5 (fun kk s7 s14 wr => ∃ (i : Nat) (xs : List (Option Addr × Nat × Nat)), kk + i = 5 ∧ s14 = .int .i64 i ∧ xs.length ≤ i ∧ May (ExtD n x) w wr s7 xs ∧ Row wr w.heap.size 3 [.int .i64 1, .int .i64 2, .int .i64 4, .int .i64 8, .int .i64 16] ∧ Ch No w wr)
  case atStart => exact ⟨0, [], by omega, rfl, by simp, May.nil _ _ _, hT, (Ch.refl No w).alloc _⟩
  case round =>
    obtain ⟨i, xs, hki, rfl, hn, hmay, hrT, hch⟩ := hrel
    obtain ⟨A8, c8, rfl, _, _⟩ := hmay.1.slice
    obtain hi | hi | hi | hi | hi | hi : i = 0 ∨ i = 1 ∨ i = 2 ∨ i = 3 ∨ i = 4 ∨ i = 5 := by omega
    · subst hi
      have c0 := hrT.cell 0 _ rfl
      by_cases hx : n = 1
      · have hdx : (n == 1) = true := beq_iff_eq.2 hx
        have hP : ExtD n x [212, y] := .inl ⟨(212, 1), by simp, hx, by rw [HYX.out]⟩
        have HP := hid hP
        clear hP hx
        go_wp2_with ((with_reducible refine gate (.call { callee := .builtin .append, args := #[.tmp _, .tmp _], argTypes := #[114, 114] }) rfl ?_); refine wp_append rfl _ _ 114 24 (.slice none 0 0) 24 rfl Tryd.underlying114 info_sl rfl (by decide) sl (fun _ => rfl) _ xs [(some ⟨wr.heap.size, 0, none⟩, 2, 2)] _ _ _ rfl rfl rfl (hmay.1.keep0 (((Ch.refl No wr).alloc _).alloc _)) (Ow.sl2 wr (.cells #[.int .u8 212, .int .u8 y] 5) (some ⟨wr.heap.size, 0, none⟩, 2, 2)) (by first | omega | (simp only [List.length_cons, List.length_nil]; omega)) ?_; intro v3 w3 ho3 hch3 hat3)
        have C1 : Ch No wr (wr.alloc (.cells #[.int .u8 212, .int .u8 y] 5)) := (Ch.refl No wr).alloc _
        have K2 : Ch No (wr.alloc (.cells #[.int .u8 212, .int .u8 y] 5)) ((wr.alloc (.cells #[.int .u8 212, .int .u8 y] 5)).alloc (.cells #[sl (some ⟨wr.heap.size, 0, none⟩, 2, 2)] 24)) := (Ch.refl No _).alloc _
        have hox : Ow 5 Go.Proofs.YtooifcdkpddlmaaDoor.u8 (wr.alloc (.cells #[.int .u8 212, .int .u8 y] 5)) (sl (some ⟨wr.heap.size, 0, none⟩, 2, 2)) [212, y] := Ow.lit 5 Go.Proofs.YtooifcdkpddlmaaDoor.u8 wr [212, y] (by simp [maxLen])
        have CK := (hch.no_no C1).no_no K2
        have K3 := CK.fresh hch3 hmay.2.1
        have hm3 := ((hmay.keep0 C1).keep0 K2).push HP.out (hox.keep0 K2) (Fr.mk' hch.size) CK.size ho3 hch3 hat3
        go_roundg (gk - 1)
        case measure => omega
        case rel =>
          exact ⟨1, _, by omega, rfl, by rw [List.length_append, List.length_singleton]; omega, hm3, (hrT.keep0 (C1.no_no K2)).keep hch3 (fun h => hrT.apart hmay.1 (by decide) h), K3⟩
      · have hdx : (n == 1) = false := beq_eq_false_iff_ne.2 hx
        have hdy : decide (n = 1) = false := decide_eq_false hx
        go_wp2_with fail
        go_roundg (gk - 1)
        case measure => omega
        case rel => exact ⟨1, xs, by omega, rfl, by omega, hmay, hrT, hch⟩
    · subst hi
      have c0 := hrT.cell 1 _ rfl
      by_cases hx : n = 2
      · have hdx : (n == 2) = true := beq_iff_eq.2 hx
        have hP : ExtD n x [213, y] := .inl ⟨(213, 2), by simp, hx, by rw [HYX.out]⟩
        have HP := hid hP
        clear hP hx
        go_wp2_with ((with_reducible refine gate (.call { callee := .builtin .append, args := #[.tmp _, .tmp _], argTypes := #[114, 114] }) rfl ?_); refine wp_append rfl _ _ 114 24 (.slice none 0 0) 24 rfl Tryd.underlying114 info_sl rfl (by decide) sl (fun _ => rfl) _ xs [(some ⟨wr.heap.size, 0, none⟩, 2, 2)] _ _ _ rfl rfl rfl (hmay.1.keep0 (((Ch.refl No wr).alloc _).alloc _)) (Ow.sl2 wr (.cells #[.int .u8 213, .int .u8 y] 5) (some ⟨wr.heap.size, 0, none⟩, 2, 2)) (by first | omega | (simp only [List.length_cons, List.length_nil]; omega)) ?_; intro v3 w3 ho3 hch3 hat3)
        have C1 : Ch No wr (wr.alloc (.cells #[.int .u8 213, .int .u8 y] 5)) := (Ch.refl No wr).alloc _
        have K2 : Ch No (wr.alloc (.cells #[.int .u8 213, .int .u8 y] 5)) ((wr.alloc (.cells #[.int .u8 213, .int .u8 y] 5)).alloc (.cells #[sl (some ⟨wr.heap.size, 0, none⟩, 2, 2)] 24)) := (Ch.refl No _).alloc _
        have hox : Ow 5 Go.Proofs.YtooifcdkpddlmaaDoor.u8 (wr.alloc (.cells #[.int .u8 213, .int .u8 y] 5)) (sl (some ⟨wr.heap.size, 0, none⟩, 2, 2)) [213, y] := Ow.lit 5 Go.Proofs.YtooifcdkpddlmaaDoor.u8 wr [213, y] (by simp [maxLen])
        have CK := (hch.no_no C1).no_no K2
        have K3 := CK.fresh hch3 hmay.2.1
        have hm3 := ((hmay.keep0 C1).keep0 K2).push HP.out (hox.keep0 K2) (Fr.mk' hch.size) CK.size ho3 hch3 hat3
        go_roundg (gk - 1)
        case measure => omega
        case rel =>
          exact ⟨2, _, by omega, rfl, by rw [List.length_append, List.length_singleton]; omega, hm3, (hrT.keep0 (C1.no_no K2)).keep hch3 (fun h => hrT.apart hmay.1 (by decide) h), K3⟩
      · have hdx : (n == 2) = false := beq_eq_false_iff_ne.2 hx
        have hdy : decide (n = 2) = false := decide_eq_false hx
        go_wp2_with fail
        go_roundg (gk - 1)
        case measure => omega
        case rel => exact ⟨2, xs, by omega, rfl, by omega, hmay, hrT, hch⟩
    · subst hi
      have c0 := hrT.cell 2 _ rfl
      by_cases hx : n = 4
      · have hdx : (n == 4) = true := beq_iff_eq.2 hx
        have hP : ExtD n x [214, y] := .inl ⟨(214, 4), by simp, hx, by rw [HYX.out]⟩
        have HP := hid hP
        clear hP hx
        go_wp2_with ((with_reducible refine gate (.call { callee := .builtin .append, args := #[.tmp _, .tmp _], argTypes := #[114, 114] }) rfl ?_); refine wp_append rfl _ _ 114 24 (.slice none 0 0) 24 rfl Tryd.underlying114 info_sl rfl (by decide) sl (fun _ => rfl) _ xs [(some ⟨wr.heap.size, 0, none⟩, 2, 2)] _ _ _ rfl rfl rfl (hmay.1.keep0 (((Ch.refl No wr).alloc _).alloc _)) (Ow.sl2 wr (.cells #[.int .u8 214, .int .u8 y] 5) (some ⟨wr.heap.size, 0, none⟩, 2, 2)) (by first | omega | (simp only [List.length_cons, List.length_nil]; omega)) ?_; intro v3 w3 ho3 hch3 hat3)
        have C1 : Ch No wr (wr.alloc (.cells #[.int .u8 214, .int .u8 y] 5)) := (Ch.refl No wr).alloc _
        have K2 : Ch No (wr.alloc (.cells #[.int .u8 214, .int .u8 y] 5)) ((wr.alloc (.cells #[.int .u8 214, .int .u8 y] 5)).alloc (.cells #[sl (some ⟨wr.heap.size, 0, none⟩, 2, 2)] 24)) := (Ch.refl No _).alloc _
        have hox : Ow 5 Go.Proofs.YtooifcdkpddlmaaDoor.u8 (wr.alloc (.cells #[.int .u8 214, .int .u8 y] 5)) (sl (some ⟨wr.heap.size, 0, none⟩, 2, 2)) [214, y] := Ow.lit 5 Go.Proofs.YtooifcdkpddlmaaDoor.u8 wr [214, y] (by simp [maxLen])
        have CK := (hch.no_no C1).no_no K2
        have K3 := CK.fresh hch3 hmay.2.1
        have hm3 := ((hmay.keep0 C1).keep0 K2).push HP.out (hox.keep0 K2) (Fr.mk' hch.size) CK.size ho3 hch3 hat3
        go_roundg (gk - 1)
        case measure => omega
        case rel =>
          exact ⟨3, _, by omega, rfl, by rw [List.length_append, List.length_singleton]; omega, hm3, (hrT.keep0 (C1.no_no K2)).keep hch3 (fun h => hrT.apart hmay.1 (by decide) h), K3⟩
      · have hdx : (n == 4) = false := beq_eq_false_iff_ne.2 hx
        have hdy : decide (n = 4) = false := decide_eq_false hx
        go_wp2_with fail
        go_roundg (gk - 1)
        case measure => omega
        case rel => exact ⟨3, xs, by omega, rfl, by omega, hmay, hrT, hch⟩
    · subst hi
      have c0 := hrT.cell 3 _ rfl
      by_cases hx : n = 8
      · have hdx : (n == 8) = true := beq_iff_eq.2 hx
        have hP : ExtD n x [215, y] := .inl ⟨(215, 8), by simp, hx, by rw [HYX.out]⟩
        have HP := hid hP
        clear hP hx
        go_wp2_with ((with_reducible refine gate (.call { callee := .builtin .append, args := #[.tmp _, .tmp _], argTypes := #[114, 114] }) rfl ?_); refine wp_append rfl _ _ 114 24 (.slice none 0 0) 24 rfl Tryd.underlying114 info_sl rfl (by decide) sl (fun _ => rfl) _ xs [(some ⟨wr.heap.size, 0, none⟩, 2, 2)] _ _ _ rfl rfl rfl (hmay.1.keep0 (((Ch.refl No wr).alloc _).alloc _)) (Ow.sl2 wr (.cells #[.int .u8 215, .int .u8 y] 5) (some ⟨wr.heap.size, 0, none⟩, 2, 2)) (by first | omega | (simp only [List.length_cons, List.length_nil]; omega)) ?_; intro v3 w3 ho3 hch3 hat3)
        have C1 : Ch No wr (wr.alloc (.cells #[.int .u8 215, .int .u8 y] 5)) := (Ch.refl No wr).alloc _
        have K2 : Ch No (wr.alloc (.cells #[.int .u8 215, .int .u8 y] 5)) ((wr.alloc (.cells #[.int .u8 215, .int .u8 y] 5)).alloc (.cells #[sl (some ⟨wr.heap.size, 0, none⟩, 2, 2)] 24)) := (Ch.refl No _).alloc _
        have hox : Ow 5 Go.Proofs.YtooifcdkpddlmaaDoor.u8 (wr.alloc (.cells #[.int .u8 215, .int .u8 y] 5)) (sl (some ⟨wr.heap.size, 0, none⟩, 2, 2)) [215, y] := Ow.lit 5 Go.Proofs.YtooifcdkpddlmaaDoor.u8 wr [215, y] (by simp [maxLen])
        have CK := (hch.no_no C1).no_no K2
        have K3 := CK.fresh hch3 hmay.2.1
        have hm3 := ((hmay.keep0 C1).keep0 K2).push HP.out (hox.keep0 K2) (Fr.mk' hch.size) CK.size ho3 hch3 hat3
        go_roundg (gk - 1)
        case measure => omega
        case rel =>
          exact ⟨4, _, by omega, rfl, by rw [List.length_append, List.length_singleton]; omega, hm3, (hrT.keep0 (C1.no_no K2)).keep hch3 (fun h => hrT.apart hmay.1 (by decide) h), K3⟩
      · have hdx : (n == 8) = false := beq_eq_false_iff_ne.2 hx
        have hdy : decide (n = 8) = false := decide_eq_false hx
        go_wp2_with fail
        go_roundg (gk - 1)
        case measure => omega
        case rel => exact ⟨4, xs, by omega, rfl, by omega, hmay, hrT, hch⟩
    · subst hi
      have c0 := hrT.cell 4 _ rfl
      by_cases hx : n = 16
      · have hdx : (n == 16) = true := beq_iff_eq.2 hx
        have hP : ExtD n x [216, y] := .inl ⟨(216, 16), by simp, hx, by rw [HYX.out]⟩
        have HP := hid hP
        clear hP hx
        go_wp2_with ((with_reducible refine gate (.call { callee := .builtin .append, args := #[.tmp _, .tmp _], argTypes := #[114, 114] }) rfl ?_); refine wp_append rfl _ _ 114 24 (.slice none 0 0) 24 rfl Tryd.underlying114 info_sl rfl (by decide) sl (fun _ => rfl) _ xs [(some ⟨wr.heap.size, 0, none⟩, 2, 2)] _ _ _ rfl rfl rfl (hmay.1.keep0 (((Ch.refl No wr).alloc _).alloc _)) (Ow.sl2 wr (.cells #[.int .u8 216, .int .u8 y] 5) (some ⟨wr.heap.size, 0, none⟩, 2, 2)) (by first | omega | (simp only [List.length_cons, List.length_nil]; omega)) ?_; intro v3 w3 ho3 hch3 hat3)
        have C1 : Ch No wr (wr.alloc (.cells #[.int .u8 216, .int .u8 y] 5)) := (Ch.refl No wr).alloc _
        have K2 : Ch No (wr.alloc (.cells #[.int .u8 216, .int .u8 y] 5)) ((wr.alloc (.cells #[.int .u8 216, .int .u8 y] 5)).alloc (.cells #[sl (some ⟨wr.heap.size, 0, none⟩, 2, 2)] 24)) := (Ch.refl No _).alloc _
        have hox : Ow 5 Go.Proofs.YtooifcdkpddlmaaDoor.u8 (wr.alloc (.cells #[.int .u8 216, .int .u8 y] 5)) (sl (some ⟨wr.heap.size, 0, none⟩, 2, 2)) [216, y] := Ow.lit 5 Go.Proofs.YtooifcdkpddlmaaDoor.u8 wr [216, y] (by simp [maxLen])
        have CK := (hch.no_no C1).no_no K2
        have K3 := CK.fresh hch3 hmay.2.1
        have hm3 := ((hmay.keep0 C1).keep0 K2).push HP.out (hox.keep0 K2) (Fr.mk' hch.size) CK.size ho3 hch3 hat3
        go_roundg (gk - 1)
        case measure => omega
        case rel =>
          exact ⟨5, _, by omega, rfl, by rw [List.length_append, List.length_singleton]; omega, hm3, (hrT.keep0 (C1.no_no K2)).keep hch3 (fun h => hrT.apart hmay.1 (by decide) h), K3⟩
      · have hdx : (n == 16) = false := beq_eq_false_iff_ne.2 hx
        have hdy : decide (n = 16) = false := decide_eq_false hx
        go_wp2_with fail
        go_roundg (gk - 1)
        case measure => omega
        case rel => exact ⟨5, xs, by omega, rfl, by omega, hmay, hrT, hch⟩
    · subst hi
      have hxl : xs.length ≤ 5 := by omega
      obtain ⟨wq, rfl⟩ : ∃ x, x = wr := ⟨_, rfl⟩
      obtain ⟨ms, rfl⟩ : ∃ x, x = xs := ⟨_, rfl⟩
      clear hn hki
      go_wp2_with fail
      refine (HSZ.out _ _ (RdK.lit wq 62 [((199 : Int), (1 : Nat)), (200, 2), (201, 4)])).mono ?_
      rintro e w5 ⟨v5, rfl, ho5, hf5, hch5⟩
      obtain ⟨A5, c5, rfl⟩ := ho5.slice
      have K5 : Ch No wq w5 := ((Ch.refl No wq).alloc _).no_no hch5
      have hm5 := hmay.keep0 K5
      have C5 := hch.no_no K5
      clear hmay hrT hch K5
      go_wp2_with fail
      go_loopg [7, 40] fs.length (fun kk s7 s40 wr => ∃ (i : Nat) (ys : List (Option Addr × Nat × Nat)), kk + i = fs.length ∧ s40 = .int .i64 i ∧ ys.length ≤ i + 5 ∧ (0 < i → 0 < ys.length) ∧ May (ExtD n x) w wr s7 ys ∧ Ch No w wr ∧ OwK 62 2 wr (.slice A5 fs.length c5) fs.length (fs.flatMap fmc))
      case atStart => exact ⟨0, ms, by omega, rfl, by omega, by omega, hm5, C5, ho5⟩
      case round =>
        obtain ⟨i, ys, hki, rfl, hn, hpos, hmay, hch, hch9⟩ := hrel
        obtain ⟨A7, c7, rfl, _, _⟩ := hmay.1.slice
        by_cases hi : i < fs.length
        · obtain ⟨b1, rfl, a0, a1⟩ := hch9.rd.form i hi
          have hx9 := HMEM.out fs[i] (List.getElem_mem hi)
          have hi' : (i : Int) < fs.length := by omega
          have hi0 : (0 : Int) ≤ i := by omega
          generalize fs[i] = p at a0 a1 hx9
          have hP : ExtD n x ((p.1 :: bg n p.2) ++ [y]) := .inr ⟨p, hx9.1, hx9.2, by rw [HYX.out]⟩
          have hx8 : 0 ≤ p.1 ∧ p.1 < 256 ∧ 0 < p.2 ∧ p.2 ≤ 8 := by
            have h := hx9.1
            simp only [List.mem_cons, List.not_mem_nil, or_false] at h
            rcases h with rfl | rfl | rfl <;> simp
          clear hx9
          have HP := hid hP
          have HX := hid hx8
          have hp8 := hx8.2.2.2
          have hyl : ys.length ≤ 8 := by omega
          clear hP hx8 hpos
          go_wp2_with fail
          refine (headed_calls p.1 n p.2 _ HX.out.2.2.1 HX.out.2.2.2 h0 (by omega) HX.out.1 HX.out.2.1).mono ?_
          rintro e w2 ⟨v2, rfl, ho2, hf2, hch2⟩
          have Cw2 : Ch No wr w2 := ((Ch.refl No wr).alloc _).no_no hch2
          go_wp2_with (first | ((with_reducible refine gate (.call { callee := .builtin .append, args := #[.tmp _, .tmp _], argTypes := #[24, 24] }) rfl ?_); refine wp_append rfl _ _ 24 5 (.int .u8 0) 1 rfl Tryd.underlying24 info_u8 rfl (by decide) Go.Proofs.YtooifcdkpddlmaaDoor.u8 (fun _ => rfl) _ (p.1 :: bg n p.2) [y] _ _ _ rfl rfl rfl (ho2.keep0 ((Ch.refl No w2).alloc _)) (Row.one w2 y) (by simp [bg_len]; omega) ?_; intro v6 w6 ho6 hch6 hat6; obtain ⟨A6, c6, rfl, _, _⟩ := ho6.slice; generalize ((p.1 :: bg n p.2) ++ [y]).length = L6 at ho6 hat6 ⊢; have Cw6 : Ch No wr w6 := (Cw2.alloc _).fresh hch6 (hf2.weak ((Ch.refl No wr).alloc _).size)) | ((with_reducible refine gate (.call { callee := .builtin .append, args := #[.tmp _, .tmp _], argTypes := #[114, 114] }) rfl ?_); refine wp_append rfl _ _ 114 24 (.slice none 0 0) 24 rfl Tryd.underlying114 info_sl rfl (by decide) sl (fun _ => rfl) _ ys [(A6, L6, c6)] _ _ _ rfl rfl rfl ((hmay.keep0 Cw6).1.keep0 ((Ch.refl No w6).alloc _)) (Ow.sl1 w6 (A6, L6, c6)) (by first | omega | (simp only [List.length_cons, List.length_nil]; omega)) ?_; intro v3 w3 ho3 hch3 hat3))
          have K2 : Ch No w6 (w6.alloc (.cells #[sl (A6, L6, c6)] 24)) := (Ch.refl No w6).alloc _
          have CK := (hch.no_no Cw6).no_no K2
          have hfx : Fr w (sl (A6, L6, c6)) := (hf2.weak (hch.alloc _).size).step ((hch.no_no Cw2).alloc _).size hat6
          have K3 := CK.fresh hch3 hmay.2.1
          have K9 := ((hch9.keep0 Cw6).keep0 K2).keep hch3 (OwK.apart hch9 hmay.1 (by decide))
          have hm3 := ((hmay.keep0 Cw6).keep0 K2).push HP.out (ho6.keep0 K2) hfx CK.size ho3 hch3 hat3
          go_roundg (gk - 1)
          case measure => omega
          case rel => exact ⟨i + 1, _, by omega, by go_num, by rw [List.length_append, List.length_singleton]; omega, by simp, hm3, K3, K9⟩
        · obtain rfl : i = fs.length := by omega
          have hp := hpos (by omega)
          have hyl : ys.length ≤ 8 := by omega
          clear hn hpos
          go_wp2_with fail
          refine (pick_calls pf ys.length wr (hF.keep0 hch) (by omega)).mono ?_
          rintro e w2 ⟨j, hk, rfl, hF2, hch2⟩
          have hj : j < ys.length := by omega
          obtain ⟨b, o, d, rfl, hc, hPd, hod, hfd⟩ := hmay.get j hj
          have hb := hmay.2.1 b (show Blk (.slice (some ⟨b, o, none⟩) ys.length c7) b from rfl)
          have hfl := hF.lt
          have hc2 := hch2.cell hc (fun h => by have h9 : b = pf := h; omega)
          have hj' : (j : Int) < ys.length := by omega
          have hj0 : (0 : Int) ≤ j := by omega
          have C2 : Ch (fun b => b = pf) w w2 := (Ch.of_no hch).trans hch2 (fun _ h => h) (fun _ h => .inl h)
          have hfin : Hid (ItTo (ExtD n x) pf w (.returned (sl ys[j])) w2) := ⟨_, d, rfl, hPd, hod.keep hch2 (fun b hb h => by have := hfd b hb; have h9 : b = pf := h; omega), hfd, hF2, C2⟩
          generalize ys[j] = q at hc2 hfin
          go_wp2_with fail
          go_ret
          exact hfin.out

end Go.Proofs.YtooifcdkpddlmaaDoor
