/- The walk of the reference's writer of integers that are not below 0. No condition. -/
import Derived.Test.YtooifcdkpddlmaaDoorPutI
import Derived.Test.YtooifcdkpddlmaaDoorPutH
namespace Go.Proofs.YtooifcdkpddlmaaDoor
set_option linter.unusedVariables false
set_option linter.unusedSimpArgs false
open Go.RowKit

/-- The forms of an integer that is not below 0. -/
def PosD (u : Int) (d : List Int) : Prop :=
  (u < 128 ∧ d = [u]) ∨ (∃ f ∈ [((204 : Int), (1 : Nat)), (205, 2), (206, 4), (207, 8)], okf u f = true ∧ d = f.1 :: bg u f.2) ∨ ∃ f ∈ [((208 : Int), (1 : Nat)), (209, 2), (210, 4), (211, 8)], u < 2 ^ (8 * f.2 - 1) ∧ d = f.1 :: bg u f.2
theorem Ow.sl3 {w : World} {c : Nat} (x : Option Addr × Nat × Nat) (h : w.heap.size = c) : Rd sl (w.alloc (.cells #[sl x] 24)) (some ⟨c, 0, none⟩) [x] := by
  subst h
  exact Ow.sl1 w x
theorem OwK.apart {w : World} {e e' : TypeId} {S n : Nat} {cells : List Value} {α : Type} {f : α → Value} {v v' : Value} {l : List α} (h : OwK e S w v n cells) (hv : Ow e' f w v' l) (hn : e ≠ e') : ∀ b, Blk v b → ¬ Blk v' b := fun b hb1 hb2 => by
  rcases hv.form with ⟨rfl, _⟩ | ⟨g', c, cur', rfl, _, _, _, hg, _⟩
  · exact Blk_nil hb2
  · rcases h.2 with ⟨rfl, rfl⟩ | ⟨g, cap, cur, rfl, hb, hg2, rest⟩
    · exact Blk_nil hb1
    · have e1 := Blk_slice.1 hb1
      have e2 := Blk_slice.1 hb2
      subst e1
      subst e2
      rw [hg2] at hg
      injection hg with hg
      injection hg with _ h1 _
      exact hn h1
set_option maxRecDepth 100000 in
set_option maxHeartbeats 4000000 in
theorem putInt_pos_false_false (pf : Nat) (u : Int) (w : World) (hF : Fm w pf) (h0 : 0 ≤ u) (h1 : u < 18446744073709551616) (hb : u < 128 ↔ false = true) :
    Calls Tryd.prog 41 #[.pointer (some ⟨pf, 0, none⟩), .int .u64 u, .bool false] w (ItTo (PosD u) pf w) := by
  obtain ⟨n, hn⟩ : ∃ n, IntKind.i64.wrap u = n := ⟨_, rfl⟩
  have hdb : decide (u < 128) = false := by simpa using hb
  have HB := hid hb
  clear hb
  obtain ⟨fs, hfs⟩ : ∃ fs, fs = [((204 : Int), (1 : Nat)), (205, 2), (206, 4), (207, 8)].filter (okf u) := ⟨_, rfl⟩
  have hfl : fs.length ≤ 4 := by rw [hfs]; exact List.length_filter_le _ _
  have hmem : ∀ f ∈ fs, f ∈ [((204 : Int), (1 : Nat)), (205, 2), (206, 4), (207, 8)] ∧ okf u f = true := fun f hf => by rw [hfs] at hf; exact List.mem_filter.1 hf
  have h207 : 0 < fs.length := List.length_pos_of_mem (a := (207, 8)) (by rw [hfs]; exact List.mem_filter.2 ⟨by simp, okf_8 u 207⟩)
  have hsz : ∀ (A : Option Addr) (w1 : World), RdK fmc w1 A [((204 : Int), (1 : Nat)), (205, 2), (206, 4), (207, 8)] → Calls Tryd.prog 33 #[.int .u64 u, .slice A 4 4] w1 fun e w' => ∃ v, e = .returned v ∧ OwK 62 2 w' v fs.length (fs.flatMap fmc) ∧ Fr w1 v ∧ Ch No w1 w' := fun A w1 hr => by
    rw [hfs]
    exact sizes_calls u A 4 [((204 : Int), (1 : Nat)), (205, 2), (206, 4), (207, 8)] w1 hr (by simp) (by simp) h0 h1
  clear hfs
  have HMEM := hid hmem
  have HSZ := hid hsz
  clear hmem hsz
  go_enter Tryd.func41, Tryd.ntmps41
  go_wp2_with fail
  have hm4 : May (PosD u) w w (.slice none 0 0) [] := May.nil _ _ _
  have C4 : Ch No w w := Ch.refl No w
  refine (HSZ.out _ _ (RdK.lit w 62 [((204 : Int), (1 : Nat)), (205, 2), (206, 4), (207, 8)])).mono ?_
  rintro e w5 ⟨v5, rfl, ho5, hf5, hch5⟩
  obtain ⟨A5, c5, rfl⟩ := ho5.slice
  have K5 : Ch No w w5 := ((Ch.refl No w).alloc _).no_no hch5
  have hm5 := hm4.keep0 K5
  have C5 := C4.no_no K5
  go_wp2_with fail
  go_loopg [11, 79] fs.length (fun kk s11 s79 wq => ∃ (i : Nat) (ys : List (Option Addr × Nat × Nat)), kk + i = fs.length ∧ s79 = .int .i64 i ∧ ys.length = i + 0 ∧ May (PosD u) w wq s11 ys ∧ Ch No w wq ∧ OwK 62 2 wq (.slice A5 fs.length c5) fs.length (fs.flatMap fmc))
  case atStart => exact ⟨0, _, by omega, rfl, by simp, hm5, C5, ho5⟩
  case round =>
    obtain ⟨i, ys, hki, rfl, hn, hmay, hch, hch9⟩ := hrel
    obtain ⟨A7, c7, rfl, _, _⟩ := hmay.1.slice
    by_cases hi : i < fs.length
    · obtain ⟨b1, rfl, a0, a1⟩ := hch9.rd.form i hi
      have hx9 := HMEM.out fs[i] (List.getElem_mem hi)
      have hi' : (i : Int) < fs.length := by omega
      have hi0 : (0 : Int) ≤ i := by omega
      generalize fs[i] = x at a0 a1 hx9
      have hP : PosD u (x.1 :: bg u x.2) := .inr (.inl ⟨x, hx9.1, hx9.2, rfl⟩)
      have hx8 : 0 ≤ x.1 ∧ x.1 < 256 ∧ 0 < x.2 ∧ x.2 ≤ 8 := by
        have h := hx9.1
        simp only [List.mem_cons, List.not_mem_nil, or_false] at h
        rcases h with rfl | rfl | rfl | rfl <;> simp
      clear hx9
      have HP := hid hP
      have HX := hid hx8
      have HN := hid hn
      have hyl : ys.length ≤ 5 := by omega
      clear hn
      clear hP hx8
      go_wp2_with fail
      refine (headed_calls x.1 u x.2 _ HX.out.2.2.1 HX.out.2.2.2 h0 h1 HX.out.1 HX.out.2.1).mono ?_
      rintro e w2 ⟨v2, rfl, ho2, hf2, hch2⟩
      obtain ⟨A2, c2, rfl, _, _⟩ := ho2.slice
      have Cw2 : Ch No wr w2 := ((Ch.refl No wr).alloc _).no_no hch2
      go_wp2_with ((with_reducible refine gate (.call { callee := .builtin .append, args := #[.tmp _, .tmp _], argTypes := #[114, 114] }) rfl ?_); refine wp_append rfl _ _ 114 24 (.slice none 0 0) 24 rfl Tryd.underlying114 info_sl rfl (by decide) sl (fun _ => rfl) _ ys [(A2, (x.1 :: bg u x.2).length, c2)] _ _ _ rfl rfl rfl ((hmay.keep0 Cw2).1.keep0 ((Ch.refl No w2).alloc _)) (Ow.sl1 w2 (A2, (x.1 :: bg u x.2).length, c2)) (by first | omega | (simp only [List.length_cons, List.length_nil]; omega)) ?_; intro v3 w3 ho3 hch3 hat3)
      have K2 : Ch No w2 (w2.alloc (.cells #[sl (A2, (x.1 :: bg u x.2).length, c2)] 24)) := (Ch.refl No w2).alloc _
      have CK := (hch.no_no Cw2).no_no K2
      have hfx : Fr w (sl (A2, (x.1 :: bg u x.2).length, c2)) := hf2.weak (hch.alloc _).size
      have K3 := CK.fresh hch3 hmay.2.1
      have K9 := ((hch9.keep0 Cw2).keep0 K2).keep hch3 (OwK.apart hch9 hmay.1 (by decide))
      have hm3 := ((hmay.keep0 Cw2).keep0 K2).push HP.out (ho2.keep0 K2) hfx CK.size ho3 hch3 hat3
      go_roundg (gk - 1)
      case measure => omega
      case rel => exact ⟨i + 1, _, by omega, by go_num, by rw [List.length_append, List.length_singleton, HN.out] <;> omega, hm3, K3, K9⟩
    · obtain rfl : i = fs.length := by omega
      have hpos : 0 < ys.length := by omega
      have hyl : ys.length ≤ 5 := by omega
      clear hn
      clear hm4 hm5 C4 C5 K5
      obtain ⟨wq, rfl⟩ : ∃ x, x = wr := ⟨_, rfl⟩
      go_wp2_with fail
      have hT := Row.alloc wq [.int .i64 1, .int .i64 2, .int .i64 4, .int .i64 8] 3
      go_loopg [11, 92] 4 (fun kk s11 s92 wr => ∃ (i : Nat) (xs : List (Option Addr × Nat × Nat)), kk + i = 4 ∧ s92 = .int .i64 i ∧ xs.length ≤ i + 5 ∧ May (PosD u) w wr s11 xs ∧ Row wr wq.heap.size 3 [.int .i64 1, .int .i64 2, .int .i64 4, .int .i64 8] ∧ Ch No w wr ∧ 0 < xs.length)
      case atStart => exact ⟨0, ys, by omega, rfl, by omega, hmay.keep0 ((Ch.refl No wq).alloc _), hT, hch.alloc _, hpos⟩
      case round =>
        clear hmay hch hpos
        obtain ⟨i, xs, hki, rfl, hn, hmay, hrT, hch, hpos⟩ := hrel
        obtain ⟨A8, c8, rfl, _, _⟩ := hmay.1.slice
        obtain hi | hi | hi | hi | hi : i = 0 ∨ i = 1 ∨ i = 2 ∨ i = 3 ∨ i = 4 := by omega
        · subst hi
          have c0 := hrT.cell 0 _ rfl
          by_cases hx : u < 128
          · have hdx : decide (u < 128) = true := decide_eq_true hx
            have hP : PosD u ([208] ++ bg u 1) := .inr (.inr ⟨(208, 1), by simp, by simp only; omega, rfl⟩)
            have HP := hid hP
            clear hP
            go_wp2_with fail
            refine (big_calls u 1 _ (by omega) (by omega) (by omega) (by omega)).mono ?_
            rintro e w1 ⟨v1, rfl, ho1, hf1, hch1⟩
            obtain ⟨A1, c1, rfl, _, _⟩ := ho1.slice
            go_wp2_with (first | ((with_reducible refine gate (.call { callee := .builtin .append, args := #[.tmp _, .tmp _], argTypes := #[24, 24] }) rfl ?_); refine wp_append rfl _ _ 24 5 (.int .u8 0) 1 rfl Tryd.underlying24 info_u8 rfl (by decide) Go.Proofs.YtooifcdkpddlmaaDoor.u8 (fun _ => rfl) _ [208] (bg u 1) _ _ _ rfl rfl rfl ((Ow.lit 5 Go.Proofs.YtooifcdkpddlmaaDoor.u8 wr [208] (by simp [maxLen])).keep0 hch1) ho1.rd (by simp [bg_len]) ?_; intro v2 w2 ho2 hch2 hat2; obtain ⟨A2, c2, rfl, _, _⟩ := ho2.slice; have Cw2 : Ch No wr w2 := (((Ch.refl No wr).alloc _).no_no hch1).fresh hch2 (Fr.mk' (Nat.le_refl _))) | ((with_reducible refine gate (.call { callee := .builtin .append, args := #[.tmp _, .tmp _], argTypes := #[114, 114] }) rfl ?_); refine wp_append rfl _ _ 114 24 (.slice none 0 0) 24 rfl Tryd.underlying114 info_sl rfl (by decide) sl (fun _ => rfl) _ xs [(A2, ([208] ++ bg u 1).length, c2)] _ _ _ rfl rfl rfl ((hmay.keep0 Cw2).1.keep0 ((Ch.refl No w2).alloc _)) (Ow.sl1 w2 (A2, ([208] ++ bg u 1).length, c2)) (by first | omega | (simp only [List.length_cons, List.length_nil]; omega)) ?_; intro v3 w3 ho3 hch3 hat3))
            have K2 : Ch No w2 (w2.alloc (.cells #[sl (A2, ([208] ++ bg u 1).length, c2)] 24)) := (Ch.refl No w2).alloc _
            have K1 : Ch No w w1 := (hch.alloc _).no_no hch1
            have CK := (hch.no_no Cw2).no_no K2
            have hfx : Fr w (sl (A2, ([208] ++ bg u 1).length, c2)) := (Fr.mk' hch.size : Fr w (.slice (some ⟨wr.heap.size, 0, none⟩) 1 1)).step K1.size hat2
            have K3 := CK.fresh hch3 hmay.2.1
            have hm3 := ((hmay.keep0 Cw2).keep0 K2).push HP.out (ho2.keep0 K2) hfx CK.size ho3 hch3 hat3
            go_roundg (gk - 1)
            case measure => omega
            case rel =>
              exact ⟨1, _, by omega, rfl, by simp; omega, hm3, (hrT.keep0 (Cw2.no_no K2)).keep hch3 (fun h => hrT.apart hmay.1 (by decide) h), K3, by simp⟩
          · have hdx : decide (u < 128) = false := decide_eq_false hx
            go_wp2_with fail
            go_roundg (gk - 1)
            case measure => omega
            case rel => exact ⟨1, xs, by omega, rfl, by omega, hmay, hrT, hch, hpos⟩
        · subst hi
          have c0 := hrT.cell 1 _ rfl
          by_cases hx : u < 32768
          · have hdx : decide (u < 32768) = true := decide_eq_true hx
            have hP : PosD u ([209] ++ bg u 2) := .inr (.inr ⟨(209, 2), by simp, by simp only; omega, rfl⟩)
            have HP := hid hP
            clear hP
            go_wp2_with fail
            refine (big_calls u 2 _ (by omega) (by omega) (by omega) (by omega)).mono ?_
            rintro e w1 ⟨v1, rfl, ho1, hf1, hch1⟩
            obtain ⟨A1, c1, rfl, _, _⟩ := ho1.slice
            go_wp2_with (first | ((with_reducible refine gate (.call { callee := .builtin .append, args := #[.tmp _, .tmp _], argTypes := #[24, 24] }) rfl ?_); refine wp_append rfl _ _ 24 5 (.int .u8 0) 1 rfl Tryd.underlying24 info_u8 rfl (by decide) Go.Proofs.YtooifcdkpddlmaaDoor.u8 (fun _ => rfl) _ [209] (bg u 2) _ _ _ rfl rfl rfl ((Ow.lit 5 Go.Proofs.YtooifcdkpddlmaaDoor.u8 wr [209] (by simp [maxLen])).keep0 hch1) ho1.rd (by simp [bg_len]) ?_; intro v2 w2 ho2 hch2 hat2; obtain ⟨A2, c2, rfl, _, _⟩ := ho2.slice; have Cw2 : Ch No wr w2 := (((Ch.refl No wr).alloc _).no_no hch1).fresh hch2 (Fr.mk' (Nat.le_refl _))) | ((with_reducible refine gate (.call { callee := .builtin .append, args := #[.tmp _, .tmp _], argTypes := #[114, 114] }) rfl ?_); refine wp_append rfl _ _ 114 24 (.slice none 0 0) 24 rfl Tryd.underlying114 info_sl rfl (by decide) sl (fun _ => rfl) _ xs [(A2, ([209] ++ bg u 2).length, c2)] _ _ _ rfl rfl rfl ((hmay.keep0 Cw2).1.keep0 ((Ch.refl No w2).alloc _)) (Ow.sl1 w2 (A2, ([209] ++ bg u 2).length, c2)) (by first | omega | (simp only [List.length_cons, List.length_nil]; omega)) ?_; intro v3 w3 ho3 hch3 hat3))
            have K2 : Ch No w2 (w2.alloc (.cells #[sl (A2, ([209] ++ bg u 2).length, c2)] 24)) := (Ch.refl No w2).alloc _
            have K1 : Ch No w w1 := (hch.alloc _).no_no hch1
            have CK := (hch.no_no Cw2).no_no K2
            have hfx : Fr w (sl (A2, ([209] ++ bg u 2).length, c2)) := (Fr.mk' hch.size : Fr w (.slice (some ⟨wr.heap.size, 0, none⟩) 1 1)).step K1.size hat2
            have K3 := CK.fresh hch3 hmay.2.1
            have hm3 := ((hmay.keep0 Cw2).keep0 K2).push HP.out (ho2.keep0 K2) hfx CK.size ho3 hch3 hat3
            go_roundg (gk - 1)
            case measure => omega
            case rel =>
              exact ⟨2, _, by omega, rfl, by simp; omega, hm3, (hrT.keep0 (Cw2.no_no K2)).keep hch3 (fun h => hrT.apart hmay.1 (by decide) h), K3, by simp⟩
          · have hdx : decide (u < 32768) = false := decide_eq_false hx
            go_wp2_with fail
            go_roundg (gk - 1)
            case measure => omega
            case rel => exact ⟨2, xs, by omega, rfl, by omega, hmay, hrT, hch, hpos⟩
        · subst hi
          have c0 := hrT.cell 2 _ rfl
          by_cases hx : u < 2147483648
          · have hdx : decide (u < 2147483648) = true := decide_eq_true hx
            have hP : PosD u ([210] ++ bg u 4) := .inr (.inr ⟨(210, 4), by simp, by simp only; omega, rfl⟩)
            have HP := hid hP
            clear hP
            go_wp2_with fail
            refine (big_calls u 4 _ (by omega) (by omega) (by omega) (by omega)).mono ?_
            rintro e w1 ⟨v1, rfl, ho1, hf1, hch1⟩
            obtain ⟨A1, c1, rfl, _, _⟩ := ho1.slice
            go_wp2_with (first | ((with_reducible refine gate (.call { callee := .builtin .append, args := #[.tmp _, .tmp _], argTypes := #[24, 24] }) rfl ?_); refine wp_append rfl _ _ 24 5 (.int .u8 0) 1 rfl Tryd.underlying24 info_u8 rfl (by decide) Go.Proofs.YtooifcdkpddlmaaDoor.u8 (fun _ => rfl) _ [210] (bg u 4) _ _ _ rfl rfl rfl ((Ow.lit 5 Go.Proofs.YtooifcdkpddlmaaDoor.u8 wr [210] (by simp [maxLen])).keep0 hch1) ho1.rd (by simp [bg_len]) ?_; intro v2 w2 ho2 hch2 hat2; obtain ⟨A2, c2, rfl, _, _⟩ := ho2.slice; have Cw2 : Ch No wr w2 := (((Ch.refl No wr).alloc _).no_no hch1).fresh hch2 (Fr.mk' (Nat.le_refl _))) | ((with_reducible refine gate (.call { callee := .builtin .append, args := #[.tmp _, .tmp _], argTypes := #[114, 114] }) rfl ?_); refine wp_append rfl _ _ 114 24 (.slice none 0 0) 24 rfl Tryd.underlying114 info_sl rfl (by decide) sl (fun _ => rfl) _ xs [(A2, ([210] ++ bg u 4).length, c2)] _ _ _ rfl rfl rfl ((hmay.keep0 Cw2).1.keep0 ((Ch.refl No w2).alloc _)) (Ow.sl1 w2 (A2, ([210] ++ bg u 4).length, c2)) (by first | omega | (simp only [List.length_cons, List.length_nil]; omega)) ?_; intro v3 w3 ho3 hch3 hat3))
            have K2 : Ch No w2 (w2.alloc (.cells #[sl (A2, ([210] ++ bg u 4).length, c2)] 24)) := (Ch.refl No w2).alloc _
            have K1 : Ch No w w1 := (hch.alloc _).no_no hch1
            have CK := (hch.no_no Cw2).no_no K2
            have hfx : Fr w (sl (A2, ([210] ++ bg u 4).length, c2)) := (Fr.mk' hch.size : Fr w (.slice (some ⟨wr.heap.size, 0, none⟩) 1 1)).step K1.size hat2
            have K3 := CK.fresh hch3 hmay.2.1
            have hm3 := ((hmay.keep0 Cw2).keep0 K2).push HP.out (ho2.keep0 K2) hfx CK.size ho3 hch3 hat3
            go_roundg (gk - 1)
            case measure => omega
            case rel =>
              exact ⟨3, _, by omega, rfl, by simp; omega, hm3, (hrT.keep0 (Cw2.no_no K2)).keep hch3 (fun h => hrT.apart hmay.1 (by decide) h), K3, by simp⟩
          · have hdx : decide (u < 2147483648) = false := decide_eq_false hx
            go_wp2_with fail
            go_roundg (gk - 1)
            case measure => omega
            case rel => exact ⟨3, xs, by omega, rfl, by omega, hmay, hrT, hch, hpos⟩
        · subst hi
          have c0 := hrT.cell 3 _ rfl
          by_cases hx : u < 9223372036854775808
          · have hdx : decide (u < 9223372036854775808) = true := decide_eq_true hx
            have hP : PosD u ([211] ++ bg u 8) := .inr (.inr ⟨(211, 8), by simp, by simp only; omega, rfl⟩)
            have HP := hid hP
            clear hP
            go_wp2_with fail
            refine (big_calls u 8 _ (by omega) (by omega) (by omega) (by omega)).mono ?_
            rintro e w1 ⟨v1, rfl, ho1, hf1, hch1⟩
            obtain ⟨A1, c1, rfl, _, _⟩ := ho1.slice
            go_wp2_with (first | ((with_reducible refine gate (.call { callee := .builtin .append, args := #[.tmp _, .tmp _], argTypes := #[24, 24] }) rfl ?_); refine wp_append rfl _ _ 24 5 (.int .u8 0) 1 rfl Tryd.underlying24 info_u8 rfl (by decide) Go.Proofs.YtooifcdkpddlmaaDoor.u8 (fun _ => rfl) _ [211] (bg u 8) _ _ _ rfl rfl rfl ((Ow.lit 5 Go.Proofs.YtooifcdkpddlmaaDoor.u8 wr [211] (by simp [maxLen])).keep0 hch1) ho1.rd (by simp [bg_len]) ?_; intro v2 w2 ho2 hch2 hat2; obtain ⟨A2, c2, rfl, _, _⟩ := ho2.slice; have Cw2 : Ch No wr w2 := (((Ch.refl No wr).alloc _).no_no hch1).fresh hch2 (Fr.mk' (Nat.le_refl _))) | ((with_reducible refine gate (.call { callee := .builtin .append, args := #[.tmp _, .tmp _], argTypes := #[114, 114] }) rfl ?_); refine wp_append rfl _ _ 114 24 (.slice none 0 0) 24 rfl Tryd.underlying114 info_sl rfl (by decide) sl (fun _ => rfl) _ xs [(A2, ([211] ++ bg u 8).length, c2)] _ _ _ rfl rfl rfl ((hmay.keep0 Cw2).1.keep0 ((Ch.refl No w2).alloc _)) (Ow.sl1 w2 (A2, ([211] ++ bg u 8).length, c2)) (by first | omega | (simp only [List.length_cons, List.length_nil]; omega)) ?_; intro v3 w3 ho3 hch3 hat3))
            have K2 : Ch No w2 (w2.alloc (.cells #[sl (A2, ([211] ++ bg u 8).length, c2)] 24)) := (Ch.refl No w2).alloc _
            have K1 : Ch No w w1 := (hch.alloc _).no_no hch1
            have CK := (hch.no_no Cw2).no_no K2
            have hfx : Fr w (sl (A2, ([211] ++ bg u 8).length, c2)) := (Fr.mk' hch.size : Fr w (.slice (some ⟨wr.heap.size, 0, none⟩) 1 1)).step K1.size hat2
            have K3 := CK.fresh hch3 hmay.2.1
            have hm3 := ((hmay.keep0 Cw2).keep0 K2).push HP.out (ho2.keep0 K2) hfx CK.size ho3 hch3 hat3
            go_roundg (gk - 1)
            case measure => omega
            case rel =>
              exact ⟨4, _, by omega, rfl, by simp; omega, hm3, (hrT.keep0 (Cw2.no_no K2)).keep hch3 (fun h => hrT.apart hmay.1 (by decide) h), K3, by simp⟩
          · have hdx : decide (u < 9223372036854775808) = false := decide_eq_false hx
            go_wp2_with fail
            go_roundg (gk - 1)
            case measure => omega
            case rel => exact ⟨4, xs, by omega, rfl, by omega, hmay, hrT, hch, hpos⟩
        · subst hi
          go_wp2_with fail
          refine (pick_calls pf xs.length wr (hF.keep0 hch) (by omega)).mono ?_
          rintro e w2 ⟨j, hk, rfl, hF2, hch2⟩
          have hj : j < xs.length := by omega
          obtain ⟨b, o, d, rfl, hc, hPd, hod, hfd⟩ := hmay.get j hj
          have hb := hmay.2.1 b (show Blk (.slice (some ⟨b, o, none⟩) xs.length c8) b from rfl)
          have hfl := hF.lt
          have hc2 := hch2.cell hc (fun h => by have h9 : b = pf := h; omega)
          have hj' : (j : Int) < xs.length := by omega
          have hj0 : (0 : Int) ≤ j := by omega
          have C2 : Ch (fun b => b = pf) w w2 := (Ch.of_no hch).trans hch2 (fun _ h => h) (fun _ h => .inl h)
          have hfin : Hid (ItTo (PosD u) pf w (.returned (sl xs[j])) w2) := ⟨_, d, rfl, hPd, hod.keep hch2 (fun b hb h => by have := hfd b hb; have h9 : b = pf := h; omega), hfd, hF2, C2⟩
          generalize xs[j] = x at hc2 hfin
          go_wp2_with fail
          go_ret
          exact hfin.out
set_option maxRecDepth 100000 in
set_option maxHeartbeats 4000000 in
theorem putInt_pos_false_true (pf : Nat) (u : Int) (w : World) (hF : Fm w pf) (h0 : 0 ≤ u) (h1 : u < 18446744073709551616) (hb : u < 128 ↔ true = true) :
    Calls Tryd.prog 41 #[.pointer (some ⟨pf, 0, none⟩), .int .u64 u, .bool false] w (ItTo (PosD u) pf w) := by
  obtain ⟨n, hn⟩ : ∃ n, IntKind.i64.wrap u = n := ⟨_, rfl⟩
  have hdb : decide (u < 128) = true := by simpa using hb
  have HB := hid hb
  clear hb
  obtain ⟨fs, hfs⟩ : ∃ fs, fs = [((204 : Int), (1 : Nat)), (205, 2), (206, 4), (207, 8)].filter (okf u) := ⟨_, rfl⟩
  have hfl : fs.length ≤ 4 := by rw [hfs]; exact List.length_filter_le _ _
  have hmem : ∀ f ∈ fs, f ∈ [((204 : Int), (1 : Nat)), (205, 2), (206, 4), (207, 8)] ∧ okf u f = true := fun f hf => by rw [hfs] at hf; exact List.mem_filter.1 hf
  have h207 : 0 < fs.length := List.length_pos_of_mem (a := (207, 8)) (by rw [hfs]; exact List.mem_filter.2 ⟨by simp, okf_8 u 207⟩)
  have hsz : ∀ (A : Option Addr) (w1 : World), RdK fmc w1 A [((204 : Int), (1 : Nat)), (205, 2), (206, 4), (207, 8)] → Calls Tryd.prog 33 #[.int .u64 u, .slice A 4 4] w1 fun e w' => ∃ v, e = .returned v ∧ OwK 62 2 w' v fs.length (fs.flatMap fmc) ∧ Fr w1 v ∧ Ch No w1 w' := fun A w1 hr => by
    rw [hfs]
    exact sizes_calls u A 4 [((204 : Int), (1 : Nat)), (205, 2), (206, 4), (207, 8)] w1 hr (by simp) (by simp) h0 h1
  clear hfs
  have HMEM := hid hmem
  have HSZ := hid hsz
  clear hmem hsz
  go_enter Tryd.func41, Tryd.ntmps41
  have hz : u < 128 := by have h := HB.out; simpa using h
  go_wp2_with ((with_reducible refine gate (.call { callee := .builtin .append, args := #[.tmp _, .tmp _], argTypes := #[114, 114] }) rfl ?_); refine wp_append rfl _ _ 114 24 (.slice none 0 0) 24 rfl Tryd.underlying114 info_sl rfl (by decide) sl (fun _ => rfl) _ [] [(some ⟨w.heap.size, 0, none⟩, 1, 1)] _ _ _ rfl rfl rfl (Ow.nil _ _ _) (Ow.sl2 w (.cells #[.int .u8 u] 5) (some ⟨w.heap.size, 0, none⟩, 1, 1)) (by decide) ?_; intro v4 w4 ho4 hch4 hat4; obtain ⟨A4, c4, rfl, _, _⟩ := ho4.slice)
  have hP : PosD u [u] := .inl ⟨hz, rfl⟩
  clear hz
  have K1 : Ch No w (w.alloc (.cells #[.int .u8 u] 5)) := (Ch.refl No w).alloc _
  have K2 := K1.alloc (.cells #[sl (some ⟨w.heap.size, 0, none⟩, 1, 1)] 24)
  have hox : Ow 5 Go.Proofs.YtooifcdkpddlmaaDoor.u8 (w.alloc (.cells #[.int .u8 u] 5)) (sl (some ⟨w.heap.size, 0, none⟩, 1, 1)) [u] := Ow.lit 5 Go.Proofs.YtooifcdkpddlmaaDoor.u8 w [u] (by simp [maxLen])
  have hm4 : May (PosD u) w w4 (.slice A4 1 c4) [(some ⟨w.heap.size, 0, none⟩, 1, 1)] := (May.nil (PosD u) w _).push hP (hox.keep0 ((Ch.refl No _).alloc _)) (Fr.mk' (Nat.le_refl _)) K2.size ho4 hch4 hat4
  have C4 : Ch No w w4 := K2.fresh hch4 (Fr.nil w 0 0)
  refine (HSZ.out _ _ (RdK.lit w4 62 [((204 : Int), (1 : Nat)), (205, 2), (206, 4), (207, 8)])).mono ?_
  rintro e w5 ⟨v5, rfl, ho5, hf5, hch5⟩
  obtain ⟨A5, c5, rfl⟩ := ho5.slice
  have K5 : Ch No w4 w5 := ((Ch.refl No w4).alloc _).no_no hch5
  have hm5 := hm4.keep0 K5
  have C5 := C4.no_no K5
  go_wp2_with fail
  go_loopg [11, 79] fs.length (fun kk s11 s79 wq => ∃ (i : Nat) (ys : List (Option Addr × Nat × Nat)), kk + i = fs.length ∧ s79 = .int .i64 i ∧ ys.length = i + 1 ∧ May (PosD u) w wq s11 ys ∧ Ch No w wq ∧ OwK 62 2 wq (.slice A5 fs.length c5) fs.length (fs.flatMap fmc))
  case atStart => exact ⟨0, _, by omega, rfl, by simp, hm5, C5, ho5⟩
  case round =>
    obtain ⟨i, ys, hki, rfl, hn, hmay, hch, hch9⟩ := hrel
    obtain ⟨A7, c7, rfl, _, _⟩ := hmay.1.slice
    by_cases hi : i < fs.length
    · obtain ⟨b1, rfl, a0, a1⟩ := hch9.rd.form i hi
      have hx9 := HMEM.out fs[i] (List.getElem_mem hi)
      have hi' : (i : Int) < fs.length := by omega
      have hi0 : (0 : Int) ≤ i := by omega
      generalize fs[i] = x at a0 a1 hx9
      have hP : PosD u (x.1 :: bg u x.2) := .inr (.inl ⟨x, hx9.1, hx9.2, rfl⟩)
      have hx8 : 0 ≤ x.1 ∧ x.1 < 256 ∧ 0 < x.2 ∧ x.2 ≤ 8 := by
        have h := hx9.1
        simp only [List.mem_cons, List.not_mem_nil, or_false] at h
        rcases h with rfl | rfl | rfl | rfl <;> simp
      clear hx9
      have HP := hid hP
      have HX := hid hx8
      have HN := hid hn
      have hyl : ys.length ≤ 5 := by omega
      clear hn
      clear hP hx8
      go_wp2_with fail
      refine (headed_calls x.1 u x.2 _ HX.out.2.2.1 HX.out.2.2.2 h0 h1 HX.out.1 HX.out.2.1).mono ?_
      rintro e w2 ⟨v2, rfl, ho2, hf2, hch2⟩
      obtain ⟨A2, c2, rfl, _, _⟩ := ho2.slice
      have Cw2 : Ch No wr w2 := ((Ch.refl No wr).alloc _).no_no hch2
      go_wp2_with ((with_reducible refine gate (.call { callee := .builtin .append, args := #[.tmp _, .tmp _], argTypes := #[114, 114] }) rfl ?_); refine wp_append rfl _ _ 114 24 (.slice none 0 0) 24 rfl Tryd.underlying114 info_sl rfl (by decide) sl (fun _ => rfl) _ ys [(A2, (x.1 :: bg u x.2).length, c2)] _ _ _ rfl rfl rfl ((hmay.keep0 Cw2).1.keep0 ((Ch.refl No w2).alloc _)) (Ow.sl1 w2 (A2, (x.1 :: bg u x.2).length, c2)) (by first | omega | (simp only [List.length_cons, List.length_nil]; omega)) ?_; intro v3 w3 ho3 hch3 hat3)
      have K2 : Ch No w2 (w2.alloc (.cells #[sl (A2, (x.1 :: bg u x.2).length, c2)] 24)) := (Ch.refl No w2).alloc _
      have CK := (hch.no_no Cw2).no_no K2
      have hfx : Fr w (sl (A2, (x.1 :: bg u x.2).length, c2)) := hf2.weak (hch.alloc _).size
      have K3 := CK.fresh hch3 hmay.2.1
      have K9 := ((hch9.keep0 Cw2).keep0 K2).keep hch3 (OwK.apart hch9 hmay.1 (by decide))
      have hm3 := ((hmay.keep0 Cw2).keep0 K2).push HP.out (ho2.keep0 K2) hfx CK.size ho3 hch3 hat3
      go_roundg (gk - 1)
      case measure => omega
      case rel => exact ⟨i + 1, _, by omega, by go_num, by rw [List.length_append, List.length_singleton, HN.out] <;> omega, hm3, K3, K9⟩
    · obtain rfl : i = fs.length := by omega
      have hpos : 0 < ys.length := by omega
      have hyl : ys.length ≤ 5 := by omega
      clear hn
      clear hm4 hm5 C4 C5 K5
      obtain ⟨wq, rfl⟩ : ∃ x, x = wr := ⟨_, rfl⟩
      go_wp2_with fail
      have hT := Row.alloc wq [.int .i64 1, .int .i64 2, .int .i64 4, .int .i64 8] 3
      go_loopg [11, 92] 4 (fun kk s11 s92 wr => ∃ (i : Nat) (xs : List (Option Addr × Nat × Nat)), kk + i = 4 ∧ s92 = .int .i64 i ∧ xs.length ≤ i + 5 ∧ May (PosD u) w wr s11 xs ∧ Row wr wq.heap.size 3 [.int .i64 1, .int .i64 2, .int .i64 4, .int .i64 8] ∧ Ch No w wr ∧ 0 < xs.length)
      case atStart => exact ⟨0, ys, by omega, rfl, by omega, hmay.keep0 ((Ch.refl No wq).alloc _), hT, hch.alloc _, hpos⟩
      case round =>
        clear hmay hch hpos
        obtain ⟨i, xs, hki, rfl, hn, hmay, hrT, hch, hpos⟩ := hrel
        obtain ⟨A8, c8, rfl, _, _⟩ := hmay.1.slice
        obtain hi | hi | hi | hi | hi : i = 0 ∨ i = 1 ∨ i = 2 ∨ i = 3 ∨ i = 4 := by omega
        · subst hi
          have c0 := hrT.cell 0 _ rfl
          by_cases hx : u < 128
          · have hdx : decide (u < 128) = true := decide_eq_true hx
            have hP : PosD u ([208] ++ bg u 1) := .inr (.inr ⟨(208, 1), by simp, by simp only; omega, rfl⟩)
            have HP := hid hP
            clear hP
            go_wp2_with fail
            refine (big_calls u 1 _ (by omega) (by omega) (by omega) (by omega)).mono ?_
            rintro e w1 ⟨v1, rfl, ho1, hf1, hch1⟩
            obtain ⟨A1, c1, rfl, _, _⟩ := ho1.slice
            go_wp2_with (first | ((with_reducible refine gate (.call { callee := .builtin .append, args := #[.tmp _, .tmp _], argTypes := #[24, 24] }) rfl ?_); refine wp_append rfl _ _ 24 5 (.int .u8 0) 1 rfl Tryd.underlying24 info_u8 rfl (by decide) Go.Proofs.YtooifcdkpddlmaaDoor.u8 (fun _ => rfl) _ [208] (bg u 1) _ _ _ rfl rfl rfl ((Ow.lit 5 Go.Proofs.YtooifcdkpddlmaaDoor.u8 wr [208] (by simp [maxLen])).keep0 hch1) ho1.rd (by simp [bg_len]) ?_; intro v2 w2 ho2 hch2 hat2; obtain ⟨A2, c2, rfl, _, _⟩ := ho2.slice; have Cw2 : Ch No wr w2 := (((Ch.refl No wr).alloc _).no_no hch1).fresh hch2 (Fr.mk' (Nat.le_refl _))) | ((with_reducible refine gate (.call { callee := .builtin .append, args := #[.tmp _, .tmp _], argTypes := #[114, 114] }) rfl ?_); refine wp_append rfl _ _ 114 24 (.slice none 0 0) 24 rfl Tryd.underlying114 info_sl rfl (by decide) sl (fun _ => rfl) _ xs [(A2, ([208] ++ bg u 1).length, c2)] _ _ _ rfl rfl rfl ((hmay.keep0 Cw2).1.keep0 ((Ch.refl No w2).alloc _)) (Ow.sl1 w2 (A2, ([208] ++ bg u 1).length, c2)) (by first | omega | (simp only [List.length_cons, List.length_nil]; omega)) ?_; intro v3 w3 ho3 hch3 hat3))
            have K2 : Ch No w2 (w2.alloc (.cells #[sl (A2, ([208] ++ bg u 1).length, c2)] 24)) := (Ch.refl No w2).alloc _
            have K1 : Ch No w w1 := (hch.alloc _).no_no hch1
            have CK := (hch.no_no Cw2).no_no K2
            have hfx : Fr w (sl (A2, ([208] ++ bg u 1).length, c2)) := (Fr.mk' hch.size : Fr w (.slice (some ⟨wr.heap.size, 0, none⟩) 1 1)).step K1.size hat2
            have K3 := CK.fresh hch3 hmay.2.1
            have hm3 := ((hmay.keep0 Cw2).keep0 K2).push HP.out (ho2.keep0 K2) hfx CK.size ho3 hch3 hat3
            go_roundg (gk - 1)
            case measure => omega
            case rel =>
              exact ⟨1, _, by omega, rfl, by simp; omega, hm3, (hrT.keep0 (Cw2.no_no K2)).keep hch3 (fun h => hrT.apart hmay.1 (by decide) h), K3, by simp⟩
          · have hdx : decide (u < 128) = false := decide_eq_false hx
            go_wp2_with fail
            go_roundg (gk - 1)
            case measure => omega
            case rel => exact ⟨1, xs, by omega, rfl, by omega, hmay, hrT, hch, hpos⟩
        · subst hi
          have c0 := hrT.cell 1 _ rfl
          by_cases hx : u < 32768
          · have hdx : decide (u < 32768) = true := decide_eq_true hx
            have hP : PosD u ([209] ++ bg u 2) := .inr (.inr ⟨(209, 2), by simp, by simp only; omega, rfl⟩)
            have HP := hid hP
            clear hP
            go_wp2_with fail
            refine (big_calls u 2 _ (by omega) (by omega) (by omega) (by omega)).mono ?_
            rintro e w1 ⟨v1, rfl, ho1, hf1, hch1⟩
            obtain ⟨A1, c1, rfl, _, _⟩ := ho1.slice
            go_wp2_with (first | ((with_reducible refine gate (.call { callee := .builtin .append, args := #[.tmp _, .tmp _], argTypes := #[24, 24] }) rfl ?_); refine wp_append rfl _ _ 24 5 (.int .u8 0) 1 rfl Tryd.underlying24 info_u8 rfl (by decide) Go.Proofs.YtooifcdkpddlmaaDoor.u8 (fun _ => rfl) _ [209] (bg u 2) _ _ _ rfl rfl rfl ((Ow.lit 5 Go.Proofs.YtooifcdkpddlmaaDoor.u8 wr [209] (by simp [maxLen])).keep0 hch1) ho1.rd (by simp [bg_len]) ?_; intro v2 w2 ho2 hch2 hat2; obtain ⟨A2, c2, rfl, _, _⟩ := ho2.slice; have Cw2 : Ch No wr w2 := (((Ch.refl No wr).alloc _).no_no hch1).fresh hch2 (Fr.mk' (Nat.le_refl _))) | ((with_reducible refine gate (.call { callee := .builtin .append, args := #[.tmp _, .tmp _], argTypes := #[114, 114] }) rfl ?_); refine wp_append rfl _ _ 114 24 (.slice none 0 0) 24 rfl Tryd.underlying114 info_sl rfl (by decide) sl (fun _ => rfl) _ xs [(A2, ([209] ++ bg u 2).length, c2)] _ _ _ rfl rfl rfl ((hmay.keep0 Cw2).1.keep0 ((Ch.refl No w2).alloc _)) (Ow.sl1 w2 (A2, ([209] ++ bg u 2).length, c2)) (by first | omega | (simp only [List.length_cons, List.length_nil]; omega)) ?_; intro v3 w3 ho3 hch3 hat3))
            have K2 : Ch No w2 (w2.alloc (.cells #[sl (A2, ([209] ++ bg u 2).length, c2)] 24)) := (Ch.refl No w2).alloc _
            have K1 : Ch No w w1 := (hch.alloc _).no_no hch1
            have CK := (hch.no_no Cw2).no_no K2
            have hfx : Fr w (sl (A2, ([209] ++ bg u 2).length, c2)) := (Fr.mk' hch.size : Fr w (.slice (some ⟨wr.heap.size, 0, none⟩) 1 1)).step K1.size hat2
            have K3 := CK.fresh hch3 hmay.2.1
            have hm3 := ((hmay.keep0 Cw2).keep0 K2).push HP.out (ho2.keep0 K2) hfx CK.size ho3 hch3 hat3
            go_roundg (gk - 1)
            case measure => omega
            case rel =>
              exact ⟨2, _, by omega, rfl, by simp; omega, hm3, (hrT.keep0 (Cw2.no_no K2)).keep hch3 (fun h => hrT.apart hmay.1 (by decide) h), K3, by simp⟩
          · have hdx : decide (u < 32768) = false := decide_eq_false hx
            go_wp2_with fail
            go_roundg (gk - 1)
            case measure => omega
            case rel => exact ⟨2, xs, by omega, rfl, by omega, hmay, hrT, hch, hpos⟩
        · subst hi
          have c0 := hrT.cell 2 _ rfl
          by_cases hx : u < 2147483648
          · have hdx : decide (u < 2147483648) = true := decide_eq_true hx
            have hP : PosD u ([210] ++ bg u 4) := .inr (.inr ⟨(210, 4), by simp, by simp only; omega, rfl⟩)
            have HP := hid hP
            clear hP
            go_wp2_with fail
            refine (big_calls u 4 _ (by omega) (by omega) (by omega) (by omega)).mono ?_
            rintro e w1 ⟨v1, rfl, ho1, hf1, hch1⟩
            obtain ⟨A1, c1, rfl, _, _⟩ := ho1.slice
            go_wp2_with (first | ((with_reducible refine gate (.call { callee := .builtin .append, args := #[.tmp _, .tmp _], argTypes := #[24, 24] }) rfl ?_); refine wp_append rfl _ _ 24 5 (.int .u8 0) 1 rfl Tryd.underlying24 info_u8 rfl (by decide) Go.Proofs.YtooifcdkpddlmaaDoor.u8 (fun _ => rfl) _ [210] (bg u 4) _ _ _ rfl rfl rfl ((Ow.lit 5 Go.Proofs.YtooifcdkpddlmaaDoor.u8 wr [210] (by simp [maxLen])).keep0 hch1) ho1.rd (by simp [bg_len]) ?_; intro v2 w2 ho2 hch2 hat2; obtain ⟨A2, c2, rfl, _, _⟩ := ho2.slice; have Cw2 : Ch No wr w2 := (((Ch.refl No wr).alloc _).no_no hch1).fresh hch2 (Fr.mk' (Nat.le_refl _))) | ((with_reducible refine gate (.call { callee := .builtin .append, args := #[.tmp _, .tmp _], argTypes := #[114, 114] }) rfl ?_); refine wp_append rfl _ _ 114 24 (.slice none 0 0) 24 rfl Tryd.underlying114 info_sl rfl (by decide) sl (fun _ => rfl) _ xs [(A2, ([210] ++ bg u 4).length, c2)] _ _ _ rfl rfl rfl ((hmay.keep0 Cw2).1.keep0 ((Ch.refl No w2).alloc _)) (Ow.sl1 w2 (A2, ([210] ++ bg u 4).length, c2)) (by first | omega | (simp only [List.length_cons, List.length_nil]; omega)) ?_; intro v3 w3 ho3 hch3 hat3))
            have K2 : Ch No w2 (w2.alloc (.cells #[sl (A2, ([210] ++ bg u 4).length, c2)] 24)) := (Ch.refl No w2).alloc _
            have K1 : Ch No w w1 := (hch.alloc _).no_no hch1
            have CK := (hch.no_no Cw2).no_no K2
            have hfx : Fr w (sl (A2, ([210] ++ bg u 4).length, c2)) := (Fr.mk' hch.size : Fr w (.slice (some ⟨wr.heap.size, 0, none⟩) 1 1)).step K1.size hat2
            have K3 := CK.fresh hch3 hmay.2.1
            have hm3 := ((hmay.keep0 Cw2).keep0 K2).push HP.out (ho2.keep0 K2) hfx CK.size ho3 hch3 hat3
            go_roundg (gk - 1)
            case measure => omega
            case rel =>
              exact ⟨3, _, by omega, rfl, by simp; omega, hm3, (hrT.keep0 (Cw2.no_no K2)).keep hch3 (fun h => hrT.apart hmay.1 (by decide) h), K3, by simp⟩
          · have hdx : decide (u < 2147483648) = false := decide_eq_false hx
            go_wp2_with fail
            go_roundg (gk - 1)
            case measure => omega
            case rel => exact ⟨3, xs, by omega, rfl, by omega, hmay, hrT, hch, hpos⟩
        · subst hi
          have c0 := hrT.cell 3 _ rfl
          by_cases hx : u < 9223372036854775808
          · have hdx : decide (u < 9223372036854775808) = true := decide_eq_true hx
            have hP : PosD u ([211] ++ bg u 8) := .inr (.inr ⟨(211, 8), by simp, by simp only; omega, rfl⟩)
            have HP := hid hP
            clear hP
            go_wp2_with fail
            refine (big_calls u 8 _ (by omega) (by omega) (by omega) (by omega)).mono ?_
            rintro e w1 ⟨v1, rfl, ho1, hf1, hch1⟩
            obtain ⟨A1, c1, rfl, _, _⟩ := ho1.slice
            go_wp2_with (first | ((with_reducible refine gate (.call { callee := .builtin .append, args := #[.tmp _, .tmp _], argTypes := #[24, 24] }) rfl ?_); refine wp_append rfl _ _ 24 5 (.int .u8 0) 1 rfl Tryd.underlying24 info_u8 rfl (by decide) Go.Proofs.YtooifcdkpddlmaaDoor.u8 (fun _ => rfl) _ [211] (bg u 8) _ _ _ rfl rfl rfl ((Ow.lit 5 Go.Proofs.YtooifcdkpddlmaaDoor.u8 wr [211] (by simp [maxLen])).keep0 hch1) ho1.rd (by simp [bg_len]) ?_; intro v2 w2 ho2 hch2 hat2; obtain ⟨A2, c2, rfl, _, _⟩ := ho2.slice; have Cw2 : Ch No wr w2 := (((Ch.refl No wr).alloc _).no_no hch1).fresh hch2 (Fr.mk' (Nat.le_refl _))) | ((with_reducible refine gate (.call { callee := .builtin .append, args := #[.tmp _, .tmp _], argTypes := #[114, 114] }) rfl ?_); refine wp_append rfl _ _ 114 24 (.slice none 0 0) 24 rfl Tryd.underlying114 info_sl rfl (by decide) sl (fun _ => rfl) _ xs [(A2, ([211] ++ bg u 8).length, c2)] _ _ _ rfl rfl rfl ((hmay.keep0 Cw2).1.keep0 ((Ch.refl No w2).alloc _)) (Ow.sl1 w2 (A2, ([211] ++ bg u 8).length, c2)) (by first | omega | (simp only [List.length_cons, List.length_nil]; omega)) ?_; intro v3 w3 ho3 hch3 hat3))
            have K2 : Ch No w2 (w2.alloc (.cells #[sl (A2, ([211] ++ bg u 8).length, c2)] 24)) := (Ch.refl No w2).alloc _
            have K1 : Ch No w w1 := (hch.alloc _).no_no hch1
            have CK := (hch.no_no Cw2).no_no K2
            have hfx : Fr w (sl (A2, ([211] ++ bg u 8).length, c2)) := (Fr.mk' hch.size : Fr w (.slice (some ⟨wr.heap.size, 0, none⟩) 1 1)).step K1.size hat2
            have K3 := CK.fresh hch3 hmay.2.1
            have hm3 := ((hmay.keep0 Cw2).keep0 K2).push HP.out (ho2.keep0 K2) hfx CK.size ho3 hch3 hat3
            go_roundg (gk - 1)
            case measure => omega
            case rel =>
              exact ⟨4, _, by omega, rfl, by simp; omega, hm3, (hrT.keep0 (Cw2.no_no K2)).keep hch3 (fun h => hrT.apart hmay.1 (by decide) h), K3, by simp⟩
          · have hdx : decide (u < 9223372036854775808) = false := decide_eq_false hx
            go_wp2_with fail
            go_roundg (gk - 1)
            case measure => omega
            case rel => exact ⟨4, xs, by omega, rfl, by omega, hmay, hrT, hch, hpos⟩
        · subst hi
          go_wp2_with fail
          refine (pick_calls pf xs.length wr (hF.keep0 hch) (by omega)).mono ?_
          rintro e w2 ⟨j, hk, rfl, hF2, hch2⟩
          have hj : j < xs.length := by omega
          obtain ⟨b, o, d, rfl, hc, hPd, hod, hfd⟩ := hmay.get j hj
          have hb := hmay.2.1 b (show Blk (.slice (some ⟨b, o, none⟩) xs.length c8) b from rfl)
          have hfl := hF.lt
          have hc2 := hch2.cell hc (fun h => by have h9 : b = pf := h; omega)
          have hj' : (j : Int) < xs.length := by omega
          have hj0 : (0 : Int) ≤ j := by omega
          have C2 : Ch (fun b => b = pf) w w2 := (Ch.of_no hch).trans hch2 (fun _ h => h) (fun _ h => .inl h)
          have hfin : Hid (ItTo (PosD u) pf w (.returned (sl xs[j])) w2) := ⟨_, d, rfl, hPd, hod.keep hch2 (fun b hb h => by have := hfd b hb; have h9 : b = pf := h; omega), hfd, hF2, C2⟩
          generalize xs[j] = x at hc2 hfin
          go_wp2_with fail
          go_ret
          exact hfin.out
set_option maxRecDepth 100000 in
set_option maxHeartbeats 4000000 in
theorem putInt_pos_true_false (pf : Nat) (u : Int) (w : World) (hF : Fm w pf) (h0 : 0 ≤ u) (h1 : u < 18446744073709551616) (hsg : u < 9223372036854775808) (hb : u < 128 ↔ false = true) :
    Calls Tryd.prog 41 #[.pointer (some ⟨pf, 0, none⟩), .int .u64 u, .bool true] w (ItTo (PosD u) pf w) := by
  obtain ⟨n, hn⟩ : ∃ n, IntKind.i64.wrap u = n := ⟨_, rfl⟩
  have hdb : decide (u < 128) = false := by simpa using hb
  have HB := hid hb
  clear hb
  have hd0 : decide (n < 0) = false := decide_eq_false (by have h2 : IntKind.i64.wrap u = u := by (simp [IntKind.wrap, IntKind.bits, IntKind.signed]; omega)
                                                           omega)
  obtain ⟨fs, hfs⟩ : ∃ fs, fs = [((204 : Int), (1 : Nat)), (205, 2), (206, 4), (207, 8)].filter (okf u) := ⟨_, rfl⟩
  have hfl : fs.length ≤ 4 := by rw [hfs]; exact List.length_filter_le _ _
  have hmem : ∀ f ∈ fs, f ∈ [((204 : Int), (1 : Nat)), (205, 2), (206, 4), (207, 8)] ∧ okf u f = true := fun f hf => by rw [hfs] at hf; exact List.mem_filter.1 hf
  have h207 : 0 < fs.length := List.length_pos_of_mem (a := (207, 8)) (by rw [hfs]; exact List.mem_filter.2 ⟨by simp, okf_8 u 207⟩)
  have hsz : ∀ (A : Option Addr) (w1 : World), RdK fmc w1 A [((204 : Int), (1 : Nat)), (205, 2), (206, 4), (207, 8)] → Calls Tryd.prog 33 #[.int .u64 u, .slice A 4 4] w1 fun e w' => ∃ v, e = .returned v ∧ OwK 62 2 w' v fs.length (fs.flatMap fmc) ∧ Fr w1 v ∧ Ch No w1 w' := fun A w1 hr => by
    rw [hfs]
    exact sizes_calls u A 4 [((204 : Int), (1 : Nat)), (205, 2), (206, 4), (207, 8)] w1 hr (by simp) (by simp) h0 h1
  clear hfs
  have HMEM := hid hmem
  have HSZ := hid hsz
  clear hmem hsz
  go_enter Tryd.func41, Tryd.ntmps41
  go_wp2_with fail
  have hm4 : May (PosD u) w w (.slice none 0 0) [] := May.nil _ _ _
  have C4 : Ch No w w := Ch.refl No w
  refine (HSZ.out _ _ (RdK.lit w 62 [((204 : Int), (1 : Nat)), (205, 2), (206, 4), (207, 8)])).mono ?_
  rintro e w5 ⟨v5, rfl, ho5, hf5, hch5⟩
  obtain ⟨A5, c5, rfl⟩ := ho5.slice
  have K5 : Ch No w w5 := ((Ch.refl No w).alloc _).no_no hch5
  have hm5 := hm4.keep0 K5
  have C5 := C4.no_no K5
  go_wp2_with fail
  go_loopg [11, 79] fs.length (fun kk s11 s79 wq => ∃ (i : Nat) (ys : List (Option Addr × Nat × Nat)), kk + i = fs.length ∧ s79 = .int .i64 i ∧ ys.length = i + 0 ∧ May (PosD u) w wq s11 ys ∧ Ch No w wq ∧ OwK 62 2 wq (.slice A5 fs.length c5) fs.length (fs.flatMap fmc))
  case atStart => exact ⟨0, _, by omega, rfl, by simp, hm5, C5, ho5⟩
  case round =>
    obtain ⟨i, ys, hki, rfl, hn, hmay, hch, hch9⟩ := hrel
    obtain ⟨A7, c7, rfl, _, _⟩ := hmay.1.slice
    by_cases hi : i < fs.length
    · obtain ⟨b1, rfl, a0, a1⟩ := hch9.rd.form i hi
      have hx9 := HMEM.out fs[i] (List.getElem_mem hi)
      have hi' : (i : Int) < fs.length := by omega
      have hi0 : (0 : Int) ≤ i := by omega
      generalize fs[i] = x at a0 a1 hx9
      have hP : PosD u (x.1 :: bg u x.2) := .inr (.inl ⟨x, hx9.1, hx9.2, rfl⟩)
      have hx8 : 0 ≤ x.1 ∧ x.1 < 256 ∧ 0 < x.2 ∧ x.2 ≤ 8 := by
        have h := hx9.1
        simp only [List.mem_cons, List.not_mem_nil, or_false] at h
        rcases h with rfl | rfl | rfl | rfl <;> simp
      clear hx9
      have HP := hid hP
      have HX := hid hx8
      have HN := hid hn
      have hyl : ys.length ≤ 5 := by omega
      clear hn
      clear hP hx8
      go_wp2_with fail
      refine (headed_calls x.1 u x.2 _ HX.out.2.2.1 HX.out.2.2.2 h0 h1 HX.out.1 HX.out.2.1).mono ?_
      rintro e w2 ⟨v2, rfl, ho2, hf2, hch2⟩
      obtain ⟨A2, c2, rfl, _, _⟩ := ho2.slice
      have Cw2 : Ch No wr w2 := ((Ch.refl No wr).alloc _).no_no hch2
      go_wp2_with ((with_reducible refine gate (.call { callee := .builtin .append, args := #[.tmp _, .tmp _], argTypes := #[114, 114] }) rfl ?_); refine wp_append rfl _ _ 114 24 (.slice none 0 0) 24 rfl Tryd.underlying114 info_sl rfl (by decide) sl (fun _ => rfl) _ ys [(A2, (x.1 :: bg u x.2).length, c2)] _ _ _ rfl rfl rfl ((hmay.keep0 Cw2).1.keep0 ((Ch.refl No w2).alloc _)) (Ow.sl1 w2 (A2, (x.1 :: bg u x.2).length, c2)) (by first | omega | (simp only [List.length_cons, List.length_nil]; omega)) ?_; intro v3 w3 ho3 hch3 hat3)
      have K2 : Ch No w2 (w2.alloc (.cells #[sl (A2, (x.1 :: bg u x.2).length, c2)] 24)) := (Ch.refl No w2).alloc _
      have CK := (hch.no_no Cw2).no_no K2
      have hfx : Fr w (sl (A2, (x.1 :: bg u x.2).length, c2)) := hf2.weak (hch.alloc _).size
      have K3 := CK.fresh hch3 hmay.2.1
      have K9 := ((hch9.keep0 Cw2).keep0 K2).keep hch3 (OwK.apart hch9 hmay.1 (by decide))
      have hm3 := ((hmay.keep0 Cw2).keep0 K2).push HP.out (ho2.keep0 K2) hfx CK.size ho3 hch3 hat3
      go_roundg (gk - 1)
      case measure => omega
      case rel => exact ⟨i + 1, _, by omega, by go_num, by rw [List.length_append, List.length_singleton, HN.out] <;> omega, hm3, K3, K9⟩
    · obtain rfl : i = fs.length := by omega
      have hpos : 0 < ys.length := by omega
      have hyl : ys.length ≤ 5 := by omega
      clear hn
      clear hm4 hm5 C4 C5 K5
      obtain ⟨wq, rfl⟩ : ∃ x, x = wr := ⟨_, rfl⟩
      go_wp2_with fail
      have hT := Row.alloc wq [.int .i64 1, .int .i64 2, .int .i64 4, .int .i64 8] 3
      go_loopg [11, 92] 4 (fun kk s11 s92 wr => ∃ (i : Nat) (xs : List (Option Addr × Nat × Nat)), kk + i = 4 ∧ s92 = .int .i64 i ∧ xs.length ≤ i + 5 ∧ May (PosD u) w wr s11 xs ∧ Row wr wq.heap.size 3 [.int .i64 1, .int .i64 2, .int .i64 4, .int .i64 8] ∧ Ch No w wr ∧ 0 < xs.length)
      case atStart => exact ⟨0, ys, by omega, rfl, by omega, hmay.keep0 ((Ch.refl No wq).alloc _), hT, hch.alloc _, hpos⟩
      case round =>
        clear hmay hch hpos
        obtain ⟨i, xs, hki, rfl, hn, hmay, hrT, hch, hpos⟩ := hrel
        obtain ⟨A8, c8, rfl, _, _⟩ := hmay.1.slice
        obtain hi | hi | hi | hi | hi : i = 0 ∨ i = 1 ∨ i = 2 ∨ i = 3 ∨ i = 4 := by omega
        · subst hi
          have c0 := hrT.cell 0 _ rfl
          by_cases hx : u < 128
          · have hdx : decide (u < 128) = true := decide_eq_true hx
            have hP : PosD u ([208] ++ bg u 1) := .inr (.inr ⟨(208, 1), by simp, by simp only; omega, rfl⟩)
            have HP := hid hP
            clear hP
            go_wp2_with fail
            refine (big_calls u 1 _ (by omega) (by omega) (by omega) (by omega)).mono ?_
            rintro e w1 ⟨v1, rfl, ho1, hf1, hch1⟩
            obtain ⟨A1, c1, rfl, _, _⟩ := ho1.slice
            go_wp2_with (first | ((with_reducible refine gate (.call { callee := .builtin .append, args := #[.tmp _, .tmp _], argTypes := #[24, 24] }) rfl ?_); refine wp_append rfl _ _ 24 5 (.int .u8 0) 1 rfl Tryd.underlying24 info_u8 rfl (by decide) Go.Proofs.YtooifcdkpddlmaaDoor.u8 (fun _ => rfl) _ [208] (bg u 1) _ _ _ rfl rfl rfl ((Ow.lit 5 Go.Proofs.YtooifcdkpddlmaaDoor.u8 wr [208] (by simp [maxLen])).keep0 hch1) ho1.rd (by simp [bg_len]) ?_; intro v2 w2 ho2 hch2 hat2; obtain ⟨A2, c2, rfl, _, _⟩ := ho2.slice; have Cw2 : Ch No wr w2 := (((Ch.refl No wr).alloc _).no_no hch1).fresh hch2 (Fr.mk' (Nat.le_refl _))) | ((with_reducible refine gate (.call { callee := .builtin .append, args := #[.tmp _, .tmp _], argTypes := #[114, 114] }) rfl ?_); refine wp_append rfl _ _ 114 24 (.slice none 0 0) 24 rfl Tryd.underlying114 info_sl rfl (by decide) sl (fun _ => rfl) _ xs [(A2, ([208] ++ bg u 1).length, c2)] _ _ _ rfl rfl rfl ((hmay.keep0 Cw2).1.keep0 ((Ch.refl No w2).alloc _)) (Ow.sl1 w2 (A2, ([208] ++ bg u 1).length, c2)) (by first | omega | (simp only [List.length_cons, List.length_nil]; omega)) ?_; intro v3 w3 ho3 hch3 hat3))
            have K2 : Ch No w2 (w2.alloc (.cells #[sl (A2, ([208] ++ bg u 1).length, c2)] 24)) := (Ch.refl No w2).alloc _
            have K1 : Ch No w w1 := (hch.alloc _).no_no hch1
            have CK := (hch.no_no Cw2).no_no K2
            have hfx : Fr w (sl (A2, ([208] ++ bg u 1).length, c2)) := (Fr.mk' hch.size : Fr w (.slice (some ⟨wr.heap.size, 0, none⟩) 1 1)).step K1.size hat2
            have K3 := CK.fresh hch3 hmay.2.1
            have hm3 := ((hmay.keep0 Cw2).keep0 K2).push HP.out (ho2.keep0 K2) hfx CK.size ho3 hch3 hat3
            go_roundg (gk - 1)
            case measure => omega
            case rel =>
              exact ⟨1, _, by omega, rfl, by simp; omega, hm3, (hrT.keep0 (Cw2.no_no K2)).keep hch3 (fun h => hrT.apart hmay.1 (by decide) h), K3, by simp⟩
          · have hdx : decide (u < 128) = false := decide_eq_false hx
            go_wp2_with fail
            go_roundg (gk - 1)
            case measure => omega
            case rel => exact ⟨1, xs, by omega, rfl, by omega, hmay, hrT, hch, hpos⟩
        · subst hi
          have c0 := hrT.cell 1 _ rfl
          by_cases hx : u < 32768
          · have hdx : decide (u < 32768) = true := decide_eq_true hx
            have hP : PosD u ([209] ++ bg u 2) := .inr (.inr ⟨(209, 2), by simp, by simp only; omega, rfl⟩)
            have HP := hid hP
            clear hP
            go_wp2_with fail
            refine (big_calls u 2 _ (by omega) (by omega) (by omega) (by omega)).mono ?_
            rintro e w1 ⟨v1, rfl, ho1, hf1, hch1⟩
            obtain ⟨A1, c1, rfl, _, _⟩ := ho1.slice
            go_wp2_with (first | ((with_reducible refine gate (.call { callee := .builtin .append, args := #[.tmp _, .tmp _], argTypes := #[24, 24] }) rfl ?_); refine wp_append rfl _ _ 24 5 (.int .u8 0) 1 rfl Tryd.underlying24 info_u8 rfl (by decide) Go.Proofs.YtooifcdkpddlmaaDoor.u8 (fun _ => rfl) _ [209] (bg u 2) _ _ _ rfl rfl rfl ((Ow.lit 5 Go.Proofs.YtooifcdkpddlmaaDoor.u8 wr [209] (by simp [maxLen])).keep0 hch1) ho1.rd (by simp [bg_len]) ?_; intro v2 w2 ho2 hch2 hat2; obtain ⟨A2, c2, rfl, _, _⟩ := ho2.slice; have Cw2 : Ch No wr w2 := (((Ch.refl No wr).alloc _).no_no hch1).fresh hch2 (Fr.mk' (Nat.le_refl _))) | ((with_reducible refine gate (.call { callee := .builtin .append, args := #[.tmp _, .tmp _], argTypes := #[114, 114] }) rfl ?_); refine wp_append rfl _ _ 114 24 (.slice none 0 0) 24 rfl Tryd.underlying114 info_sl rfl (by decide) sl (fun _ => rfl) _ xs [(A2, ([209] ++ bg u 2).length, c2)] _ _ _ rfl rfl rfl ((hmay.keep0 Cw2).1.keep0 ((Ch.refl No w2).alloc _)) (Ow.sl1 w2 (A2, ([209] ++ bg u 2).length, c2)) (by first | omega | (simp only [List.length_cons, List.length_nil]; omega)) ?_; intro v3 w3 ho3 hch3 hat3))
            have K2 : Ch No w2 (w2.alloc (.cells #[sl (A2, ([209] ++ bg u 2).length, c2)] 24)) := (Ch.refl No w2).alloc _
            have K1 : Ch No w w1 := (hch.alloc _).no_no hch1
            have CK := (hch.no_no Cw2).no_no K2
            have hfx : Fr w (sl (A2, ([209] ++ bg u 2).length, c2)) := (Fr.mk' hch.size : Fr w (.slice (some ⟨wr.heap.size, 0, none⟩) 1 1)).step K1.size hat2
            have K3 := CK.fresh hch3 hmay.2.1
            have hm3 := ((hmay.keep0 Cw2).keep0 K2).push HP.out (ho2.keep0 K2) hfx CK.size ho3 hch3 hat3
            go_roundg (gk - 1)
            case measure => omega
            case rel =>
              exact ⟨2, _, by omega, rfl, by simp; omega, hm3, (hrT.keep0 (Cw2.no_no K2)).keep hch3 (fun h => hrT.apart hmay.1 (by decide) h), K3, by simp⟩
          · have hdx : decide (u < 32768) = false := decide_eq_false hx
            go_wp2_with fail
            go_roundg (gk - 1)
            case measure => omega
            case rel => exact ⟨2, xs, by omega, rfl, by omega, hmay, hrT, hch, hpos⟩
        · subst hi
          have c0 := hrT.cell 2 _ rfl
          by_cases hx : u < 2147483648
          · have hdx : decide (u < 2147483648) = true := decide_eq_true hx
            have hP : PosD u ([210] ++ bg u 4) := .inr (.inr ⟨(210, 4), by simp, by simp only; omega, rfl⟩)
            have HP := hid hP
            clear hP
            go_wp2_with fail
            refine (big_calls u 4 _ (by omega) (by omega) (by omega) (by omega)).mono ?_
            rintro e w1 ⟨v1, rfl, ho1, hf1, hch1⟩
            obtain ⟨A1, c1, rfl, _, _⟩ := ho1.slice
            go_wp2_with (first | ((with_reducible refine gate (.call { callee := .builtin .append, args := #[.tmp _, .tmp _], argTypes := #[24, 24] }) rfl ?_); refine wp_append rfl _ _ 24 5 (.int .u8 0) 1 rfl Tryd.underlying24 info_u8 rfl (by decide) Go.Proofs.YtooifcdkpddlmaaDoor.u8 (fun _ => rfl) _ [210] (bg u 4) _ _ _ rfl rfl rfl ((Ow.lit 5 Go.Proofs.YtooifcdkpddlmaaDoor.u8 wr [210] (by simp [maxLen])).keep0 hch1) ho1.rd (by simp [bg_len]) ?_; intro v2 w2 ho2 hch2 hat2; obtain ⟨A2, c2, rfl, _, _⟩ := ho2.slice; have Cw2 : Ch No wr w2 := (((Ch.refl No wr).alloc _).no_no hch1).fresh hch2 (Fr.mk' (Nat.le_refl _))) | ((with_reducible refine gate (.call { callee := .builtin .append, args := #[.tmp _, .tmp _], argTypes := #[114, 114] }) rfl ?_); refine wp_append rfl _ _ 114 24 (.slice none 0 0) 24 rfl Tryd.underlying114 info_sl rfl (by decide) sl (fun _ => rfl) _ xs [(A2, ([210] ++ bg u 4).length, c2)] _ _ _ rfl rfl rfl ((hmay.keep0 Cw2).1.keep0 ((Ch.refl No w2).alloc _)) (Ow.sl1 w2 (A2, ([210] ++ bg u 4).length, c2)) (by first | omega | (simp only [List.length_cons, List.length_nil]; omega)) ?_; intro v3 w3 ho3 hch3 hat3))
            have K2 : Ch No w2 (w2.alloc (.cells #[sl (A2, ([210] ++ bg u 4).length, c2)] 24)) := (Ch.refl No w2).alloc _
            have K1 : Ch No w w1 := (hch.alloc _).no_no hch1
            have CK := (hch.no_no Cw2).no_no K2
            have hfx : Fr w (sl (A2, ([210] ++ bg u 4).length, c2)) := (Fr.mk' hch.size : Fr w (.slice (some ⟨wr.heap.size, 0, none⟩) 1 1)).step K1.size hat2
            have K3 := CK.fresh hch3 hmay.2.1
            have hm3 := ((hmay.keep0 Cw2).keep0 K2).push HP.out (ho2.keep0 K2) hfx CK.size ho3 hch3 hat3
            go_roundg (gk - 1)
            case measure => omega
            case rel =>
              exact ⟨3, _, by omega, rfl, by simp; omega, hm3, (hrT.keep0 (Cw2.no_no K2)).keep hch3 (fun h => hrT.apart hmay.1 (by decide) h), K3, by simp⟩
          · have hdx : decide (u < 2147483648) = false := decide_eq_false hx
            go_wp2_with fail
            go_roundg (gk - 1)
            case measure => omega
            case rel => exact ⟨3, xs, by omega, rfl, by omega, hmay, hrT, hch, hpos⟩
        · subst hi
          have c0 := hrT.cell 3 _ rfl
          by_cases hx : u < 9223372036854775808
          · have hdx : decide (u < 9223372036854775808) = true := decide_eq_true hx
            have hP : PosD u ([211] ++ bg u 8) := .inr (.inr ⟨(211, 8), by simp, by simp only; omega, rfl⟩)
            have HP := hid hP
            clear hP
            go_wp2_with fail
            refine (big_calls u 8 _ (by omega) (by omega) (by omega) (by omega)).mono ?_
            rintro e w1 ⟨v1, rfl, ho1, hf1, hch1⟩
            obtain ⟨A1, c1, rfl, _, _⟩ := ho1.slice
            go_wp2_with (first | ((with_reducible refine gate (.call { callee := .builtin .append, args := #[.tmp _, .tmp _], argTypes := #[24, 24] }) rfl ?_); refine wp_append rfl _ _ 24 5 (.int .u8 0) 1 rfl Tryd.underlying24 info_u8 rfl (by decide) Go.Proofs.YtooifcdkpddlmaaDoor.u8 (fun _ => rfl) _ [211] (bg u 8) _ _ _ rfl rfl rfl ((Ow.lit 5 Go.Proofs.YtooifcdkpddlmaaDoor.u8 wr [211] (by simp [maxLen])).keep0 hch1) ho1.rd (by simp [bg_len]) ?_; intro v2 w2 ho2 hch2 hat2; obtain ⟨A2, c2, rfl, _, _⟩ := ho2.slice; have Cw2 : Ch No wr w2 := (((Ch.refl No wr).alloc _).no_no hch1).fresh hch2 (Fr.mk' (Nat.le_refl _))) | ((with_reducible refine gate (.call { callee := .builtin .append, args := #[.tmp _, .tmp _], argTypes := #[114, 114] }) rfl ?_); refine wp_append rfl _ _ 114 24 (.slice none 0 0) 24 rfl Tryd.underlying114 info_sl rfl (by decide) sl (fun _ => rfl) _ xs [(A2, ([211] ++ bg u 8).length, c2)] _ _ _ rfl rfl rfl ((hmay.keep0 Cw2).1.keep0 ((Ch.refl No w2).alloc _)) (Ow.sl1 w2 (A2, ([211] ++ bg u 8).length, c2)) (by first | omega | (simp only [List.length_cons, List.length_nil]; omega)) ?_; intro v3 w3 ho3 hch3 hat3))
            have K2 : Ch No w2 (w2.alloc (.cells #[sl (A2, ([211] ++ bg u 8).length, c2)] 24)) := (Ch.refl No w2).alloc _
            have K1 : Ch No w w1 := (hch.alloc _).no_no hch1
            have CK := (hch.no_no Cw2).no_no K2
            have hfx : Fr w (sl (A2, ([211] ++ bg u 8).length, c2)) := (Fr.mk' hch.size : Fr w (.slice (some ⟨wr.heap.size, 0, none⟩) 1 1)).step K1.size hat2
            have K3 := CK.fresh hch3 hmay.2.1
            have hm3 := ((hmay.keep0 Cw2).keep0 K2).push HP.out (ho2.keep0 K2) hfx CK.size ho3 hch3 hat3
            go_roundg (gk - 1)
            case measure => omega
            case rel =>
              exact ⟨4, _, by omega, rfl, by simp; omega, hm3, (hrT.keep0 (Cw2.no_no K2)).keep hch3 (fun h => hrT.apart hmay.1 (by decide) h), K3, by simp⟩
          · exact absurd hsg hx
        · subst hi
          go_wp2_with fail
          refine (pick_calls pf xs.length wr (hF.keep0 hch) (by omega)).mono ?_
          rintro e w2 ⟨j, hk, rfl, hF2, hch2⟩
          have hj : j < xs.length := by omega
          obtain ⟨b, o, d, rfl, hc, hPd, hod, hfd⟩ := hmay.get j hj
          have hb := hmay.2.1 b (show Blk (.slice (some ⟨b, o, none⟩) xs.length c8) b from rfl)
          have hfl := hF.lt
          have hc2 := hch2.cell hc (fun h => by have h9 : b = pf := h; omega)
          have hj' : (j : Int) < xs.length := by omega
          have hj0 : (0 : Int) ≤ j := by omega
          have C2 : Ch (fun b => b = pf) w w2 := (Ch.of_no hch).trans hch2 (fun _ h => h) (fun _ h => .inl h)
          have hfin : Hid (ItTo (PosD u) pf w (.returned (sl xs[j])) w2) := ⟨_, d, rfl, hPd, hod.keep hch2 (fun b hb h => by have := hfd b hb; have h9 : b = pf := h; omega), hfd, hF2, C2⟩
          generalize xs[j] = x at hc2 hfin
          go_wp2_with fail
          go_ret
          exact hfin.out
set_option maxRecDepth 100000 in
set_option maxHeartbeats 4000000 in
theorem putInt_pos_true_true (pf : Nat) (u : Int) (w : World) (hF : Fm w pf) (h0 : 0 ≤ u) (h1 : u < 18446744073709551616) (hsg : u < 9223372036854775808) (hb : u < 128 ↔ true = true) :
    Calls Tryd.prog 41 #[.pointer (some ⟨pf, 0, none⟩), .int .u64 u, .bool true] w (ItTo (PosD u) pf w) := by
  obtain ⟨n, hn⟩ : ∃ n, IntKind.i64.wrap u = n := ⟨_, rfl⟩
  have hdb : decide (u < 128) = true := by simpa using hb
  have HB := hid hb
  clear hb
  have hd0 : decide (n < 0) = false := decide_eq_false (by have h2 : IntKind.i64.wrap u = u := by (simp [IntKind.wrap, IntKind.bits, IntKind.signed]; omega)
                                                           omega)
  obtain ⟨fs, hfs⟩ : ∃ fs, fs = [((204 : Int), (1 : Nat)), (205, 2), (206, 4), (207, 8)].filter (okf u) := ⟨_, rfl⟩
  have hfl : fs.length ≤ 4 := by rw [hfs]; exact List.length_filter_le _ _
  have hmem : ∀ f ∈ fs, f ∈ [((204 : Int), (1 : Nat)), (205, 2), (206, 4), (207, 8)] ∧ okf u f = true := fun f hf => by rw [hfs] at hf; exact List.mem_filter.1 hf
  have h207 : 0 < fs.length := List.length_pos_of_mem (a := (207, 8)) (by rw [hfs]; exact List.mem_filter.2 ⟨by simp, okf_8 u 207⟩)
  have hsz : ∀ (A : Option Addr) (w1 : World), RdK fmc w1 A [((204 : Int), (1 : Nat)), (205, 2), (206, 4), (207, 8)] → Calls Tryd.prog 33 #[.int .u64 u, .slice A 4 4] w1 fun e w' => ∃ v, e = .returned v ∧ OwK 62 2 w' v fs.length (fs.flatMap fmc) ∧ Fr w1 v ∧ Ch No w1 w' := fun A w1 hr => by
    rw [hfs]
    exact sizes_calls u A 4 [((204 : Int), (1 : Nat)), (205, 2), (206, 4), (207, 8)] w1 hr (by simp) (by simp) h0 h1
  clear hfs
  have HMEM := hid hmem
  have HSZ := hid hsz
  clear hmem hsz
  go_enter Tryd.func41, Tryd.ntmps41
  have hz : u < 128 := by have h := HB.out; simpa using h
  go_wp2_with ((with_reducible refine gate (.call { callee := .builtin .append, args := #[.tmp _, .tmp _], argTypes := #[114, 114] }) rfl ?_); refine wp_append rfl _ _ 114 24 (.slice none 0 0) 24 rfl Tryd.underlying114 info_sl rfl (by decide) sl (fun _ => rfl) _ [] [(some ⟨w.heap.size, 0, none⟩, 1, 1)] _ _ _ rfl rfl rfl (Ow.nil _ _ _) (Ow.sl2 w (.cells #[.int .u8 u] 5) (some ⟨w.heap.size, 0, none⟩, 1, 1)) (by decide) ?_; intro v4 w4 ho4 hch4 hat4; obtain ⟨A4, c4, rfl, _, _⟩ := ho4.slice)
  have hP : PosD u [u] := .inl ⟨hz, rfl⟩
  clear hz
  have K1 : Ch No w (w.alloc (.cells #[.int .u8 u] 5)) := (Ch.refl No w).alloc _
  have K2 := K1.alloc (.cells #[sl (some ⟨w.heap.size, 0, none⟩, 1, 1)] 24)
  have hox : Ow 5 Go.Proofs.YtooifcdkpddlmaaDoor.u8 (w.alloc (.cells #[.int .u8 u] 5)) (sl (some ⟨w.heap.size, 0, none⟩, 1, 1)) [u] := Ow.lit 5 Go.Proofs.YtooifcdkpddlmaaDoor.u8 w [u] (by simp [maxLen])
  have hm4 : May (PosD u) w w4 (.slice A4 1 c4) [(some ⟨w.heap.size, 0, none⟩, 1, 1)] := (May.nil (PosD u) w _).push hP (hox.keep0 ((Ch.refl No _).alloc _)) (Fr.mk' (Nat.le_refl _)) K2.size ho4 hch4 hat4
  have C4 : Ch No w w4 := K2.fresh hch4 (Fr.nil w 0 0)
  refine (HSZ.out _ _ (RdK.lit w4 62 [((204 : Int), (1 : Nat)), (205, 2), (206, 4), (207, 8)])).mono ?_
  rintro e w5 ⟨v5, rfl, ho5, hf5, hch5⟩
  obtain ⟨A5, c5, rfl⟩ := ho5.slice
  have K5 : Ch No w4 w5 := ((Ch.refl No w4).alloc _).no_no hch5
  have hm5 := hm4.keep0 K5
  have C5 := C4.no_no K5
  go_wp2_with fail
  go_loopg [11, 79] fs.length (fun kk s11 s79 wq => ∃ (i : Nat) (ys : List (Option Addr × Nat × Nat)), kk + i = fs.length ∧ s79 = .int .i64 i ∧ ys.length = i + 1 ∧ May (PosD u) w wq s11 ys ∧ Ch No w wq ∧ OwK 62 2 wq (.slice A5 fs.length c5) fs.length (fs.flatMap fmc))
  case atStart => exact ⟨0, _, by omega, rfl, by simp, hm5, C5, ho5⟩
  case round =>
    obtain ⟨i, ys, hki, rfl, hn, hmay, hch, hch9⟩ := hrel
    obtain ⟨A7, c7, rfl, _, _⟩ := hmay.1.slice
    by_cases hi : i < fs.length
    · obtain ⟨b1, rfl, a0, a1⟩ := hch9.rd.form i hi
      have hx9 := HMEM.out fs[i] (List.getElem_mem hi)
      have hi' : (i : Int) < fs.length := by omega
      have hi0 : (0 : Int) ≤ i := by omega
      generalize fs[i] = x at a0 a1 hx9
      have hP : PosD u (x.1 :: bg u x.2) := .inr (.inl ⟨x, hx9.1, hx9.2, rfl⟩)
      have hx8 : 0 ≤ x.1 ∧ x.1 < 256 ∧ 0 < x.2 ∧ x.2 ≤ 8 := by
        have h := hx9.1
        simp only [List.mem_cons, List.not_mem_nil, or_false] at h
        rcases h with rfl | rfl | rfl | rfl <;> simp
      clear hx9
      have HP := hid hP
      have HX := hid hx8
      have HN := hid hn
      have hyl : ys.length ≤ 5 := by omega
      clear hn
      clear hP hx8
      go_wp2_with fail
      refine (headed_calls x.1 u x.2 _ HX.out.2.2.1 HX.out.2.2.2 h0 h1 HX.out.1 HX.out.2.1).mono ?_
      rintro e w2 ⟨v2, rfl, ho2, hf2, hch2⟩
      obtain ⟨A2, c2, rfl, _, _⟩ := ho2.slice
      have Cw2 : Ch No wr w2 := ((Ch.refl No wr).alloc _).no_no hch2
      go_wp2_with ((with_reducible refine gate (.call { callee := .builtin .append, args := #[.tmp _, .tmp _], argTypes := #[114, 114] }) rfl ?_); refine wp_append rfl _ _ 114 24 (.slice none 0 0) 24 rfl Tryd.underlying114 info_sl rfl (by decide) sl (fun _ => rfl) _ ys [(A2, (x.1 :: bg u x.2).length, c2)] _ _ _ rfl rfl rfl ((hmay.keep0 Cw2).1.keep0 ((Ch.refl No w2).alloc _)) (Ow.sl1 w2 (A2, (x.1 :: bg u x.2).length, c2)) (by first | omega | (simp only [List.length_cons, List.length_nil]; omega)) ?_; intro v3 w3 ho3 hch3 hat3)
      have K2 : Ch No w2 (w2.alloc (.cells #[sl (A2, (x.1 :: bg u x.2).length, c2)] 24)) := (Ch.refl No w2).alloc _
      have CK := (hch.no_no Cw2).no_no K2
      have hfx : Fr w (sl (A2, (x.1 :: bg u x.2).length, c2)) := hf2.weak (hch.alloc _).size
      have K3 := CK.fresh hch3 hmay.2.1
      have K9 := ((hch9.keep0 Cw2).keep0 K2).keep hch3 (OwK.apart hch9 hmay.1 (by decide))
      have hm3 := ((hmay.keep0 Cw2).keep0 K2).push HP.out (ho2.keep0 K2) hfx CK.size ho3 hch3 hat3
      go_roundg (gk - 1)
      case measure => omega
      case rel => exact ⟨i + 1, _, by omega, by go_num, by rw [List.length_append, List.length_singleton, HN.out] <;> omega, hm3, K3, K9⟩
    · obtain rfl : i = fs.length := by omega
      have hpos : 0 < ys.length := by omega
      have hyl : ys.length ≤ 5 := by omega
      clear hn
      clear hm4 hm5 C4 C5 K5
      obtain ⟨wq, rfl⟩ : ∃ x, x = wr := ⟨_, rfl⟩
      go_wp2_with fail
      have hT := Row.alloc wq [.int .i64 1, .int .i64 2, .int .i64 4, .int .i64 8] 3
      go_loopg [11, 92] 4 (fun kk s11 s92 wr => ∃ (i : Nat) (xs : List (Option Addr × Nat × Nat)), kk + i = 4 ∧ s92 = .int .i64 i ∧ xs.length ≤ i + 5 ∧ May (PosD u) w wr s11 xs ∧ Row wr wq.heap.size 3 [.int .i64 1, .int .i64 2, .int .i64 4, .int .i64 8] ∧ Ch No w wr ∧ 0 < xs.length)
      case atStart => exact ⟨0, ys, by omega, rfl, by omega, hmay.keep0 ((Ch.refl No wq).alloc _), hT, hch.alloc _, hpos⟩
      case round =>
        clear hmay hch hpos
        obtain ⟨i, xs, hki, rfl, hn, hmay, hrT, hch, hpos⟩ := hrel
        obtain ⟨A8, c8, rfl, _, _⟩ := hmay.1.slice
        obtain hi | hi | hi | hi | hi : i = 0 ∨ i = 1 ∨ i = 2 ∨ i = 3 ∨ i = 4 := by omega
        · subst hi
          have c0 := hrT.cell 0 _ rfl
          by_cases hx : u < 128
          · have hdx : decide (u < 128) = true := decide_eq_true hx
            have hP : PosD u ([208] ++ bg u 1) := .inr (.inr ⟨(208, 1), by simp, by simp only; omega, rfl⟩)
            have HP := hid hP
            clear hP
            go_wp2_with fail
            refine (big_calls u 1 _ (by omega) (by omega) (by omega) (by omega)).mono ?_
            rintro e w1 ⟨v1, rfl, ho1, hf1, hch1⟩
            obtain ⟨A1, c1, rfl, _, _⟩ := ho1.slice
            go_wp2_with (first | ((with_reducible refine gate (.call { callee := .builtin .append, args := #[.tmp _, .tmp _], argTypes := #[24, 24] }) rfl ?_); refine wp_append rfl _ _ 24 5 (.int .u8 0) 1 rfl Tryd.underlying24 info_u8 rfl (by decide) Go.Proofs.YtooifcdkpddlmaaDoor.u8 (fun _ => rfl) _ [208] (bg u 1) _ _ _ rfl rfl rfl ((Ow.lit 5 Go.Proofs.YtooifcdkpddlmaaDoor.u8 wr [208] (by simp [maxLen])).keep0 hch1) ho1.rd (by simp [bg_len]) ?_; intro v2 w2 ho2 hch2 hat2; obtain ⟨A2, c2, rfl, _, _⟩ := ho2.slice; have Cw2 : Ch No wr w2 := (((Ch.refl No wr).alloc _).no_no hch1).fresh hch2 (Fr.mk' (Nat.le_refl _))) | ((with_reducible refine gate (.call { callee := .builtin .append, args := #[.tmp _, .tmp _], argTypes := #[114, 114] }) rfl ?_); refine wp_append rfl _ _ 114 24 (.slice none 0 0) 24 rfl Tryd.underlying114 info_sl rfl (by decide) sl (fun _ => rfl) _ xs [(A2, ([208] ++ bg u 1).length, c2)] _ _ _ rfl rfl rfl ((hmay.keep0 Cw2).1.keep0 ((Ch.refl No w2).alloc _)) (Ow.sl1 w2 (A2, ([208] ++ bg u 1).length, c2)) (by first | omega | (simp only [List.length_cons, List.length_nil]; omega)) ?_; intro v3 w3 ho3 hch3 hat3))
            have K2 : Ch No w2 (w2.alloc (.cells #[sl (A2, ([208] ++ bg u 1).length, c2)] 24)) := (Ch.refl No w2).alloc _
            have K1 : Ch No w w1 := (hch.alloc _).no_no hch1
            have CK := (hch.no_no Cw2).no_no K2
            have hfx : Fr w (sl (A2, ([208] ++ bg u 1).length, c2)) := (Fr.mk' hch.size : Fr w (.slice (some ⟨wr.heap.size, 0, none⟩) 1 1)).step K1.size hat2
            have K3 := CK.fresh hch3 hmay.2.1
            have hm3 := ((hmay.keep0 Cw2).keep0 K2).push HP.out (ho2.keep0 K2) hfx CK.size ho3 hch3 hat3
            go_roundg (gk - 1)
            case measure => omega
            case rel =>
              exact ⟨1, _, by omega, rfl, by simp; omega, hm3, (hrT.keep0 (Cw2.no_no K2)).keep hch3 (fun h => hrT.apart hmay.1 (by decide) h), K3, by simp⟩
          · have hdx : decide (u < 128) = false := decide_eq_false hx
            go_wp2_with fail
            go_roundg (gk - 1)
            case measure => omega
            case rel => exact ⟨1, xs, by omega, rfl, by omega, hmay, hrT, hch, hpos⟩
        · subst hi
          have c0 := hrT.cell 1 _ rfl
          by_cases hx : u < 32768
          · have hdx : decide (u < 32768) = true := decide_eq_true hx
            have hP : PosD u ([209] ++ bg u 2) := .inr (.inr ⟨(209, 2), by simp, by simp only; omega, rfl⟩)
            have HP := hid hP
            clear hP
            go_wp2_with fail
            refine (big_calls u 2 _ (by omega) (by omega) (by omega) (by omega)).mono ?_
            rintro e w1 ⟨v1, rfl, ho1, hf1, hch1⟩
            obtain ⟨A1, c1, rfl, _, _⟩ := ho1.slice
            go_wp2_with (first | ((with_reducible refine gate (.call { callee := .builtin .append, args := #[.tmp _, .tmp _], argTypes := #[24, 24] }) rfl ?_); refine wp_append rfl _ _ 24 5 (.int .u8 0) 1 rfl Tryd.underlying24 info_u8 rfl (by decide) Go.Proofs.YtooifcdkpddlmaaDoor.u8 (fun _ => rfl) _ [209] (bg u 2) _ _ _ rfl rfl rfl ((Ow.lit 5 Go.Proofs.YtooifcdkpddlmaaDoor.u8 wr [209] (by simp [maxLen])).keep0 hch1) ho1.rd (by simp [bg_len]) ?_; intro v2 w2 ho2 hch2 hat2; obtain ⟨A2, c2, rfl, _, _⟩ := ho2.slice; have Cw2 : Ch No wr w2 := (((Ch.refl No wr).alloc _).no_no hch1).fresh hch2 (Fr.mk' (Nat.le_refl _))) | ((with_reducible refine gate (.call { callee := .builtin .append, args := #[.tmp _, .tmp _], argTypes := #[114, 114] }) rfl ?_); refine wp_append rfl _ _ 114 24 (.slice none 0 0) 24 rfl Tryd.underlying114 info_sl rfl (by decide) sl (fun _ => rfl) _ xs [(A2, ([209] ++ bg u 2).length, c2)] _ _ _ rfl rfl rfl ((hmay.keep0 Cw2).1.keep0 ((Ch.refl No w2).alloc _)) (Ow.sl1 w2 (A2, ([209] ++ bg u 2).length, c2)) (by first | omega | (simp only [List.length_cons, List.length_nil]; omega)) ?_; intro v3 w3 ho3 hch3 hat3))
            have K2 : Ch No w2 (w2.alloc (.cells #[sl (A2, ([209] ++ bg u 2).length, c2)] 24)) := (Ch.refl No w2).alloc _
            have K1 : Ch No w w1 := (hch.alloc _).no_no hch1
            have CK := (hch.no_no Cw2).no_no K2
            have hfx : Fr w (sl (A2, ([209] ++ bg u 2).length, c2)) := (Fr.mk' hch.size : Fr w (.slice (some ⟨wr.heap.size, 0, none⟩) 1 1)).step K1.size hat2
            have K3 := CK.fresh hch3 hmay.2.1
            have hm3 := ((hmay.keep0 Cw2).keep0 K2).push HP.out (ho2.keep0 K2) hfx CK.size ho3 hch3 hat3
            go_roundg (gk - 1)
            case measure => omega
            case rel =>
              exact ⟨2, _, by omega, rfl, by simp; omega, hm3, (hrT.keep0 (Cw2.no_no K2)).keep hch3 (fun h => hrT.apart hmay.1 (by decide) h), K3, by simp⟩
          · have hdx : decide (u < 32768) = false := decide_eq_false hx
            go_wp2_with fail
            go_roundg (gk - 1)
            case measure => omega
            case rel => exact ⟨2, xs, by omega, rfl, by omega, hmay, hrT, hch, hpos⟩
        · subst hi
          have c0 := hrT.cell 2 _ rfl
          by_cases hx : u < 2147483648
          · have hdx : decide (u < 2147483648) = true := decide_eq_true hx
            have hP : PosD u ([210] ++ bg u 4) := .inr (.inr ⟨(210, 4), by simp, by simp only; omega, rfl⟩)
            have HP := hid hP
            clear hP
            go_wp2_with fail
            refine (big_calls u 4 _ (by omega) (by omega) (by omega) (by omega)).mono ?_
            rintro e w1 ⟨v1, rfl, ho1, hf1, hch1⟩
            obtain ⟨A1, c1, rfl, _, _⟩ := ho1.slice
            go_wp2_with (first | ((with_reducible refine gate (.call { callee := .builtin .append, args := #[.tmp _, .tmp _], argTypes := #[24, 24] }) rfl ?_); refine wp_append rfl _ _ 24 5 (.int .u8 0) 1 rfl Tryd.underlying24 info_u8 rfl (by decide) Go.Proofs.YtooifcdkpddlmaaDoor.u8 (fun _ => rfl) _ [210] (bg u 4) _ _ _ rfl rfl rfl ((Ow.lit 5 Go.Proofs.YtooifcdkpddlmaaDoor.u8 wr [210] (by simp [maxLen])).keep0 hch1) ho1.rd (by simp [bg_len]) ?_; intro v2 w2 ho2 hch2 hat2; obtain ⟨A2, c2, rfl, _, _⟩ := ho2.slice; have Cw2 : Ch No wr w2 := (((Ch.refl No wr).alloc _).no_no hch1).fresh hch2 (Fr.mk' (Nat.le_refl _))) | ((with_reducible refine gate (.call { callee := .builtin .append, args := #[.tmp _, .tmp _], argTypes := #[114, 114] }) rfl ?_); refine wp_append rfl _ _ 114 24 (.slice none 0 0) 24 rfl Tryd.underlying114 info_sl rfl (by decide) sl (fun _ => rfl) _ xs [(A2, ([210] ++ bg u 4).length, c2)] _ _ _ rfl rfl rfl ((hmay.keep0 Cw2).1.keep0 ((Ch.refl No w2).alloc _)) (Ow.sl1 w2 (A2, ([210] ++ bg u 4).length, c2)) (by first | omega | (simp only [List.length_cons, List.length_nil]; omega)) ?_; intro v3 w3 ho3 hch3 hat3))
            have K2 : Ch No w2 (w2.alloc (.cells #[sl (A2, ([210] ++ bg u 4).length, c2)] 24)) := (Ch.refl No w2).alloc _
            have K1 : Ch No w w1 := (hch.alloc _).no_no hch1
            have CK := (hch.no_no Cw2).no_no K2
            have hfx : Fr w (sl (A2, ([210] ++ bg u 4).length, c2)) := (Fr.mk' hch.size : Fr w (.slice (some ⟨wr.heap.size, 0, none⟩) 1 1)).step K1.size hat2
            have K3 := CK.fresh hch3 hmay.2.1
            have hm3 := ((hmay.keep0 Cw2).keep0 K2).push HP.out (ho2.keep0 K2) hfx CK.size ho3 hch3 hat3
            go_roundg (gk - 1)
            case measure => omega
            case rel =>
              exact ⟨3, _, by omega, rfl, by simp; omega, hm3, (hrT.keep0 (Cw2.no_no K2)).keep hch3 (fun h => hrT.apart hmay.1 (by decide) h), K3, by simp⟩
          · have hdx : decide (u < 2147483648) = false := decide_eq_false hx
            go_wp2_with fail
            go_roundg (gk - 1)
            case measure => omega
            case rel => exact ⟨3, xs, by omega, rfl, by omega, hmay, hrT, hch, hpos⟩
        · subst hi
          have c0 := hrT.cell 3 _ rfl
          by_cases hx : u < 9223372036854775808
          · have hdx : decide (u < 9223372036854775808) = true := decide_eq_true hx
            have hP : PosD u ([211] ++ bg u 8) := .inr (.inr ⟨(211, 8), by simp, by simp only; omega, rfl⟩)
            have HP := hid hP
            clear hP
            go_wp2_with fail
            refine (big_calls u 8 _ (by omega) (by omega) (by omega) (by omega)).mono ?_
            rintro e w1 ⟨v1, rfl, ho1, hf1, hch1⟩
            obtain ⟨A1, c1, rfl, _, _⟩ := ho1.slice
            go_wp2_with (first | ((with_reducible refine gate (.call { callee := .builtin .append, args := #[.tmp _, .tmp _], argTypes := #[24, 24] }) rfl ?_); refine wp_append rfl _ _ 24 5 (.int .u8 0) 1 rfl Tryd.underlying24 info_u8 rfl (by decide) Go.Proofs.YtooifcdkpddlmaaDoor.u8 (fun _ => rfl) _ [211] (bg u 8) _ _ _ rfl rfl rfl ((Ow.lit 5 Go.Proofs.YtooifcdkpddlmaaDoor.u8 wr [211] (by simp [maxLen])).keep0 hch1) ho1.rd (by simp [bg_len]) ?_; intro v2 w2 ho2 hch2 hat2; obtain ⟨A2, c2, rfl, _, _⟩ := ho2.slice; have Cw2 : Ch No wr w2 := (((Ch.refl No wr).alloc _).no_no hch1).fresh hch2 (Fr.mk' (Nat.le_refl _))) | ((with_reducible refine gate (.call { callee := .builtin .append, args := #[.tmp _, .tmp _], argTypes := #[114, 114] }) rfl ?_); refine wp_append rfl _ _ 114 24 (.slice none 0 0) 24 rfl Tryd.underlying114 info_sl rfl (by decide) sl (fun _ => rfl) _ xs [(A2, ([211] ++ bg u 8).length, c2)] _ _ _ rfl rfl rfl ((hmay.keep0 Cw2).1.keep0 ((Ch.refl No w2).alloc _)) (Ow.sl1 w2 (A2, ([211] ++ bg u 8).length, c2)) (by first | omega | (simp only [List.length_cons, List.length_nil]; omega)) ?_; intro v3 w3 ho3 hch3 hat3))
            have K2 : Ch No w2 (w2.alloc (.cells #[sl (A2, ([211] ++ bg u 8).length, c2)] 24)) := (Ch.refl No w2).alloc _
            have K1 : Ch No w w1 := (hch.alloc _).no_no hch1
            have CK := (hch.no_no Cw2).no_no K2
            have hfx : Fr w (sl (A2, ([211] ++ bg u 8).length, c2)) := (Fr.mk' hch.size : Fr w (.slice (some ⟨wr.heap.size, 0, none⟩) 1 1)).step K1.size hat2
            have K3 := CK.fresh hch3 hmay.2.1
            have hm3 := ((hmay.keep0 Cw2).keep0 K2).push HP.out (ho2.keep0 K2) hfx CK.size ho3 hch3 hat3
            go_roundg (gk - 1)
            case measure => omega
            case rel =>
              exact ⟨4, _, by omega, rfl, by simp; omega, hm3, (hrT.keep0 (Cw2.no_no K2)).keep hch3 (fun h => hrT.apart hmay.1 (by decide) h), K3, by simp⟩
          · exact absurd hsg hx
        · subst hi
          go_wp2_with fail
          refine (pick_calls pf xs.length wr (hF.keep0 hch) (by omega)).mono ?_
          rintro e w2 ⟨j, hk, rfl, hF2, hch2⟩
          have hj : j < xs.length := by omega
          obtain ⟨b, o, d, rfl, hc, hPd, hod, hfd⟩ := hmay.get j hj
          have hb := hmay.2.1 b (show Blk (.slice (some ⟨b, o, none⟩) xs.length c8) b from rfl)
          have hfl := hF.lt
          have hc2 := hch2.cell hc (fun h => by have h9 : b = pf := h; omega)
          have hj' : (j : Int) < xs.length := by omega
          have hj0 : (0 : Int) ≤ j := by omega
          have C2 : Ch (fun b => b = pf) w w2 := (Ch.of_no hch).trans hch2 (fun _ h => h) (fun _ h => .inl h)
          have hfin : Hid (ItTo (PosD u) pf w (.returned (sl xs[j])) w2) := ⟨_, d, rfl, hPd, hod.keep hch2 (fun b hb h => by have := hfd b hb; have h9 : b = pf := h; omega), hfd, hF2, C2⟩
          generalize xs[j] = x at hc2 hfin
          go_wp2_with fail
          go_ret
          exact hfin.out
theorem putInt_pos (pf : Nat) (u : Int) (sg : Bool) (w : World) (hF : Fm w pf) (h0 : 0 ≤ u) (h1 : u < 18446744073709551616) (hsg : sg = true → u < 9223372036854775808) :
    Calls Tryd.prog 41 #[.pointer (some ⟨pf, 0, none⟩), .int .u64 u, .bool sg] w (ItTo (PosD u) pf w) := by
  by_cases hb : u < 128
  · cases sg
    · exact putInt_pos_false_true pf u w hF h0 h1 (by simp [hb])
    · exact putInt_pos_true_true pf u w hF h0 h1 (hsg rfl) (by simp [hb])
  · cases sg
    · exact putInt_pos_false_false pf u w hF h0 h1 (by simp [hb])
    · exact putInt_pos_true_false pf u w hF h0 h1 (hsg rfl) (by simp [hb])

end Go.Proofs.YtooifcdkpddlmaaDoor
