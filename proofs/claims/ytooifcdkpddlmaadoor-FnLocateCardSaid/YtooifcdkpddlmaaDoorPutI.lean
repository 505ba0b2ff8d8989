/- The walk of the reference's writer of integers below 0. No condition. -/
import Derived.Test.YtooifcdkpddlmaaDoorMay
import Derived.Deep.LoopGhost
namespace Go.Proofs.YtooifcdkpddlmaaDoor
set_option linter.unusedVariables false
set_option linter.unusedSimpArgs false
open Go.RowKit

/-- The forms of an integer below 0, by its 64 bits. -/
def NegD (u : Int) (d : List Int) : Prop :=
  (18446744073709551584 ≤ u ∧ d = [u % 256]) ∨ ∃ f ∈ [((208 : Int), (1 : Nat)), (209, 2), (210, 4), (211, 8)], 18446744073709551616 - 2 ^ (8 * f.2 - 1) ≤ u ∧ d = f.1 :: bg u f.2
def ItTo (P : List Int → Prop) (pf : Nat) (w : World) (e : Ending) (w' : World) : Prop := ∃ v d, e = .returned v ∧ P d ∧ Ow 5 u8 w' v d ∧ Fr w v ∧ Fm w' pf ∧ Ch (fun b => b = pf) w w'
/-- A row of one type and a slice of another never share a block. -/
theorem Row.apart {w : World} {g : Nat} {e e' : TypeId} {cur : List Value} {α : Type} {f : α → Value} {v : Value} {l : List α} (h : Row w g e cur) (hv : Ow e' f w v l) (hn : e ≠ e') : ¬ Blk v g := fun hb => by
  rcases hv.form with ⟨rfl, _⟩ | ⟨g', c, cur', rfl, _, _, _, hg, _⟩
  · exact Blk_nil hb
  · have e1 := Blk_slice.1 hb
    subst e1
    have hg := (show w.heap[_]? = _ from h).symm.trans hg
    injection hg with hg
    injection hg with _ h1 _
    exact hn h1
theorem Ow.sl1 (w : World) (x : Option Addr × Nat × Nat) : Rd sl (w.alloc (.cells #[sl x] 24)) (some ⟨w.heap.size, 0, none⟩) [x] := (Ow.lit 24 sl w [x] (by simp [maxLen])).rd
theorem Ow.sl2 (w : World) (o : Obj) (x : Option Addr × Nat × Nat) : Rd sl ((w.alloc o).alloc (.cells #[sl x] 24)) (some ⟨w.heap.size + 1, 0, none⟩) [x] := by
  have h := Ow.sl1 (w.alloc o) x
  rwa [World.size_alloc] at h
set_option maxRecDepth 100000 in
set_option maxHeartbeats 4000000 in
theorem putInt_neg (pf : Nat) (u : Int) (w : World) (hF : Fm w pf) (h0 : 9223372036854775808 ≤ u) (h1 : u < 18446744073709551616) :
    Calls Tryd.prog 41 #[.pointer (some ⟨pf, 0, none⟩), .int .u64 u, .bool true] w (ItTo (NegD u) pf w) := by
  have hw1 : IntKind.i64.wrap u = u - 18446744073709551616 := by simp [IntKind.wrap, IntKind.bits, IntKind.signed]; omega
  have hw8 : IntKind.u8.wrap (u - 18446744073709551616) = u % 256 := by simp [IntKind.wrap, IntKind.bits, IntKind.signed]; omega
  have hd0 : decide (u - 18446744073709551616 < 0) = true := decide_eq_true (by omega)
  have HW8 := hid hw8
  clear hw8
  have hstart : ∃ b : Bool, decide (-32 ≤ u - 18446744073709551616) = b := ⟨_, rfl⟩
  obtain ⟨b, hb⟩ := hstart
  cases b
  all_goals
    have HB := hid hb
    go_enter Tryd.func41, Tryd.ntmps41
  · go_wp2_with fail
    have hT := Row.alloc w [.int .i64 1, .int .i64 2, .int .i64 4, .int .i64 8] 3
    go_loopg [8, 33] 4 (fun kk s8 s33 wr => ∃ (i : Nat) (xs : List (Option Addr × Nat × Nat)), kk + i = 4 ∧ s33 = .int .i64 i ∧ xs.length ≤ i + 1 ∧ May (NegD u) w wr s8 xs ∧ Row wr (w).heap.size 3 [.int .i64 1, .int .i64 2, .int .i64 4, .int .i64 8] ∧ Ch No w wr ∧ (i = 4 → 0 < xs.length))
    case atStart => exact ⟨0, [], by omega, rfl, by simp, May.nil _ _ _, hT, (Ch.refl No w).alloc _, by omega⟩
    case round =>
      obtain ⟨i, xs, hki, rfl, hn, hmay, hrT, hch, hpos⟩ := hrel
      obtain ⟨A8, c8, rfl, _, _⟩ := hmay.1.slice
      obtain hi | hi | hi | hi | hi : i = 0 ∨ i = 1 ∨ i = 2 ∨ i = 3 ∨ i = 4 := by omega
      · subst hi
        have c0 := hrT.cell 0 _ rfl
        by_cases hx : -128 ≤ u - 18446744073709551616
        · have hdx : decide (-128 ≤ u - 18446744073709551616) = true := decide_eq_true hx
          have hP : NegD u ([208] ++ bg u 1) := .inr ⟨(208, 1), by simp, by simp only; omega, rfl⟩
          have HP := hid hP
          clear hP
          go_wp2_with fail
          refine (big_calls u 1 _ (by omega) (by omega) (by omega) (by omega)).mono ?_
          rintro e w1 ⟨v1, rfl, ho1, hf1, hch1⟩
          obtain ⟨A1, c1, rfl, _, _⟩ := ho1.slice
          go_wp2_with (first | ((with_reducible refine gate (.call { callee := .builtin .append, args := #[.tmp _, .tmp _], argTypes := #[24, 24] }) rfl ?_); refine wp_append rfl _ _ 24 5 (.int .u8 0) 1 rfl Tryd.underlying24 info_u8 rfl (by decide) Go.Proofs.YtooifcdkpddlmaaDoor.u8 (fun _ => rfl) _ [208] (bg u 1) _ _ _ rfl rfl rfl ((Ow.lit 5 Go.Proofs.YtooifcdkpddlmaaDoor.u8 wr [208] (by simp [maxLen])).keep0 hch1) ho1.rd (by simp [bg_len]) ?_; intro v2 w2 ho2 hch2 hat2; obtain ⟨A2, c2, rfl, _, _⟩ := ho2.slice; have Cw2 : Ch No wr w2 := (((Ch.refl No wr).alloc _).no_no hch1).fresh hch2 (Fr.mk' (Nat.le_refl _))) | ((with_reducible refine gate (.call { callee := .builtin .append, args := #[.tmp _, .tmp _], argTypes := #[114, 114] }) rfl ?_); refine wp_append rfl _ _ 114 24 (.slice none 0 0) 24 rfl Tryd.underlying114 info_sl rfl (by decide) sl (fun _ => rfl) _ xs [(A2, ([208] ++ bg u 1).length, c2)] _ _ _ rfl rfl rfl ((hmay.keep0 Cw2).1.keep0 ((Ch.refl No w2).alloc _)) (Ow.sl1 w2 (A2, ([208] ++ bg u 1).length, c2)) (by first | omega | (simp only [List.length_cons, List.length_nil]; omega)) ?_; intro v3 w3 ho3 hch3 hat3))
          have K2 : Ch No w2 (w2.alloc (.cells #[sl (A2, ([208] ++ bg u 1).length, c2)] 24)) := (Ch.refl No w2).alloc _
          have K1 : Ch No w w1 := (hch.alloc _).no_no hch1
          have CK := (hch.no_no Cw2).no_no K2
          have hfx : Fr w (sl (A2, ([208] ++ bg u 1).length, c2)) := (Fr.mk' hch.size : Fr w (.slice (some ⟨wr.heap.size, 0, none⟩) 1 1)).step K1.size hat2
          have K3 := CK.fresh hch3 hmay.2.1
          have hm3 := ((hmay.keep0 Cw2).keep0 K2).push HP.out (ho2.keep0 K2) hfx CK.size ho3 hch3 hat3
          go_roundg (gk - 1)
          case measure => omega
          case rel =>
            exact ⟨1, _, by omega, rfl, by simp; omega, hm3, (hrT.keep0 (Cw2.no_no K2)).keep hch3 (fun h => hrT.apart hmay.1 (by decide) h), K3, by simp⟩
        · have hdx : decide (-128 ≤ u - 18446744073709551616) = false := decide_eq_false hx
          go_wp2_with fail
          go_roundg (gk - 1)
          case measure => omega
          case rel => exact ⟨1, xs, by omega, rfl, by omega, hmay, hrT, hch, by omega⟩
      · subst hi
        have c0 := hrT.cell 1 _ rfl
        by_cases hx : -32768 ≤ u - 18446744073709551616
        · have hdx : decide (-32768 ≤ u - 18446744073709551616) = true := decide_eq_true hx
          have hP : NegD u ([209] ++ bg u 2) := .inr ⟨(209, 2), by simp, by simp only; omega, rfl⟩
          have HP := hid hP
          clear hP
          go_wp2_with fail
          refine (big_calls u 2 _ (by omega) (by omega) (by omega) (by omega)).mono ?_
          rintro e w1 ⟨v1, rfl, ho1, hf1, hch1⟩
          obtain ⟨A1, c1, rfl, _, _⟩ := ho1.slice
          go_wp2_with (first | ((with_reducible refine gate (.call { callee := .builtin .append, args := #[.tmp _, .tmp _], argTypes := #[24, 24] }) rfl ?_); refine wp_append rfl _ _ 24 5 (.int .u8 0) 1 rfl Tryd.underlying24 info_u8 rfl (by decide) Go.Proofs.YtooifcdkpddlmaaDoor.u8 (fun _ => rfl) _ [209] (bg u 2) _ _ _ rfl rfl rfl ((Ow.lit 5 Go.Proofs.YtooifcdkpddlmaaDoor.u8 wr [209] (by simp [maxLen])).keep0 hch1) ho1.rd (by simp [bg_len]) ?_; intro v2 w2 ho2 hch2 hat2; obtain ⟨A2, c2, rfl, _, _⟩ := ho2.slice; have Cw2 : Ch No wr w2 := (((Ch.refl No wr).alloc _).no_no hch1).fresh hch2 (Fr.mk' (Nat.le_refl _))) | ((with_reducible refine gate (.call { callee := .builtin .append, args := #[.tmp _, .tmp _], argTypes := #[114, 114] }) rfl ?_); refine wp_append rfl _ _ 114 24 (.slice none 0 0) 24 rfl Tryd.underlying114 info_sl rfl (by decide) sl (fun _ => rfl) _ xs [(A2, ([209] ++ bg u 2).length, c2)] _ _ _ rfl rfl rfl ((hmay.keep0 Cw2).1.keep0 ((Ch.refl No w2).alloc _)) (Ow.sl1 w2 (A2, ([209] ++ bg u 2).length, c2)) (by first | omega | (simp only [List.length_cons, List.length_nil]; omega)) ?_; intro v3 w3 ho3 hch3 hat3))
          have K2 : Ch No w2 (w2.alloc (.cells #[sl (A2, ([209] ++ bg u 2).length, c2)] 24)) := (Ch.refl No w2).alloc _
          have K1 : Ch No w w1 := (hch.alloc _).no_no hch1
          have CK := (hch.no_no Cw2).no_no K2
          have hfx : Fr w (sl (A2, ([209] ++ bg u 2).length, c2)) := (Fr.mk' hch.size : Fr w (.slice (some ⟨wr.heap.size, 0, none⟩) 1 1)).step K1.size hat2
          have K3 := CK.fresh hch3 hmay.2.1
          have hm3 := ((hmay.keep0 Cw2).keep0 K2).push HP.out (ho2.keep0 K2) hfx CK.size ho3 hch3 hat3
          go_roundg (gk - 1)
          case measure => omega
          case rel =>
            exact ⟨2, _, by omega, rfl, by simp; omega, hm3, (hrT.keep0 (Cw2.no_no K2)).keep hch3 (fun h => hrT.apart hmay.1 (by decide) h), K3, by simp⟩
        · have hdx : decide (-32768 ≤ u - 18446744073709551616) = false := decide_eq_false hx
          go_wp2_with fail
          go_roundg (gk - 1)
          case measure => omega
          case rel => exact ⟨2, xs, by omega, rfl, by omega, hmay, hrT, hch, by omega⟩
      · subst hi
        have c0 := hrT.cell 2 _ rfl
        by_cases hx : -2147483648 ≤ u - 18446744073709551616
        · have hdx : decide (-2147483648 ≤ u - 18446744073709551616) = true := decide_eq_true hx
          have hP : NegD u ([210] ++ bg u 4) := .inr ⟨(210, 4), by simp, by simp only; omega, rfl⟩
          have HP := hid hP
          clear hP
          go_wp2_with fail
          refine (big_calls u 4 _ (by omega) (by omega) (by omega) (by omega)).mono ?_
          rintro e w1 ⟨v1, rfl, ho1, hf1, hch1⟩
          obtain ⟨A1, c1, rfl, _, _⟩ := ho1.slice
          go_wp2_with (first | ((with_reducible refine gate (.call { callee := .builtin .append, args := #[.tmp _, .tmp _], argTypes := #[24, 24] }) rfl ?_); refine wp_append rfl _ _ 24 5 (.int .u8 0) 1 rfl Tryd.underlying24 info_u8 rfl (by decide) Go.Proofs.YtooifcdkpddlmaaDoor.u8 (fun _ => rfl) _ [210] (bg u 4) _ _ _ rfl rfl rfl ((Ow.lit 5 Go.Proofs.YtooifcdkpddlmaaDoor.u8 wr [210] (by simp [maxLen])).keep0 hch1) ho1.rd (by simp [bg_len]) ?_; intro v2 w2 ho2 hch2 hat2; obtain ⟨A2, c2, rfl, _, _⟩ := ho2.slice; have Cw2 : Ch No wr w2 := (((Ch.refl No wr).alloc _).no_no hch1).fresh hch2 (Fr.mk' (Nat.le_refl _))) | ((with_reducible refine gate (.call { callee := .builtin .append, args := #[.tmp _, .tmp _], argTypes := #[114, 114] }) rfl ?_); refine wp_append rfl _ _ 114 24 (.slice none 0 0) 24 rfl Tryd.underlying114 info_sl rfl (by decide) sl (fun _ => rfl) _ xs [(A2, ([210] ++ bg u 4).length, c2)] _ _ _ rfl rfl rfl ((hmay.keep0 Cw2).1.keep0 ((Ch.refl No w2).alloc _)) (Ow.sl1 w2 (A2, ([210] ++ bg u 4).length, c2)) (by first | omega | (simp only [List.length_cons, List.length_nil]; omega)) ?_; intro v3 w3 ho3 hch3 hat3))
          have K2 : Ch No w2 (w2.alloc (.cells #[sl (A2, ([210] ++ bg u 4).length, c2)] 24)) := (Ch.refl No w2).alloc _
          have K1 : Ch No w w1 := (hch.alloc _).no_no hch1
          have CK := (hch.no_no Cw2).no_no K2
          have hfx : Fr w (sl (A2, ([210] ++ bg u 4).length, c2)) := (Fr.mk' hch.size : Fr w (.slice (some ⟨wr.heap.size, 0, none⟩) 1 1)).step K1.size hat2
          have K3 := CK.fresh hch3 hmay.2.1
          have hm3 := ((hmay.keep0 Cw2).keep0 K2).push HP.out (ho2.keep0 K2) hfx CK.size ho3 hch3 hat3
          go_roundg (gk - 1)
          case measure => omega
          case rel =>
            exact ⟨3, _, by omega, rfl, by simp; omega, hm3, (hrT.keep0 (Cw2.no_no K2)).keep hch3 (fun h => hrT.apart hmay.1 (by decide) h), K3, by simp⟩
        · have hdx : decide (-2147483648 ≤ u - 18446744073709551616) = false := decide_eq_false hx
          go_wp2_with fail
          go_roundg (gk - 1)
          case measure => omega
          case rel => exact ⟨3, xs, by omega, rfl, by omega, hmay, hrT, hch, by omega⟩
      · subst hi
        have c0 := hrT.cell 3 _ rfl
        by_cases hx : -9223372036854775808 ≤ u - 18446744073709551616
        · have hdx : decide (-9223372036854775808 ≤ u - 18446744073709551616) = true := decide_eq_true hx
          have hP : NegD u ([211] ++ bg u 8) := .inr ⟨(211, 8), by simp, by simp only; omega, rfl⟩
          have HP := hid hP
          clear hP
          go_wp2_with fail
          refine (big_calls u 8 _ (by omega) (by omega) (by omega) (by omega)).mono ?_
          rintro e w1 ⟨v1, rfl, ho1, hf1, hch1⟩
          obtain ⟨A1, c1, rfl, _, _⟩ := ho1.slice
          go_wp2_with (first | ((with_reducible refine gate (.call { callee := .builtin .append, args := #[.tmp _, .tmp _], argTypes := #[24, 24] }) rfl ?_); refine wp_append rfl _ _ 24 5 (.int .u8 0) 1 rfl Tryd.underlying24 info_u8 rfl (by decide) Go.Proofs.YtooifcdkpddlmaaDoor.u8 (fun _ => rfl) _ [211] (bg u 8) _ _ _ rfl rfl rfl ((Ow.lit 5 Go.Proofs.YtooifcdkpddlmaaDoor.u8 wr [211] (by simp [maxLen])).keep0 hch1) ho1.rd (by simp [bg_len]) ?_; intro v2 w2 ho2 hch2 hat2; obtain ⟨A2, c2, rfl, _, _⟩ := ho2.slice; have Cw2 : Ch No wr w2 := (((Ch.refl No wr).alloc _).no_no hch1).fresh hch2 (Fr.mk' (Nat.le_refl _))) | ((with_reducible refine gate (.call { callee := .builtin .append, args := #[.tmp _, .tmp _], argTypes := #[114, 114] }) rfl ?_); refine wp_append rfl _ _ 114 24 (.slice none 0 0) 24 rfl Tryd.underlying114 info_sl rfl (by decide) sl (fun _ => rfl) _ xs [(A2, ([211] ++ bg u 8).length, c2)] _ _ _ rfl rfl rfl ((hmay.keep0 Cw2).1.keep0 ((Ch.refl No w2).alloc _)) (Ow.sl1 w2 (A2, ([211] ++ bg u 8).length, c2)) (by first | omega | (simp only [List.length_cons, List.length_nil]; omega)) ?_; intro v3 w3 ho3 hch3 hat3))
          have K2 : Ch No w2 (w2.alloc (.cells #[sl (A2, ([211] ++ bg u 8).length, c2)] 24)) := (Ch.refl No w2).alloc _
          have K1 : Ch No w w1 := (hch.alloc _).no_no hch1
          have CK := (hch.no_no Cw2).no_no K2
          have hfx : Fr w (sl (A2, ([211] ++ bg u 8).length, c2)) := (Fr.mk' hch.size : Fr w (.slice (some ⟨wr.heap.size, 0, none⟩) 1 1)).step K1.size hat2
          have K3 := CK.fresh hch3 hmay.2.1
          have hm3 := ((hmay.keep0 Cw2).keep0 K2).push HP.out (ho2.keep0 K2) hfx CK.size ho3 hch3 hat3
          go_roundg (gk - 1)
          case measure => omega
          case rel =>
            exact ⟨4, _, by omega, rfl, by simp; omega, hm3, (hrT.keep0 (Cw2.no_no K2)).keep hch3 (fun h => hrT.apart hmay.1 (by decide) h), K3, by simp⟩
        · exact absurd h0 (by omega)
      · subst hi
        have hp := hpos rfl
        go_wp2_with fail
        refine (pick_calls pf xs.length wr (hF.keep0 hch) (by omega)).mono ?_
        rintro e w2 ⟨j, hk, rfl, hF2, hch2⟩
        have hj : j < xs.length := by omega
        obtain ⟨b, o, d, rfl, hc, hPd, hod, hfd⟩ := hmay.get j hj
        have hb := hmay.2.1 b (show Blk (.slice (some ⟨b, o, none⟩) xs.length c8) b from rfl)
        have hfl := hF.lt
        have hc2 := hch2.cell hc (fun h => by have h9 : b = pf := h; omega)
        have hj' : (j : Int) < xs.length := by omega
        have hj0 : (0 : Int) ≤ j := by omega
        have C2 : Ch (fun b => b = pf) w w2 := (Ch.of_no hch).trans hch2 (fun _ h => h) (fun _ h => .inl h)
        have hfin : Hid (ItTo (NegD u) pf w (.returned (sl xs[j])) w2) := ⟨_, d, rfl, hPd, hod.keep hch2 (fun b hb h => by have := hfd b hb; have h9 : b = pf := h; omega), hfd, hF2, C2⟩
        generalize xs[j] = x at hc2 hfin
        go_wp2_with fail
        go_ret
        exact hfin.out
  · go_wp2_with ((with_reducible refine gate (.call { callee := .builtin .append, args := #[.tmp _, .tmp _], argTypes := #[114, 114] }) rfl ?_); refine wp_append rfl _ _ 114 24 (.slice none 0 0) 24 rfl Tryd.underlying114 info_sl rfl (by decide) sl (fun _ => rfl) _ [] [(some ⟨w.heap.size, 0, none⟩, 1, 1)] _ _ _ rfl rfl rfl (Ow.nil _ _ _) (Ow.sl2 w (.cells #[.int .u8 ((u - 18446744073709551616) % 256)] 5) (some ⟨w.heap.size, 0, none⟩, 1, 1)) (by decide) ?_; intro v4 w4 ho4 hch4 hat4; obtain ⟨A4, c4, rfl, _, _⟩ := ho4.slice)
    have hq : (u - 18446744073709551616) % 256 = u % 256 := by omega
    have hz := HB.out
    have hz := of_decide_eq_true hz
    have hP : NegD u [(u - 18446744073709551616) % 256] := .inl ⟨by omega, by rw [hq]⟩
    clear hq hz
    have K1 : Ch No w (w.alloc (.cells #[.int .u8 ((u - 18446744073709551616) % 256)] 5)) := (Ch.refl No w).alloc _
    have K2 := K1.alloc (.cells #[sl (some ⟨w.heap.size, 0, none⟩, 1, 1)] 24)
    have hox : Ow 5 Go.Proofs.YtooifcdkpddlmaaDoor.u8 (w.alloc (.cells #[.int .u8 ((u - 18446744073709551616) % 256)] 5)) (sl (some ⟨w.heap.size, 0, none⟩, 1, 1)) [(u - 18446744073709551616) % 256] := Ow.lit 5 Go.Proofs.YtooifcdkpddlmaaDoor.u8 w [(u - 18446744073709551616) % 256] (by simp [maxLen])
    have hm4 : May (NegD u) w w4 (.slice A4 1 c4) [(some ⟨w.heap.size, 0, none⟩, 1, 1)] := (May.nil (NegD u) w _).push hP (hox.keep0 ((Ch.refl No _).alloc _)) (Fr.mk' (Nat.le_refl _)) K2.size ho4 hch4 hat4
    have C4 : Ch No w w4 := K2.fresh hch4 (Fr.nil w 0 0)
    have hT := Row.alloc w4 [.int .i64 1, .int .i64 2, .int .i64 4, .int .i64 8] 3
    go_loopg [8, 33] 4 (fun kk s8 s33 wr => ∃ (i : Nat) (xs : List (Option Addr × Nat × Nat)), kk + i = 4 ∧ s33 = .int .i64 i ∧ xs.length ≤ i + 1 ∧ May (NegD u) w wr s8 xs ∧ Row wr (w4).heap.size 3 [.int .i64 1, .int .i64 2, .int .i64 4, .int .i64 8] ∧ Ch No w wr ∧ (i = 4 → 0 < xs.length))
    case atStart => exact ⟨0, _, by omega, rfl, by simp, hm4.keep0 ((Ch.refl No w4).alloc _), hT, C4.alloc _, by omega⟩
    case round =>
      obtain ⟨i, xs, hki, rfl, hn, hmay, hrT, hch, hpos⟩ := hrel
      obtain ⟨A8, c8, rfl, _, _⟩ := hmay.1.slice
      obtain hi | hi | hi | hi | hi : i = 0 ∨ i = 1 ∨ i = 2 ∨ i = 3 ∨ i = 4 := by omega
      · subst hi
        have c0 := hrT.cell 0 _ rfl
        by_cases hx : -128 ≤ u - 18446744073709551616
        · have hdx : decide (-128 ≤ u - 18446744073709551616) = true := decide_eq_true hx
          have hP : NegD u ([208] ++ bg u 1) := .inr ⟨(208, 1), by simp, by simp only; omega, rfl⟩
          have HP := hid hP
          clear hP
          go_wp2_with fail
          refine (big_calls u 1 _ (by omega) (by omega) (by omega) (by omega)).mono ?_
          rintro e w1 ⟨v1, rfl, ho1, hf1, hch1⟩
          obtain ⟨A1, c1, rfl, _, _⟩ := ho1.slice
          go_wp2_with (first | ((with_reducible refine gate (.call { callee := .builtin .append, args := #[.tmp _, .tmp _], argTypes := #[24, 24] }) rfl ?_); refine wp_append rfl _ _ 24 5 (.int .u8 0) 1 rfl Tryd.underlying24 info_u8 rfl (by decide) Go.Proofs.YtooifcdkpddlmaaDoor.u8 (fun _ => rfl) _ [208] (bg u 1) _ _ _ rfl rfl rfl ((Ow.lit 5 Go.Proofs.YtooifcdkpddlmaaDoor.u8 wr [208] (by simp [maxLen])).keep0 hch1) ho1.rd (by simp [bg_len]) ?_; intro v2 w2 ho2 hch2 hat2; obtain ⟨A2, c2, rfl, _, _⟩ := ho2.slice; have Cw2 : Ch No wr w2 := (((Ch.refl No wr).alloc _).no_no hch1).fresh hch2 (Fr.mk' (Nat.le_refl _))) | ((with_reducible refine gate (.call { callee := .builtin .append, args := #[.tmp _, .tmp _], argTypes := #[114, 114] }) rfl ?_); refine wp_append rfl _ _ 114 24 (.slice none 0 0) 24 rfl Tryd.underlying114 info_sl rfl (by decide) sl (fun _ => rfl) _ xs [(A2, ([208] ++ bg u 1).length, c2)] _ _ _ rfl rfl rfl ((hmay.keep0 Cw2).1.keep0 ((Ch.refl No w2).alloc _)) (Ow.sl1 w2 (A2, ([208] ++ bg u 1).length, c2)) (by first | omega | (simp only [List.length_cons, List.length_nil]; omega)) ?_; intro v3 w3 ho3 hch3 hat3))
          have K2 : Ch No w2 (w2.alloc (.cells #[sl (A2, ([208] ++ bg u 1).length, c2)] 24)) := (Ch.refl No w2).alloc _
          have K1 : Ch No w w1 := (hch.alloc _).no_no hch1
          have CK := (hch.no_no Cw2).no_no K2
          have hfx : Fr w (sl (A2, ([208] ++ bg u 1).length, c2)) := (Fr.mk' hch.size : Fr w (.slice (some ⟨wr.heap.size, 0, none⟩) 1 1)).step K1.size hat2
          have K3 := CK.fresh hch3 hmay.2.1
          have hm3 := ((hmay.keep0 Cw2).keep0 K2).push HP.out (ho2.keep0 K2) hfx CK.size ho3 hch3 hat3
          go_roundg (gk - 1)
          case measure => omega
          case rel =>
            exact ⟨1, _, by omega, rfl, by simp; omega, hm3, (hrT.keep0 (Cw2.no_no K2)).keep hch3 (fun h => hrT.apart hmay.1 (by decide) h), K3, by simp⟩
        · have hdx : decide (-128 ≤ u - 18446744073709551616) = false := decide_eq_false hx
          go_wp2_with fail
          go_roundg (gk - 1)
          case measure => omega
          case rel => exact ⟨1, xs, by omega, rfl, by omega, hmay, hrT, hch, by omega⟩
      · subst hi
        have c0 := hrT.cell 1 _ rfl
        by_cases hx : -32768 ≤ u - 18446744073709551616
        · have hdx : decide (-32768 ≤ u - 18446744073709551616) = true := decide_eq_true hx
          have hP : NegD u ([209] ++ bg u 2) := .inr ⟨(209, 2), by simp, by simp only; omega, rfl⟩
          have HP := hid hP
          clear hP
          go_wp2_with fail
          refine (big_calls u 2 _ (by omega) (by omega) (by omega) (by omega)).mono ?_
          rintro e w1 ⟨v1, rfl, ho1, hf1, hch1⟩
          obtain ⟨A1, c1, rfl, _, _⟩ := ho1.slice
          go_wp2_with (first | ((with_reducible refine gate (.call { callee := .builtin .append, args := #[.tmp _, .tmp _], argTypes := #[24, 24] }) rfl ?_); refine wp_append rfl _ _ 24 5 (.int .u8 0) 1 rfl Tryd.underlying24 info_u8 rfl (by decide) Go.Proofs.YtooifcdkpddlmaaDoor.u8 (fun _ => rfl) _ [209] (bg u 2) _ _ _ rfl rfl rfl ((Ow.lit 5 Go.Proofs.YtooifcdkpddlmaaDoor.u8 wr [209] (by simp [maxLen])).keep0 hch1) ho1.rd (by simp [bg_len]) ?_; intro v2 w2 ho2 hch2 hat2; obtain ⟨A2, c2, rfl, _, _⟩ := ho2.slice; have Cw2 : Ch No wr w2 := (((Ch.refl No wr).alloc _).no_no hch1).fresh hch2 (Fr.mk' (Nat.le_refl _))) | ((with_reducible refine gate (.call { callee := .builtin .append, args := #[.tmp _, .tmp _], argTypes := #[114, 114] }) rfl ?_); refine wp_append rfl _ _ 114 24 (.slice none 0 0) 24 rfl Tryd.underlying114 info_sl rfl (by decide) sl (fun _ => rfl) _ xs [(A2, ([209] ++ bg u 2).length, c2)] _ _ _ rfl rfl rfl ((hmay.keep0 Cw2).1.keep0 ((Ch.refl No w2).alloc _)) (Ow.sl1 w2 (A2, ([209] ++ bg u 2).length, c2)) (by first | omega | (simp only [List.length_cons, List.length_nil]; omega)) ?_; intro v3 w3 ho3 hch3 hat3))
          have K2 : Ch No w2 (w2.alloc (.cells #[sl (A2, ([209] ++ bg u 2).length, c2)] 24)) := (Ch.refl No w2).alloc _
          have K1 : Ch No w w1 := (hch.alloc _).no_no hch1
          have CK := (hch.no_no Cw2).no_no K2
          have hfx : Fr w (sl (A2, ([209] ++ bg u 2).length, c2)) := (Fr.mk' hch.size : Fr w (.slice (some ⟨wr.heap.size, 0, none⟩) 1 1)).step K1.size hat2
          have K3 := CK.fresh hch3 hmay.2.1
          have hm3 := ((hmay.keep0 Cw2).keep0 K2).push HP.out (ho2.keep0 K2) hfx CK.size ho3 hch3 hat3
          go_roundg (gk - 1)
          case measure => omega
          case rel =>
            exact ⟨2, _, by omega, rfl, by simp; omega, hm3, (hrT.keep0 (Cw2.no_no K2)).keep hch3 (fun h => hrT.apart hmay.1 (by decide) h), K3, by simp⟩
        · have hdx : decide (-32768 ≤ u - 18446744073709551616) = false := decide_eq_false hx
          go_wp2_with fail
          go_roundg (gk - 1)
          case measure => omega
          case rel => exact ⟨2, xs, by omega, rfl, by omega, hmay, hrT, hch, by omega⟩
      · subst hi
        have c0 := hrT.cell 2 _ rfl
        by_cases hx : -2147483648 ≤ u - 18446744073709551616
        · have hdx : decide (-2147483648 ≤ u - 18446744073709551616) = true := decide_eq_true hx
          have hP : NegD u ([210] ++ bg u 4) := .inr ⟨(210, 4), by simp, by simp only; omega, rfl⟩
          have HP := hid hP
          clear hP
          go_wp2_with fail
          refine (big_calls u 4 _ (by omega) (by omega) (by omega) (by omega)).mono ?_
          rintro e w1 ⟨v1, rfl, ho1, hf1, hch1⟩
          obtain ⟨A1, c1, rfl, _, _⟩ := ho1.slice
          go_wp2_with (first | ((with_reducible refine gate (.call { callee := .builtin .append, args := #[.tmp _, .tmp _], argTypes := #[24, 24] }) rfl ?_); refine wp_append rfl _ _ 24 5 (.int .u8 0) 1 rfl Tryd.underlying24 info_u8 rfl (by decide) Go.Proofs.YtooifcdkpddlmaaDoor.u8 (fun _ => rfl) _ [210] (bg u 4) _ _ _ rfl rfl rfl ((Ow.lit 5 Go.Proofs.YtooifcdkpddlmaaDoor.u8 wr [210] (by simp [maxLen])).keep0 hch1) ho1.rd (by simp [bg_len]) ?_; intro v2 w2 ho2 hch2 hat2; obtain ⟨A2, c2, rfl, _, _⟩ := ho2.slice; have Cw2 : Ch No wr w2 := (((Ch.refl No wr).alloc _).no_no hch1).fresh hch2 (Fr.mk' (Nat.le_refl _))) | ((with_reducible refine gate (.call { callee := .builtin .append, args := #[.tmp _, .tmp _], argTypes := #[114, 114] }) rfl ?_); refine wp_append rfl _ _ 114 24 (.slice none 0 0) 24 rfl Tryd.underlying114 info_sl rfl (by decide) sl (fun _ => rfl) _ xs [(A2, ([210] ++ bg u 4).length, c2)] _ _ _ rfl rfl rfl ((hmay.keep0 Cw2).1.keep0 ((Ch.refl No w2).alloc _)) (Ow.sl1 w2 (A2, ([210] ++ bg u 4).length, c2)) (by first | omega | (simp only [List.length_cons, List.length_nil]; omega)) ?_; intro v3 w3 ho3 hch3 hat3))
          have K2 : Ch No w2 (w2.alloc (.cells #[sl (A2, ([210] ++ bg u 4).length, c2)] 24)) := (Ch.refl No w2).alloc _
          have K1 : Ch No w w1 := (hch.alloc _).no_no hch1
          have CK := (hch.no_no Cw2).no_no K2
          have hfx : Fr w (sl (A2, ([210] ++ bg u 4).length, c2)) := (Fr.mk' hch.size : Fr w (.slice (some ⟨wr.heap.size, 0, none⟩) 1 1)).step K1.size hat2
          have K3 := CK.fresh hch3 hmay.2.1
          have hm3 := ((hmay.keep0 Cw2).keep0 K2).push HP.out (ho2.keep0 K2) hfx CK.size ho3 hch3 hat3
          go_roundg (gk - 1)
          case measure => omega
          case rel =>
            exact ⟨3, _, by omega, rfl, by simp; omega, hm3, (hrT.keep0 (Cw2.no_no K2)).keep hch3 (fun h => hrT.apart hmay.1 (by decide) h), K3, by simp⟩
        · have hdx : decide (-2147483648 ≤ u - 18446744073709551616) = false := decide_eq_false hx
          go_wp2_with fail
          go_roundg (gk - 1)
          case measure => omega
          case rel => exact ⟨3, xs, by omega, rfl, by omega, hmay, hrT, hch, by omega⟩
      · subst hi
        have c0 := hrT.cell 3 _ rfl
        by_cases hx : -9223372036854775808 ≤ u - 18446744073709551616
        · have hdx : decide (-9223372036854775808 ≤ u - 18446744073709551616) = true := decide_eq_true hx
          have hP : NegD u ([211] ++ bg u 8) := .inr ⟨(211, 8), by simp, by simp only; omega, rfl⟩
          have HP := hid hP
          clear hP
          go_wp2_with fail
          refine (big_calls u 8 _ (by omega) (by omega) (by omega) (by omega)).mono ?_
          rintro e w1 ⟨v1, rfl, ho1, hf1, hch1⟩
          obtain ⟨A1, c1, rfl, _, _⟩ := ho1.slice
          go_wp2_with (first | ((with_reducible refine gate (.call { callee := .builtin .append, args := #[.tmp _, .tmp _], argTypes := #[24, 24] }) rfl ?_); refine wp_append rfl _ _ 24 5 (.int .u8 0) 1 rfl Tryd.underlying24 info_u8 rfl (by decide) Go.Proofs.YtooifcdkpddlmaaDoor.u8 (fun _ => rfl) _ [211] (bg u 8) _ _ _ rfl rfl rfl ((Ow.lit 5 Go.Proofs.YtooifcdkpddlmaaDoor.u8 wr [211] (by simp [maxLen])).keep0 hch1) ho1.rd (by simp [bg_len]) ?_; intro v2 w2 ho2 hch2 hat2; obtain ⟨A2, c2, rfl, _, _⟩ := ho2.slice; have Cw2 : Ch No wr w2 := (((Ch.refl No wr).alloc _).no_no hch1).fresh hch2 (Fr.mk' (Nat.le_refl _))) | ((with_reducible refine gate (.call { callee := .builtin .append, args := #[.tmp _, .tmp _], argTypes := #[114, 114] }) rfl ?_); refine wp_append rfl _ _ 114 24 (.slice none 0 0) 24 rfl Tryd.underlying114 info_sl rfl (by decide) sl (fun _ => rfl) _ xs [(A2, ([211] ++ bg u 8).length, c2)] _ _ _ rfl rfl rfl ((hmay.keep0 Cw2).1.keep0 ((Ch.refl No w2).alloc _)) (Ow.sl1 w2 (A2, ([211] ++ bg u 8).length, c2)) (by first | omega | (simp only [List.length_cons, List.length_nil]; omega)) ?_; intro v3 w3 ho3 hch3 hat3))
          have K2 : Ch No w2 (w2.alloc (.cells #[sl (A2, ([211] ++ bg u 8).length, c2)] 24)) := (Ch.refl No w2).alloc _
          have K1 : Ch No w w1 := (hch.alloc _).no_no hch1
          have CK := (hch.no_no Cw2).no_no K2
          have hfx : Fr w (sl (A2, ([211] ++ bg u 8).length, c2)) := (Fr.mk' hch.size : Fr w (.slice (some ⟨wr.heap.size, 0, none⟩) 1 1)).step K1.size hat2
          have K3 := CK.fresh hch3 hmay.2.1
          have hm3 := ((hmay.keep0 Cw2).keep0 K2).push HP.out (ho2.keep0 K2) hfx CK.size ho3 hch3 hat3
          go_roundg (gk - 1)
          case measure => omega
          case rel =>
            exact ⟨4, _, by omega, rfl, by simp; omega, hm3, (hrT.keep0 (Cw2.no_no K2)).keep hch3 (fun h => hrT.apart hmay.1 (by decide) h), K3, by simp⟩
        · exact absurd h0 (by omega)
      · subst hi
        have hp := hpos rfl
        go_wp2_with fail
        refine (pick_calls pf xs.length wr (hF.keep0 hch) (by omega)).mono ?_
        rintro e w2 ⟨j, hk, rfl, hF2, hch2⟩
        have hj : j < xs.length := by omega
        obtain ⟨b, o, d, rfl, hc, hPd, hod, hfd⟩ := hmay.get j hj
        have hb := hmay.2.1 b (show Blk (.slice (some ⟨b, o, none⟩) xs.length c8) b from rfl)
        have hfl := hF.lt
        have hc2 := hch2.cell hc (fun h => by have h9 : b = pf := h; omega)
        have hj' : (j : Int) < xs.length := by omega
        have hj0 : (0 : Int) ≤ j := by omega
        have C2 : Ch (fun b => b = pf) w w2 := (Ch.of_no hch).trans hch2 (fun _ h => h) (fun _ h => .inl h)
        have hfin : Hid (ItTo (NegD u) pf w (.returned (sl xs[j])) w2) := ⟨_, d, rfl, hPd, hod.keep hch2 (fun b hb h => by have := hfd b hb; have h9 : b = pf := h; omega), hfd, hF2, C2⟩
        generalize xs[j] = x at hc2 hfin
        go_wp2_with fail
        go_ret
        exact hfin.out

end Go.Proofs.YtooifcdkpddlmaaDoor
