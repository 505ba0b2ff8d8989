/- The walk of the reference's pieces of lists and maps. The plain law: how long the forms of a value may be. No program in sight. The walk of the reference's writer of values of AMQP, its pieces and its descriptor's bytes given. No condition. -/
import Derived.Test.YtbdgkikipekmlaaDoorPcn
import Derived.Deep.RegionHeld3
namespace Go.Proofs.YtbdgkikipekmlaaDoor
set_option linter.unusedVariables false
set_option linter.unusedSimpArgs false
open Go.RowKit

/-- Pieces come back from a function that has chosen forms on its way. -/
def PcF (P : Int → List Int → Prop) (full : Int) (pf : Nat) (w : World) (e : Ending) (w' : World) : Prop :=
  ∃ v xs, e = .returned v ∧ PMay P w w' v xs ∧ xs.length ≤ 4 ∧ (∃ x ∈ xs, x.1 = full) ∧ Fm w' pf ∧ Ch (fun b => b = pf) w w'
theorem PcF.of {P : Int → List Int → Prop} {full : Int} {pf : Nat} {w w' : World} {e : Ending} (h : PcTo P full w e w') (hF : Fm w pf) : PcF P full pf w e w' := by
  obtain ⟨v, xs, h1, h2, h3, h4, h5⟩ := h
  exact ⟨v, xs, h1, h2, by omega, h4, hF.keep0 h5, Ch.of_no h5⟩
/-- A value has been written whole. -/
def PvF (t : Va) (pf : Nat) (w : World) (e : Ending) (w' : World) : Prop :=
  ∃ v d, e = .returned v ∧ (Wr t).pv d ∧ d.length ≤ cntV t * 131100 ∧ Ow 5 u8 w' v d ∧ Fr w v ∧ Fm w' pf ∧ Ch (fun b => b = pf) w w'
theorem cat_same (f g : Nat → List Int) : ∀ i, (∀ j, j < i → f j = g j) → cat f i = cat g i
  | 0, _ => rfl
  | i + 1, h => by
    show cat f i ++ f i = cat g i ++ g i
    rw [cat_same f g i (fun j hj => h j (by omega)), h i (by omega)]
theorem cat_set (ds : Nat → List Int) (i : Nat) (d : List Int) : cat (fun j => if j = i then d else ds j) (i + 1) = cat ds i ++ d := by
  show cat (fun j => if j = i then d else ds j) i ++ (if i = i then d else ds i) = cat ds i ++ d
  rw [if_pos rfl, cat_same _ ds i (fun j hj => by rw [if_neg (by omega)])]
/-- How many values there are in the first kids. -/
def kcV {m : Nat} (K : Fin m → Va) : Nat → Nat
  | 0 => 0
  | i + 1 => kcV K i + if h : i < m then cntV (K ⟨i, h⟩) else 0
theorem kcV_succ {m : Nat} (K : Fin m → Va) (i : Nat) (hi : i < m) : kcV K (i + 1) = kcV K i + cntV (K ⟨i, hi⟩) := by
  show kcV K i + _ = _
  rw [dif_pos hi]
theorem kcV_le {m : Nat} (K : Fin m → Va) (i : Nat) : ∀ n, i ≤ n → kcV K i ≤ kcV K n
  | 0, h => by obtain rfl : i = 0 := by omega
               exact Nat.le_refl _
  | n + 1, h => by
    by_cases e : i = n + 1
    · subst e; exact Nat.le_refl _
    · exact Nat.le_trans (kcV_le K i n (by omega)) (Nat.le_add_right _ _)
abbrev VZ' : List Value := [.int .i64 0, .int .u64 0, .string ⟨#[]⟩, .slice none 0 0, .int .i64 0, .slice none 0 0]
set_option maxRecDepth 100000 in
set_option maxHeartbeats 4000000 in
theorem pieces_21 (w0 : World) (pf : Nat) (hpf : w0.heap.size ≤ pf) (n o : Int) (s : ByteArray) (m d : Nat) (K : Fin m → Va) (D : Fin d → Va) (A : Option Addr) (cap : Nat) (v4x v5 : Value) (w : World) (hF : Fm w pf) (ht : VaP w0 (.mk 21 n s m K o d D) [.int .i64 21, .int .u64 n, .string s, .slice A m cap, .int .i64 o, v4x]) (hw : Ch (Fro w0.heap.size) w0 w) (hm : m ≤ 1000) (hcn : kcV K m ≤ 2000)
    (ih : ∀ (i : Nat) (h : i < m) (v0 v1 v2 v3 v4 v5 : Value) (w : World), VaP w0 (K ⟨i, h⟩) [v0, v1, v2, v3, v4, v5] → Ch (Fro w0.heap.size) w0 w → Fm w pf → Calls Tryd.prog 44 #[.agg #[v0, v1, v2, v3, v4, v5], .pointer (some ⟨pf, 0, none⟩)] w (PvF (K ⟨i, h⟩) pf w)) :
    Calls Tryd.prog 69 #[.pointer (some ⟨pf, 0, none⟩), .agg #[.int .i64 21, .int .u64 n, .string s, .slice A m cap, .int .i64 o, v5]] w (PcF (fun c b => ((m = 0 ∧ c = 69 ∧ b = []) ∨ ∃ es : Nat → List Int, (∀ i : Fin m, (Wr (K i)).pv (es i.val)) ∧ LenD 192 208 (cat es m) m c b)) 208 pf w) := by
  have hB := Row.alloc w [.int .i64 21, .int .u64 n, .string s, .slice A m cap, .int .i64 o, v5] 25
  have hpl := hF.lt
  have C1 : Ch No w (w.alloc (.cells #[.int .i64 21, .int .u64 n, .string s, .slice A m cap, .int .i64 o, v5] 25)) := (Ch.refl No w).alloc _
  have HCN := hid hcn
  clear hcn
  have p0 := hB.cell 0 _ rfl
  have p1 := hB.cell 1 _ rfl
  have p2 := hB.cell 2 _ rfl
  have p3 := hB.cell 3 _ rfl
  have p4 := hB.cell 4 _ rfl
  have p5 := hB.cell 5 _ rfl
  go_enter Tryd.func69, Tryd.ntmps69
  go_wp2_with fail
  go_loopg [5, 63] m (fun kk s5 s63 wr => ∃ (i : Nat) (ds : Nat → List Int) (o5 : List Int), kk + i = m ∧ s63 = .int .i64 i ∧ Hid (o5 = cat ds i) ∧ Hid (∀ j (h : j < m), j < i → (Wr (K ⟨j, h⟩)).pv (ds j)) ∧ o5.length ≤ kcV K i * 131100 ∧ Ow 5 Go.Proofs.YtbdgkikipekmlaaDoor.u8 wr s5 o5 ∧ Hid (¬ Blk s5 w.heap.size) ∧ Fr w s5 ∧ Fm wr pf ∧ Row wr w.heap.size 25 [.int .i64 21, .int .u64 n, .string s, .slice A m cap, .int .i64 o, v5] ∧ Ch (fun b => b = pf) w wr)
  case atStart => exact ⟨0, fun _ => [], [], by omega, rfl, hid rfl, hid (fun j _ h => by omega), by simp [kcV], Ow.nil _ _ _, hid Blk_nil, Fr.nil _ _ _, hF.keep0 C1, hB, Ch.of_no C1⟩
  case round =>
    obtain ⟨i, ds, o5, hki, rfl, HO5, HALL, hol, HO, HNB, hfo, hFr, hBr, hch⟩ := hrel
    obtain ⟨A5, c5, rfl, hc5, _⟩ := HO.slice
    have p0 := hBr.cell 0 _ rfl
    have p1 := hBr.cell 1 _ rfl
    have p2 := hBr.cell 2 _ rfl
    have p3 := hBr.cell 3 _ rfl
    have p4 := hBr.cell 4 _ rfl
    have p5 := hBr.cell 5 _ rfl
    by_cases hi : i < m
    · obtain ⟨b1, o1, u0, u1, u2, u3, u4, u5, rfl, htk, a0, a1, a2, a3, a4, a5⟩ := ht.kid (w := wr) (hw.trans hch (fun _ h => h) (fun k hk => .inl (by subst hk; exact hpf))) i hi
      have hi' : (i : Int) < m := by omega
      have hi0 : (0 : Int) ≤ i := by omega
      have hks := kcV_succ K i hi
      have hkl := kcV_le K (i + 1) m (by omega)
      have hcn := HCN.out
      have HKS := hid hks
      have hol2 : o5.length ≤ 262200000 := by omega
      have HCK : Hid (cntV (K ⟨i, hi⟩) ≤ 2000) := hid (by omega)
      clear hks hkl hcn
      go_wp2_with (first | ((with_reducible refine gate (.store 25 (.tmp 7) _) rfl ?_); refine wp_store rfl rfl 25 _ _ rfl wr.heap.size 0 25 VZ' (.agg #[u0, u1, u2, u3, u4, u5]) rfl rfl [u0, u1, u2, u3, u4, u5] rfl size_va htk.one (Row.alloc wr VZ' 25) (by simp) ?_; intro w2 hrow2 hch2; have q0 : w2.cell? ⟨wr.heap.size, 0, none⟩ = some u0 := hrow2.cell 0 _ rfl; have q1 : w2.cell? ⟨wr.heap.size, 1, none⟩ = some u1 := hrow2.cell 1 _ rfl; have q2 : w2.cell? ⟨wr.heap.size, 2, none⟩ = some u2 := hrow2.cell 2 _ rfl; have q3 : w2.cell? ⟨wr.heap.size, 3, none⟩ = some u3 := hrow2.cell 3 _ rfl; have q4 : w2.cell? ⟨wr.heap.size, 4, none⟩ = some u4 := hrow2.cell 4 _ rfl; have q5 : w2.cell? ⟨wr.heap.size, 5, none⟩ = some u5 := hrow2.cell 5 _ rfl))
      have C3 : Ch No wr w2 := ((Ch.refl No wr).alloc _).freshg hch2 (Nat.le_refl _)
      refine (ih i hi u0 u1 u2 u3 u4 u5 w2 htk ((hw.trans hch (fun _ h => h) (fun k hk => .inl (by subst hk; exact hpf))).then_no C3) (hFr.keep0 C3)).mono ?_
      rintro e w3 ⟨v3, d3, rfl, hP3, hl3, ho3, hf3, hF3, hch3⟩
      obtain ⟨A3, c3, rfl, _, _⟩ := ho3.slice
      have HO3 := (HO.keep0 C3).keep hch3 (fun b hb h => by have := hfo b hb; have h9 : b = pf := h; omega)
      have C4 : Ch (fun b => b = pf) w w3 := (hch.then_no C3).trans hch3 (fun _ h => h) (fun _ h => .inl h)
      have hB3 := (hBr.keep0 C3).keep hch3 (fun h => by have h9 : w.heap.size = pf := h; omega)
      have HL3 := hid hl3
      have hl4 : d3.length ≤ 262200000 := by have := HCK.out; omega
      clear hl3
      go_wp2_with (first | ((with_reducible refine gate (.call { callee := .builtin .append, args := #[.tmp _, .tmp _], argTypes := #[26, 26] }) rfl ?_); refine wp_append rfl _ _ 26 5 (.int .u8 0) 1 rfl Tryd.underlying26 info_u8 rfl (by decide) Go.Proofs.YtbdgkikipekmlaaDoor.u8 (fun _ => rfl) _ o5 d3 _ _ _ rfl rfl rfl HO3 ho3.rd (by omega) ?_; intro v4 w4 ho4 hch4 hat4))
      have hsz := C4.size
      have hB4 := hB3.keep hch4 (fun h => HNB.out h)
      go_roundg (gk - 1)
      case measure => omega
      case rel =>
        refine ⟨i + 1, fun j => if j = i then d3 else ds j, o5 ++ d3, by omega, by go_num, hid (by rw [HO5.out, cat_set]), hid (fun j h hj => ?_), by rw [List.length_append, HKS.out]; have := HL3.out; omega, ho4, hid (fun h => (hat4 _ h).elim HNB.out (fun h => by have := hB3.lt; omega)), hfo.step hsz hat4, hF3.keep hch4 (fun h => by have := hfo _ h; omega), hB4, C4.trans hch4 (fun _ h => h) (fun b hb => .inr (hfo b hb))⟩
        by_cases hji : j = i
        · subst hji
          simp only [if_pos]
          exact hP3
        · simp only [if_neg hji]
          exact HALL.out j h (by omega)
    · obtain rfl : i = m := by omega
      have hcn := HCN.out
      have hol2 : o5.length ≤ 262200000 := by omega
      have hnl : decide ((i : Int) < i) = false := decide_eq_false (by omega)
      have hlen := hid (fun W (h : Rd Go.Proofs.YtbdgkikipekmlaaDoor.u8 W A5 o5) => lengthed_yes 192 208 i A5 c5 o5 W h (by omega) (by omega) (by omega))
      go_wp2_with fail
      refine (hlen.out _ HO.rd).mono ?_
      rintro e w3 ⟨v3, xs, rfl, hmay, hxl, hxf, hch3⟩
      have hB3 := hBr.keep0 hch3
      have CW : Ch (fun b => b = pf) w w3 := hch.then_no hch3
      have hF3 := hFr.keep0 hch3
      have HM : Hid (PMay (fun c b => ((i = 0 ∧ c = 69 ∧ b = []) ∨ ∃ es : Nat → List Int, (∀ i : Fin i, (Wr (K i)).pv (es i.val)) ∧ LenD 192 208 (cat es i) i c b)) w w3 v3 xs) := hid ((hmay.mono (fun c b h => .inr ⟨ds, fun j => HALL.out j.val j.isLt j.isLt, by rw [← HO5.out]; exact h⟩)).weak hch.size)
      have z0 := hB3.cell 0 _ rfl
      have z1 := hB3.cell 1 _ rfl
      have z2 := hB3.cell 2 _ rfl
      have z3 := hB3.cell 3 _ rfl
      have z4 := hB3.cell 4 _ rfl
      have z5 := hB3.cell 5 _ rfl
      by_cases hz : i = 0
      · have hz1 : ((i : Int) == 0) = true := by subst hz; rfl
        have X0 := PMay.one (w0 := w) (w := w3) (P := (fun c b => ((i = 0 ∧ c = 69 ∧ b = []) ∨ ∃ es : Nat → List Int, (∀ i : Fin i, (Wr (K i)).pv (es i.val)) ∧ LenD 192 208 (cat es i) i c b))) (d := []) (69, none, 0, 0) (.inl ⟨hz, rfl, rfl⟩) (by_nil _) (Fr.nil _ _ _) CW.size
        have X1 := HM.out.keep0 ((Ch.refl No w3).alloc (.cells (pc (69, none, 0, 0)).toArray 116))
        have HX := hid (And.intro X0 X1)
        obtain ⟨A3, c3, rfl⟩ := hmay.slice
        have hlt3 : pf < w3.heap.size := hF3.lt
        clear X0 X1 hz
        go_wp2_with ((with_reducible refine gate (.call { callee := .builtin .append, args := #[.tmp _, .tmp _], argTypes := #[113, 113] }) rfl ?_); refine wp_appendM rfl _ _ 113 116 _ 2 32 rfl Tryd.underlying113 info_pc rfl (by decide) (by decide) (by decide) (.slice (some ⟨w3.heap.size, 0, none⟩) 1 1) 1 ([((69, none, 0, 0) : Pce)].flatMap pc) (xs.flatMap pc) A3 xs.length c3 rfl rfl (pcs_len xs) (pcs_one xs) HX.out.1.1 HX.out.2.src (by omega) ?_; intro v6 w6 ho6 hch6 hat6)
        go_ret
        have M6 := HX.out.1.cat HX.out.2 (Nat.le_trans CW.size (Ch.size ((Ch.refl No w3).alloc (.cells (pc (69, none, 0, 0)).toArray 116)))) ho6 hch6 hat6
        obtain ⟨x, hx, hx1⟩ := hxf
        exact ⟨v6, _, rfl, M6, by rw [List.length_append]; simp; omega, ⟨x, List.mem_append_right _ hx, hx1⟩, (hF3.keep0 ((Ch.refl No w3).alloc _)).keep hch6 (fun h => by have := Blk_slice.1 h; omega), (CW.alloc _).trans hch6 (fun _ h => h) (fun b hb => .inr (by have := Blk_slice.1 hb; have := CW.size; omega))⟩
      · have hz1 : ((i : Int) == 0) = false := beq_eq_false_iff_ne.2 (by omega)
        have hz2 : decide ((i : Int) = 0) = false := decide_eq_false (by omega)
        go_wp2_with fail
        go_ret
        exact ⟨v3, xs, rfl, HM.out, by omega, hxf, hF3, CW⟩
set_option maxRecDepth 100000 in
set_option maxHeartbeats 4000000 in
theorem pieces_22 (w0 : World) (pf : Nat) (hpf : w0.heap.size ≤ pf) (n o : Int) (s : ByteArray) (m d : Nat) (K : Fin m → Va) (D : Fin d → Va) (A : Option Addr) (cap : Nat) (v4x v5 : Value) (w : World) (hF : Fm w pf) (ht : VaP w0 (.mk 22 n s m K o d D) [.int .i64 22, .int .u64 n, .string s, .slice A m cap, .int .i64 o, v4x]) (hw : Ch (Fro w0.heap.size) w0 w) (hm : m ≤ 1000) (hcn : kcV K m ≤ 2000)
    (ih : ∀ (i : Nat) (h : i < m) (v0 v1 v2 v3 v4 v5 : Value) (w : World), VaP w0 (K ⟨i, h⟩) [v0, v1, v2, v3, v4, v5] → Ch (Fro w0.heap.size) w0 w → Fm w pf → Calls Tryd.prog 44 #[.agg #[v0, v1, v2, v3, v4, v5], .pointer (some ⟨pf, 0, none⟩)] w (PvF (K ⟨i, h⟩) pf w)) :
    Calls Tryd.prog 69 #[.pointer (some ⟨pf, 0, none⟩), .agg #[.int .i64 22, .int .u64 n, .string s, .slice A m cap, .int .i64 o, v5]] w (PcF (fun c b => (∃ es : Nat → List Int, (∀ i : Fin m, (Wr (K i)).pv (es i.val)) ∧ LenD 193 209 (cat es m) m c b)) 209 pf w) := by
  have hB := Row.alloc w [.int .i64 22, .int .u64 n, .string s, .slice A m cap, .int .i64 o, v5] 25
  have hpl := hF.lt
  have C1 : Ch No w (w.alloc (.cells #[.int .i64 22, .int .u64 n, .string s, .slice A m cap, .int .i64 o, v5] 25)) := (Ch.refl No w).alloc _
  have HCN := hid hcn
  clear hcn
  have p0 := hB.cell 0 _ rfl
  have p1 := hB.cell 1 _ rfl
  have p2 := hB.cell 2 _ rfl
  have p3 := hB.cell 3 _ rfl
  have p4 := hB.cell 4 _ rfl
  have p5 := hB.cell 5 _ rfl
  go_enter Tryd.func69, Tryd.ntmps69
  go_wp2_with fail
  go_loopg [5, 63] m (fun kk s5 s63 wr => ∃ (i : Nat) (ds : Nat → List Int) (o5 : List Int), kk + i = m ∧ s63 = .int .i64 i ∧ Hid (o5 = cat ds i) ∧ Hid (∀ j (h : j < m), j < i → (Wr (K ⟨j, h⟩)).pv (ds j)) ∧ o5.length ≤ kcV K i * 131100 ∧ Ow 5 Go.Proofs.YtbdgkikipekmlaaDoor.u8 wr s5 o5 ∧ Hid (¬ Blk s5 w.heap.size) ∧ Fr w s5 ∧ Fm wr pf ∧ Row wr w.heap.size 25 [.int .i64 22, .int .u64 n, .string s, .slice A m cap, .int .i64 o, v5] ∧ Ch (fun b => b = pf) w wr)
  case atStart => exact ⟨0, fun _ => [], [], by omega, rfl, hid rfl, hid (fun j _ h => by omega), by simp [kcV], Ow.nil _ _ _, hid Blk_nil, Fr.nil _ _ _, hF.keep0 C1, hB, Ch.of_no C1⟩
  case round =>
    obtain ⟨i, ds, o5, hki, rfl, HO5, HALL, hol, HO, HNB, hfo, hFr, hBr, hch⟩ := hrel
    obtain ⟨A5, c5, rfl, hc5, _⟩ := HO.slice
    have p0 := hBr.cell 0 _ rfl
    have p1 := hBr.cell 1 _ rfl
    have p2 := hBr.cell 2 _ rfl
    have p3 := hBr.cell 3 _ rfl
    have p4 := hBr.cell 4 _ rfl
    have p5 := hBr.cell 5 _ rfl
    by_cases hi : i < m
    · obtain ⟨b1, o1, u0, u1, u2, u3, u4, u5, rfl, htk, a0, a1, a2, a3, a4, a5⟩ := ht.kid (w := wr) (hw.trans hch (fun _ h => h) (fun k hk => .inl (by subst hk; exact hpf))) i hi
      have hi' : (i : Int) < m := by omega
      have hi0 : (0 : Int) ≤ i := by omega
      have hks := kcV_succ K i hi
      have hkl := kcV_le K (i + 1) m (by omega)
      have hcn := HCN.out
      have HKS := hid hks
      have hol2 : o5.length ≤ 262200000 := by omega
      have HCK : Hid (cntV (K ⟨i, hi⟩) ≤ 2000) := hid (by omega)
      clear hks hkl hcn
      go_wp2_with (first | ((with_reducible refine gate (.store 25 (.tmp 7) _) rfl ?_); refine wp_store rfl rfl 25 _ _ rfl wr.heap.size 0 25 VZ' (.agg #[u0, u1, u2, u3, u4, u5]) rfl rfl [u0, u1, u2, u3, u4, u5] rfl size_va htk.one (Row.alloc wr VZ' 25) (by simp) ?_; intro w2 hrow2 hch2; have q0 : w2.cell? ⟨wr.heap.size, 0, none⟩ = some u0 := hrow2.cell 0 _ rfl; have q1 : w2.cell? ⟨wr.heap.size, 1, none⟩ = some u1 := hrow2.cell 1 _ rfl; have q2 : w2.cell? ⟨wr.heap.size, 2, none⟩ = some u2 := hrow2.cell 2 _ rfl; have q3 : w2.cell? ⟨wr.heap.size, 3, none⟩ = some u3 := hrow2.cell 3 _ rfl; have q4 : w2.cell? ⟨wr.heap.size, 4, none⟩ = some u4 := hrow2.cell 4 _ rfl; have q5 : w2.cell? ⟨wr.heap.size, 5, none⟩ = some u5 := hrow2.cell 5 _ rfl))
      have C3 : Ch No wr w2 := ((Ch.refl No wr).alloc _).freshg hch2 (Nat.le_refl _)
      refine (ih i hi u0 u1 u2 u3 u4 u5 w2 htk ((hw.trans hch (fun _ h => h) (fun k hk => .inl (by subst hk; exact hpf))).then_no C3) (hFr.keep0 C3)).mono ?_
      rintro e w3 ⟨v3, d3, rfl, hP3, hl3, ho3, hf3, hF3, hch3⟩
      obtain ⟨A3, c3, rfl, _, _⟩ := ho3.slice
      have HO3 := (HO.keep0 C3).keep hch3 (fun b hb h => by have := hfo b hb; have h9 : b = pf := h; omega)
      have C4 : Ch (fun b => b = pf) w w3 := (hch.then_no C3).trans hch3 (fun _ h => h) (fun _ h => .inl h)
      have hB3 := (hBr.keep0 C3).keep hch3 (fun h => by have h9 : w.heap.size = pf := h; omega)
      have HL3 := hid hl3
      have hl4 : d3.length ≤ 262200000 := by have := HCK.out; omega
      clear hl3
      go_wp2_with (first | ((with_reducible refine gate (.call { callee := .builtin .append, args := #[.tmp _, .tmp _], argTypes := #[26, 26] }) rfl ?_); refine wp_append rfl _ _ 26 5 (.int .u8 0) 1 rfl Tryd.underlying26 info_u8 rfl (by decide) Go.Proofs.YtbdgkikipekmlaaDoor.u8 (fun _ => rfl) _ o5 d3 _ _ _ rfl rfl rfl HO3 ho3.rd (by omega) ?_; intro v4 w4 ho4 hch4 hat4))
      have hsz := C4.size
      have hB4 := hB3.keep hch4 (fun h => HNB.out h)
      go_roundg (gk - 1)
      case measure => omega
      case rel =>
        refine ⟨i + 1, fun j => if j = i then d3 else ds j, o5 ++ d3, by omega, by go_num, hid (by rw [HO5.out, cat_set]), hid (fun j h hj => ?_), by rw [List.length_append, HKS.out]; have := HL3.out; omega, ho4, hid (fun h => (hat4 _ h).elim HNB.out (fun h => by have := hB3.lt; omega)), hfo.step hsz hat4, hF3.keep hch4 (fun h => by have := hfo _ h; omega), hB4, C4.trans hch4 (fun _ h => h) (fun b hb => .inr (hfo b hb))⟩
        by_cases hji : j = i
        · subst hji
          simp only [if_pos]
          exact hP3
        · simp only [if_neg hji]
          exact HALL.out j h (by omega)
    · obtain rfl : i = m := by omega
      have hcn := HCN.out
      have hol2 : o5.length ≤ 262200000 := by omega
      have hnl : decide ((i : Int) < i) = false := decide_eq_false (by omega)
      have hlen := hid (fun W (h : Rd Go.Proofs.YtbdgkikipekmlaaDoor.u8 W A5 o5) => lengthed_yes 193 209 i A5 c5 o5 W h (by omega) (by omega) (by omega))
      go_wp2_with fail
      refine (hlen.out _ HO.rd).mono ?_
      rintro e w3 ⟨v3, xs, rfl, hmay, hxl, hxf, hch3⟩
      have hB3 := hBr.keep0 hch3
      have CW : Ch (fun b => b = pf) w w3 := hch.then_no hch3
      have hF3 := hFr.keep0 hch3
      have HM : Hid (PMay (fun c b => (∃ es : Nat → List Int, (∀ i : Fin i, (Wr (K i)).pv (es i.val)) ∧ LenD 193 209 (cat es i) i c b)) w w3 v3 xs) := hid ((hmay.mono (fun c b h => ⟨ds, fun j => HALL.out j.val j.isLt j.isLt, by rw [← HO5.out]; exact h⟩)).weak hch.size)
      have z0 := hB3.cell 0 _ rfl
      have z1 := hB3.cell 1 _ rfl
      have z2 := hB3.cell 2 _ rfl
      have z3 := hB3.cell 3 _ rfl
      have z4 := hB3.cell 4 _ rfl
      have z5 := hB3.cell 5 _ rfl
      go_wp2_with fail
      go_ret
      exact ⟨v3, xs, rfl, HM.out, by omega, hxf, hF3, CW⟩

end Go.Proofs.YtbdgkikipekmlaaDoor

namespace Go.Proofs.YtbdgkikipekmlaaDoor
set_option linter.unusedVariables false
set_option linter.unusedSimpArgs false
open Go.RowKit

theorem kcV_psum {m : Nat} (K : Fin m → Va) : ∀ n, kcV K n = psum (fun i => if h : i < m then cntV (K ⟨i, h⟩) else 0) n
  | 0 => rfl
  | n + 1 => by
    show kcV K n + _ = psum _ n + _
    rw [kcV_psum K n]
/-- A value's count without its descriptor. -/
def cKV : Va → Nat
  | .mk _ _ _ m K _ _ _ => 1 + kcV K m
/-- The count of its descriptor. -/
def cDV : Va → Nat
  | .mk _ _ _ _ _ _ d D => kcV D d
theorem cnt_parts : ∀ t : Va, cntV t = cKV t + cDV t
  | .mk k n s m K o d D => by
    show cntV (.mk k n s m K o d D) = (1 + kcV K m) + kcV D d
    rw [kcV_psum K, kcV_psum D]
    conv => lhs; unfold cntV
theorem cnt_mk (k n : Int) (s : ByteArray) (m : Nat) (K : Fin m → Va) (o : Int) (d : Nat) (D : Fin d → Va) : cntV (.mk k n s m K o d D) = 1 + kcV K m + kcV D d := cnt_parts _
theorem cat_le (es : Nat → List Int) (B : Nat → Nat) : ∀ n, (∀ i, i < n → (es i).length ≤ B i) → (cat es n).length ≤ psum B n
  | 0, _ => Nat.le_refl _
  | n + 1, h => by
    show (cat es n ++ es n).length ≤ psum B n + B n
    rw [List.length_append]
    have := cat_le es B n (fun i hi => h i (by omega))
    have := h n (by omega)
    omega
theorem psum_mul {m : Nat} (K : Fin m → Va) (C : Nat) : ∀ n, n ≤ m → psum (fun i => if h : i < m then cntV (K ⟨i, h⟩) * C else 0) n = kcV K n * C
  | 0, _ => by simp [psum, kcV]
  | n + 1, h => by
    show psum _ n + _ = (kcV K n + _) * C
    rw [psum_mul K C n (by omega), Nat.add_mul]
    congr 1
    show (if h : n < m then cntV (K ⟨n, h⟩) * C else 0) = (if h : n < m then cntV (K ⟨n, h⟩) else 0) * C
    rw [dif_pos (by omega), dif_pos (by omega)]
theorem LenD.le {sh lo cnt c : Int} {data b : List Int} (h : LenD sh lo data cnt c b) : b.length ≤ 8 + data.length := by
  have l1 : (lenh cnt 1).length ≤ 1 := by unfold lenh; split <;> simp [bg_len]
  have l4 : (lenh cnt 4).length ≤ 4 := by unfold lenh; split <;> simp [bg_len]
  rcases h with ⟨_, _, _, rfl⟩ | ⟨_, rfl⟩
  · rw [List.length_append, List.length_append, bg_len]; omega
  · rw [List.length_append, List.length_append, bg_len]; omega
theorem NumW.le {k n c : Int} {b : List Int} (h : NumW k n c b) : b.length ≤ 16 := by
  have hf : fsz k ≤ 16 := by
    have h1 := fs0_range k
    unfold fsz
    have : 0 ≤ bs1 k := by unfold bs1; split <;> omega
    omega
  rcases h with ⟨_, rfl⟩ | ⟨_, ⟨_, _, rfl⟩ | ⟨_, _, rfl⟩⟩ | ⟨_, ⟨_, _, rfl⟩ | ⟨_, _, rfl⟩⟩ | ⟨_, _, _, rfl⟩ | ⟨_, _, _, rfl⟩
  · rw [bg_len]; omega
  all_goals simp [bg_len]
/-- The lengths of the forms of a value that fits. -/
theorem wr_len : ∀ (t : Va) (lv : Int), FitV t lv → (∀ c b, (Wr t).pc c b → b.length + 2 ≤ cKV t * 131100) ∧ (∀ b, (Wr t).ds b → b.length ≤ 1 + cDV t * 131100) ∧ (∀ b, (Wr t).pv b → b.length ≤ cntV t * 131100) := by
  intro t
  induction t with
  | mk k n s m K o d D ihK ihD =>
    intro lv hf
    obtain ⟨_, _, _, _, _, _, hd1, hm, hs, _, _, _, hfd, hfk⟩ := hf
    have hsl : (bys s).length ≤ 131072 := by rw [bys_len]; exact hs
    have hkv : ∀ es : Nat → List Int, (∀ i : Fin m, (Wr (K i)).pv (es i.val)) → (cat es m).length ≤ kcV K m * 131100 := fun es he => by
      rw [← psum_mul K 131100 m (Nat.le_refl _)]
      refine cat_le es _ m fun i hi => ?_
      simp only [dif_pos hi]
      exact (ihK ⟨i, hi⟩ (lv - 1) (hfk ⟨i, hi⟩)).2.2 _ (he ⟨i, hi⟩)
    have hpc : ∀ c b, (Wr (.mk k n s m K o d D)).pc c b → b.length + 2 ≤ cKV (.mk k n s m K o d D) * 131100 := by
      intro c b h
      show b.length + 2 ≤ (1 + kcV K m) * 131100
      unfold Wr at h
      dsimp only at h
      rcases h with ⟨_, _, rfl⟩ | ⟨_, ⟨_, rfl⟩ | ⟨_, rfl⟩⟩ | ⟨_, _, rfl⟩ | ⟨_, _, rfl⟩ | ⟨_, h⟩ | ⟨_, h⟩ | ⟨_, h⟩ | ⟨_, _, _, h⟩ | ⟨_, ⟨_, _, rfl⟩ | ⟨es, he, h⟩⟩ | ⟨_, es, he, h⟩ | ⟨_, kd, code, es, pre, hp0, hp1, _, _, he, h⟩
      · simp; omega
      · simp; omega
      · simp; omega
      · omega
      · omega
      · have := h.le; omega
      · have := h.le; omega
      · have := h.le; omega
      · have := h.le; omega
      · simp; omega
      · have := h.le; have := hkv es he; omega
      · have := h.le; have := hkv es he; omega
      · have h1 := h.le
        rw [List.length_append, List.length_cons] at h1
        have key : pre.length + (cat es m).length ≤ 1 + kcV K m * 131100 := by
          have hB : (cat es m).length ≤ psum (fun i => if h : i < m then cKV (K ⟨i, h⟩) * 131100 else 0) m := by
            refine cat_le es _ m fun i hi => ?_
            simp only [dif_pos hi]
            have : (es i).length + 2 ≤ cKV (K ⟨i, hi⟩) * 131100 := (ihK ⟨i, hi⟩ (lv - 1) (hfk ⟨i, hi⟩)).1 _ _ (he ⟨i, hi⟩)
            omega
          have hps : ∀ q, q ≤ m → psum (fun i => if h : i < m then cKV (K ⟨i, h⟩) * 131100 else 0) q + (if h : 0 < q ∧ 0 < m then cDV (K ⟨0, h.2⟩) * 131100 else 0) ≤ kcV K q * 131100 := by
            intro q
            induction q with
            | zero => intro _; simp [psum, kcV]
            | succ q ih =>
              intro hq
              have ih' := ih (by omega)
              have hks := kcV_succ K q (by omega)
              have hcp := cnt_parts (K ⟨q, by omega⟩)
              show psum _ q + (if h : q < m then cKV (K ⟨q, h⟩) * 131100 else 0) + _ ≤ _
              rw [hks, dif_pos (by omega), dif_pos ⟨by omega, by omega⟩, hcp]
              by_cases h0 : q = 0
              · subst h0
                simp only [psum, kcV]
                omega
              · rw [dif_pos ⟨by omega, by omega⟩] at ih'
                omega
          have hps' := hps m (Nat.le_refl _)
          by_cases h0 : 0 < m
          · rw [dif_pos ⟨h0, h0⟩] at hps'
            have := (ihK ⟨0, h0⟩ (lv - 1) (hfk ⟨0, h0⟩)).2.1 _ (hp1 h0).2
            omega
          · obtain ⟨_, rfl⟩ := hp0 (by omega)
            simp only [List.length_nil]
            omega
        omega
    have hds : ∀ b, (Wr (.mk k n s m K o d D)).ds b → b.length ≤ 1 + cDV (.mk k n s m K o d D) * 131100 := by
      intro b h
      show b.length ≤ 1 + kcV D d * 131100
      unfold Wr at h
      dsimp only at h
      rcases h with ⟨_, rfl⟩ | ⟨h0, x, hx, rfl⟩
      · simp
      · have h1 := (ihD ⟨0, h0⟩ (lv - 1) (hfd ⟨0, h0⟩).1).2.2 _ hx
        have h2 := kcV_le D 1 d (by omega)
        have h3 : kcV D 1 = cntV (D ⟨0, h0⟩) := by
          rw [show (1 : Nat) = 0 + 1 from rfl, kcV_succ D 0 h0]
          show 0 + _ = _
          rw [Nat.zero_add]
        rw [List.length_cons]
        omega
    refine ⟨hpc, hds, fun b h => ?_⟩
    rw [cnt_parts]
    have h' : ∃ pre c x, (Wr (.mk k n s m K o d D)).ds pre ∧ (Wr (.mk k n s m K o d D)).pc c x ∧ b = pre ++ c % 256 :: x := by
      unfold Wr at h ⊢
      exact h
    obtain ⟨pre, c, x, h1, h2, rfl⟩ := h'
    have := hds _ h1
    have := hpc _ _ h2
    rw [List.length_append, List.length_cons]
    omega
end Go.Proofs.YtbdgkikipekmlaaDoor

namespace Go.Proofs.YtbdgkikipekmlaaDoor
set_option linter.unusedVariables false
set_option linter.unusedSimpArgs false
open Go.RowKit

set_option maxRecDepth 100000 in
set_option maxHeartbeats 4000000 in
theorem putValue_of (w0 : World) (pf : Nat) (hpf : w0.heap.size ≤ pf) (k n : Int) (s : ByteArray) (m : Nat) (K : Fin m → Va) (o : Int) (d : Nat) (D : Fin d → Va) (v0 v1 v2 v3 v4 : Value) (B : Option Addr) (capB : Nat) (full lv : Int) (w : World) (hF : Fm w pf) (ht : VaP w0 (.mk k n s m K o d D) [v0, v1, v2, v3, v4, .slice B d capB]) (hw : Ch (Fro w0.heap.size) w0 w) (hfit : FitV (.mk k n s m K o d D) lv) (hcn : cntV (.mk k n s m K o d D) ≤ 2000)
    (hpc : ∀ W, Ch (Fro w0.heap.size) w0 W → Fm W pf → Calls Tryd.prog 69 #[.pointer (some ⟨pf, 0, none⟩), .agg #[v0, v1, v2, v3, v4, .slice B d capB]] W (PcF (Wr (.mk k n s m K o d D)).pc full pf W))
    (hds : ∀ (h : 0 < d) (u0 u1 u2 u3 u4 u5 : Value) (W : World), VaP w0 (D ⟨0, h⟩) [u0, u1, u2, u3, u4, u5] → Ch (Fro w0.heap.size) w0 W → Fm W pf → Calls Tryd.prog 44 #[.agg #[u0, u1, u2, u3, u4, u5], .pointer (some ⟨pf, 0, none⟩)] W (PvF (D ⟨0, h⟩) pf W)) :
    Calls Tryd.prog 44 #[.agg #[v0, v1, v2, v3, v4, .slice B d capB], .pointer (some ⟨pf, 0, none⟩)] w (PvF (.mk k n s m K o d D) pf w) := by
  have hB := Row.alloc w [v0, v1, v2, v3, v4, .slice B d capB] 25
  have hpl := hF.lt
  have C1 : Ch No w (w.alloc (.cells #[v0, v1, v2, v3, v4, .slice B d capB] 25)) := (Ch.refl No w).alloc _
  have hd1 : d ≤ 1 := hfit.2.2.2.2.2.2.1
  have hdl0 : ∀ c b, (Wr (.mk k n s m K o d D)).pc c b → b.length ≤ 262200000 := fun c b h => by
    have h1 := (wr_len (.mk k n s m K o d D) lv hfit).1 c b h
    have h2 := cnt_parts (.mk k n s m K o d D)
    omega
  have HDL := hid hdl0
  have HWL := hid (wr_len (.mk k n s m K o d D) lv hfit)
  have HCN := hid hcn
  have hcd : d = 0 ∨ (d = 1 ∧ ∀ h : 0 < d, cntV (D ⟨0, h⟩) ≤ 2000) := by
    by_cases h0 : d = 0
    · exact .inl h0
    · refine .inr ⟨by omega, fun h => ?_⟩
      have h1 := kcV_succ D 0 h
      have h2 := kcV_le D 1 d (by omega)
      have h3 := cnt_mk k n s m K o d D
      simp only [Nat.zero_add] at h1
      omega
  have HCD := hid hcd
  have HDS := hid hds
  have HPC := hid hpc
  clear hfit hcn hcd hds hpc hdl0
  have p0 := hB.cell 0 _ rfl
  have p1 := hB.cell 1 _ rfl
  have p2 := hB.cell 2 _ rfl
  have p3 := hB.cell 3 _ rfl
  have p4 := hB.cell 4 _ rfl
  have p5 := hB.cell 5 _ rfl
  rcases HCD.out with rfl | ⟨rfl, hcD⟩
  · go_enter Tryd.func44, Tryd.ntmps44
    go_wp2_with fail
    have hO1 : Ow 5 u8 (w.alloc (.cells #[v0, v1, v2, v3, v4, .slice B 0 capB] 25)) (.slice none 0 0) [] := Ow.nil _ _ _
    have hFo : Fr w (.slice none 0 0) := Fr.nil _ _ _
    have hF1 := hF.keep0 C1
    have hC1 := Ch.of_no (T := fun b => b = pf) C1
    have hpre : (([] : List Int)).length ≤ 300000000 := (by simp)
    have hwW := hw.trans hC1 (fun _ h => h) (fun k hk => .inl (by subst hk; exact hpf))
    refine (HPC.out _ hwW hF1).mono ?_
    rintro e w2 ⟨vl, xs, rfl, hmay, hxl, ⟨x0, hx0, _⟩, hF2, hch2⟩
    have hxp : 0 < xs.length := by cases xs with | nil => cases hx0 | cons a b => simp
    have hO2 := hO1.keep hch2 (fun b hb h => by have := hFo b hb; have h9 : b = pf := h; omega)
    have C2 : Ch (fun b => b = pf) w w2 := hC1.trans hch2 (fun _ h => h) (fun _ h => .inl h)
    obtain ⟨Al, cl, rfl⟩ := hmay.slice
    go_wp2_with fail
    refine (pick_calls pf xs.length w2 hF2 (by omega)).mono ?_
    rintro e w3 ⟨q, hq, rfl, hF3, hch3⟩
    have hqx : q < xs.length := by omega
    have hpW : pf < (w.alloc (.cells #[v0, v1, v2, v3, v4, .slice B 0 capB] 25)).heap.size := Fm.lt hF1
    have hmay3 := hmay.keep hch3 (fun b hb => by have h9 : b = pf := hb; omega)
    have hO3 := hO2.keep hch3 (fun b hb h => by have := hFo b hb; have h9 : b = pf := h; omega)
    have C3 : Ch (fun b => b = pf) w w3 := C2.trans hch3 (fun _ h => h) (fun _ h => .inl h)
    obtain ⟨gb, dd, rfl, hg0, hg1, hPd, hBy, hFrd⟩ := hmay3.get q hqx
    obtain ⟨⟨code, Ac, nc, cc⟩, hxq⟩ : ∃ y, xs[q] = y := ⟨_, rfl⟩
    rw [hxq] at hg0 hg1 hPd hBy hFrd
    replace hg1 : w3.cell? ⟨gb, q * 2 + 1, none⟩ = some (.slice Ac nc cc) := hg1
    obtain ⟨Ac', cc', he, hdc, hrd, _⟩ := hBy
    replace he : Value.slice Ac nc cc = .slice Ac' dd.length cc' := he
    injection he with he1 he2 he3
    subst he1; subst he2; subst he3
    have hqi : (q : Int) < xs.length := by omega
    have hqi0 : (0 : Int) ≤ q := by omega
    have hdl : dd.length ≤ 262200000 := HDL.out _ _ hPd
    have HPD := hid hPd
    obtain ⟨M, hM⟩ : ∃ M, xs.length = M := ⟨_, rfl⟩
    rw [hM] at hqi ⊢
    clear hM hxl hq hPd hmay hmay3
    have hsw3 := C3.size
    obtain ⟨cb, hcb⟩ : ∃ cb, code % 256 = cb := ⟨_, rfl⟩
    have hcw : IntKind.u8.wrap code = cb := by rw [← hcb]; simp [IntKind.wrap, IntKind.bits, IntKind.signed]
    have HCB := hid hcb
    clear hcb
    have R4 := Row.alloc w3 [.int .i64 code, .slice Ac dd.length cc] 116
    have AL4 := (Ch.refl No w3).alloc (.cells #[.int .i64 code, .slice Ac dd.length cc] 116)
    have hs4 : (w3.alloc (.cells #[.int .i64 code, .slice Ac dd.length cc] 116)).drew.heap.size = w3.heap.size + 1 := by simp
    have e0 := (R4.keep0 (Ch.refl No _).drew).cell 0 _ rfl
    have e1 := (R4.keep0 (Ch.refl No _).drew).cell 1 _ rfl
    have AL5 := (Ch.refl No (w3.alloc (.cells #[.int .i64 code, .slice Ac dd.length cc] 116)).drew).alloc (.cells #[.int .u8 cb] 5)
    have m0 := AL5.cell0 e0
    have m1 := AL5.cell0 e1
    have ROW : Rd Go.Proofs.YtbdgkikipekmlaaDoor.u8 ((w3.alloc (.cells #[.int .i64 code, .slice Ac dd.length cc] 116)).drew.alloc (.cells #[.int .u8 cb] 5)) (some ⟨w3.heap.size + 1, 0, none⟩) [cb] := by
      have h := Row.one (w3.alloc (.cells #[.int .i64 code, .slice Ac dd.length cc] 116)).drew cb
      rwa [hs4] at h
    have hO5 := ((hO3.keep0 AL4).keep0 (Ch.refl No _).drew).keep0 AL5
    have hR5 := ((hrd.keep0 AL4).keep0 (Ch.refl No _).drew).keep0 AL5
    have NB3 : ∀ b, Blk (.slice none 0 0) b → b < w3.heap.size := hO3.blk_lt
    have NBD : ∀ ad, Ac = some ad → ¬ Blk (.slice none 0 0) ad.block := fun ad h hb => by
      have h1 := hFrd ad.block (by subst h; rfl)
      have h2 := hO1.blk_lt _ hb
      omega
    have hl1 : ((([] : List Int)).length + 1) * 1 ≤ 140737488355328 := by have := hpre; (try simp only [List.length_nil]); omega
    have hl2 : (((([] : List Int)) ++ [cb]).length + dd.length) * 1 ≤ 140737488355328 := by have := hpre; rw [List.length_append]; simp only [List.length_cons, List.length_nil]; omega
    have hsz5 : ((w3.alloc (.cells #[.int .i64 code, .slice Ac dd.length cc] 116)).drew.alloc (.cells #[.int .u8 cb] 5)).heap.size = w3.heap.size + 1 + 1 := by simp
    go_wp2_with fail
    go_region_held3 (fun wz => wz.cell? ⟨w3.heap.size, 0, none⟩ = some (.int .i64 code) ∧ wz.cell? ⟨w3.heap.size, 1, none⟩ = some (.slice Ac dd.length cc)) (first | exact ⟨e0, e1⟩ | exact ⟨m0, m1⟩ | exact ⟨n0, n1⟩ | exact ⟨r0, r1⟩) (first | (refine step_append rfl (.tmp 30) (.tmp 34) 26 5 (.int .u8 0) 1 rfl Tryd.underlying26 info_u8 rfl (by decide) Go.Proofs.YtbdgkikipekmlaaDoor.u8 (fun _ => rfl) (.slice none 0 0) ([] : List Int) [cb] _ _ _ rfl rfl rfl hO5 ROW hl1 ?_; intro v6 w6 ho6 hch6 hat6; have n0 := Ch.cell hch6 m0 (fun h => by have := NB3 _ h; simp only at this; omega); have n1 := Ch.cell hch6 m1 (fun h => by have := NB3 _ h; simp only at this; omega); have hR6 := hR5.keep hch6 NBD; have hat6' : ∀ k, Blk v6 k → Blk (.slice none 0 0) k ∨ w3.heap.size + 1 + 1 ≤ k := fun k h => (hat6 k h).imp_right (fun h => by rw [← hsz5]; exact h)) | (refine step_append rfl (.tmp 35) (.tmp 37) 26 5 (.int .u8 0) 1 rfl Tryd.underlying26 info_u8 rfl (by decide) Go.Proofs.YtbdgkikipekmlaaDoor.u8 (fun _ => rfl) v6 (([] : List Int) ++ [cb]) dd _ _ _ rfl rfl rfl ho6 hR6 hl2 ?_; intro v7 w7 ho7 hch7 hat7; have r0 := Ch.cell hch7 n0 (fun h => by rcases hat6' _ h with h | h; (have := NB3 _ h; simp only at this; omega); (simp only at h; omega)); have r1 := Ch.cell hch7 n1 (fun h => by rcases hat6' _ h with h | h; (have := NB3 _ h; simp only at this; omega); (simp only at h; omega))))
    have F6 : Fr w v6 := fun b hb => (hat6' b hb).elim (fun h => hFo b h) (fun h => by omega)
    have hch6' : Ch (Blk (.slice none 0 0)) ((w3.alloc (.cells #[.int .i64 code, .slice Ac dd.length cc] 116)).drew.alloc (.cells #[.int .u8 cb] 5)) w6 := hch6
    have hsw6 : w.heap.size ≤ w6.heap.size := by have := hch6'.size; rw [hsz5] at this; omega
    have C5 : Ch (fun b => b = pf) w ((w3.alloc (.cells #[.int .i64 code, .slice Ac dd.length cc] 116)).drew.alloc (.cells #[.int .u8 cb] 5)) := ((C3.alloc _).drew).alloc _
    have C6 : Ch (fun b => b = pf) w w6 := C5.trans hch6' (fun _ h => h) (fun b hb => .inr (hFo b hb))
    have C7 : Ch (fun b => b = pf) w w7 := C6.trans hch7 (fun _ h => h) (fun b hb => .inr (F6 b hb))
    have hF7 : Fm w7 pf := (((((hF3.keep0 AL4).keep0 (Ch.refl No _).drew).keep0 AL5).keep hch6' (fun h => by have := hFo _ h; omega))).keep hch7 (fun h => by have := F6 _ h; omega)
    go_wp2_with fail
    go_ret
    have hpv : (Wr (.mk k n s m K o 0 D)).pv (([] : List Int) ++ [cb] ++ dd) := by
      unfold Wr
      refine ⟨([] : List Int), code, dd, ?_, ?_, by rw [HCB.out]; simp⟩
      · have h := (show (Wr (.mk k n s m K o 0 D)).ds [] from by unfold Wr; exact .inl ⟨rfl, rfl⟩)
        unfold Wr at h
        exact h
      · have h := HPD.out
        unfold Wr at h
        exact h
    exact ⟨v7, _, rfl, hpv, HWL.out.2.2 _ hpv, ho7, F6.step hsw6 hat7, hF7, C7⟩
  · have hwC1 := (hw.trans (Ch.of_no (T := fun b => b = pf) C1) (fun _ h => h) (fun k hk => .inl (by subst hk; exact hpf)))
    obtain ⟨b1, o1, u0, u1, u2, u3, u4, u5, rfl, htk, a0, a1, a2, a3, a4, a5⟩ := ht.desc (w := (w.alloc (.cells #[v0, v1, v2, v3, v4, .slice B 1 capB] 25))) hwC1 0 (by omega)
    simp only [Nat.zero_mul, Nat.add_zero] at a0 a1 a2 a3 a4 a5
    have AL2 := (Ch.refl No (w.alloc (.cells #[v0, v1, v2, v3, v4, .slice (some ⟨b1, o1, none⟩) 1 capB] 25))).alloc (.cells #[.int .u8 0] 5)
    have x0 := AL2.cell0 a0
    have y0 := AL2.cell0 p0
    have x1 := AL2.cell0 a1
    have y1 := AL2.cell0 p1
    have x2 := AL2.cell0 a2
    have y2 := AL2.cell0 p2
    have x3 := AL2.cell0 a3
    have y3 := AL2.cell0 p3
    have x4 := AL2.cell0 a4
    have y4 := AL2.cell0 p4
    have x5 := AL2.cell0 a5
    have y5 := AL2.cell0 p5
    have C2' := C1.no_no AL2
    have hlit : Ow 5 u8 ((w.alloc (.cells #[v0, v1, v2, v3, v4, .slice (some ⟨b1, o1, none⟩) 1 capB] 25)).alloc (.cells #[.int .u8 0] 5)) (.slice (some ⟨w.heap.size + 1, 0, none⟩) 1 1) [0] := by
      have h := Ow.lit 5 u8 (w.alloc (.cells #[v0, v1, v2, v3, v4, .slice (some ⟨b1, o1, none⟩) 1 capB] 25)) [0] (by simp [maxLen])
      rwa [World.size_alloc] at h
    have hwW2 := hwC1.then_no AL2
    go_enter Tryd.func44, Tryd.ntmps44
    go_wp2_with fail
    refine (HDS.out (by omega) u0 u1 u2 u3 u4 u5 _ htk hwW2 (hF.keep0 C2')).mono ?_
    rintro e w3' ⟨v3', xd, rfl, hPx, hlx, hox, hfx, hFx, hchx⟩
    have hxb : xd.length ≤ 262200000 := by have := hcD (by omega); omega
    obtain ⟨Ax, cx, rfl, _, _⟩ := hox.slice
    have hlit3 := hlit.keep hchx (fun b hb h => by have := Blk_slice.1 hb; have h9 : b = pf := h; omega)
    have hB3 := (hB.keep0 AL2).keep hchx (fun h => by have h9 : w.heap.size = pf := h; omega)
    have HPX := hid hPx
    clear hPx hlx
    go_wp2_with ((with_reducible refine gate (.call { callee := .builtin .append, args := #[.tmp _, .tmp _], argTypes := #[26, 26] }) rfl ?_); refine wp_append rfl _ _ 26 5 (.int .u8 0) 1 rfl Tryd.underlying26 info_u8 rfl (by decide) Go.Proofs.YtbdgkikipekmlaaDoor.u8 (fun _ => rfl) (.slice (some ⟨w.heap.size + 1, 0, none⟩) 1 1) [0] xd _ _ _ rfl rfl rfl hlit3 hox.rd (by simp; omega) ?_; intro vo w4 ho4 hch4 hat4; have hB4 := hB3.keep hch4 (fun h => by have := Blk_slice.1 h; omega); have z0 := hB4.cell 0 _ rfl; have z1 := hB4.cell 1 _ rfl; have z2 := hB4.cell 2 _ rfl; have z3 := hB4.cell 3 _ rfl; have z4 := hB4.cell 4 _ rfl; have z5 := hB4.cell 5 _ rfl)
    have F4 : Fr w vo := fun b hb => (hat4 b hb).elim (fun h => by have := Blk_slice.1 h; omega) (fun h => by have := hchx.size; have := C2'.size; omega)
    have hC4 : Ch (fun b => b = pf) w w4 := ((Ch.of_no (T := fun b => b = pf) C2').trans hchx (fun _ h => h) (fun _ h => .inl h)).trans hch4 (fun _ h => h) (fun b hb => .inr (by have := Blk_slice.1 hb; omega))
    have hF4 : Fm w4 pf := hFx.keep hch4 (fun h => by have := Blk_slice.1 h; omega)
    obtain ⟨pr, hpr⟩ : ∃ pr, ([0] : List Int) ++ xd = pr := ⟨_, rfl⟩
    have hprl : pr.length ≤ 300000000 := by rw [← hpr, List.length_append]; simp only [List.length_cons, List.length_nil]; omega
    rw [hpr] at ho4
    have HPR := hid hpr
    clear hpr hlit hlit3 hox
    obtain ⟨Ao, co, rfl, _, _⟩ := ho4.slice
    have hpre : (pr).length ≤ 300000000 := hprl
    have hwW := hw.trans hC4 (fun _ h => h) (fun k hk => .inl (by subst hk; exact hpf))
    refine (HPC.out _ hwW hF4).mono ?_
    rintro e w2 ⟨vl, xs, rfl, hmay, hxl, ⟨x0, hx0, _⟩, hF2, hch2⟩
    have hxp : 0 < xs.length := by cases xs with | nil => cases hx0 | cons a b => simp
    have hO2 := ho4.keep hch2 (fun b hb h => by have := F4 b hb; have h9 : b = pf := h; omega)
    have C2 : Ch (fun b => b = pf) w w2 := hC4.trans hch2 (fun _ h => h) (fun _ h => .inl h)
    obtain ⟨Al, cl, rfl⟩ := hmay.slice
    go_wp2_with fail
    refine (pick_calls pf xs.length w2 hF2 (by omega)).mono ?_
    rintro e w3 ⟨q, hq, rfl, hF3, hch3⟩
    have hqx : q < xs.length := by omega
    have hpW : pf < w4.heap.size := Fm.lt hF4
    have hmay3 := hmay.keep hch3 (fun b hb => by have h9 : b = pf := hb; omega)
    have hO3 := hO2.keep hch3 (fun b hb h => by have := F4 b hb; have h9 : b = pf := h; omega)
    have C3 : Ch (fun b => b = pf) w w3 := C2.trans hch3 (fun _ h => h) (fun _ h => .inl h)
    obtain ⟨gb, dd, rfl, hg0, hg1, hPd, hBy, hFrd⟩ := hmay3.get q hqx
    obtain ⟨⟨code, Ac, nc, cc⟩, hxq⟩ : ∃ y, xs[q] = y := ⟨_, rfl⟩
    rw [hxq] at hg0 hg1 hPd hBy hFrd
    replace hg1 : w3.cell? ⟨gb, q * 2 + 1, none⟩ = some (.slice Ac nc cc) := hg1
    obtain ⟨Ac', cc', he, hdc, hrd, _⟩ := hBy
    replace he : Value.slice Ac nc cc = .slice Ac' dd.length cc' := he
    injection he with he1 he2 he3
    subst he1; subst he2; subst he3
    have hqi : (q : Int) < xs.length := by omega
    have hqi0 : (0 : Int) ≤ q := by omega
    have hdl : dd.length ≤ 262200000 := HDL.out _ _ hPd
    have HPD := hid hPd
    obtain ⟨M, hM⟩ : ∃ M, xs.length = M := ⟨_, rfl⟩
    rw [hM] at hqi ⊢
    clear hM hxl hq hPd hmay hmay3
    have hsw3 := C3.size
    obtain ⟨cb, hcb⟩ : ∃ cb, code % 256 = cb := ⟨_, rfl⟩
    have hcw : IntKind.u8.wrap code = cb := by rw [← hcb]; simp [IntKind.wrap, IntKind.bits, IntKind.signed]
    have HCB := hid hcb
    clear hcb
    have R4 := Row.alloc w3 [.int .i64 code, .slice Ac dd.length cc] 116
    have AL4 := (Ch.refl No w3).alloc (.cells #[.int .i64 code, .slice Ac dd.length cc] 116)
    have hs4 : (w3.alloc (.cells #[.int .i64 code, .slice Ac dd.length cc] 116)).drew.heap.size = w3.heap.size + 1 := by simp
    have e0 := (R4.keep0 (Ch.refl No _).drew).cell 0 _ rfl
    have e1 := (R4.keep0 (Ch.refl No _).drew).cell 1 _ rfl
    have AL5 := (Ch.refl No (w3.alloc (.cells #[.int .i64 code, .slice Ac dd.length cc] 116)).drew).alloc (.cells #[.int .u8 cb] 5)
    have m0 := AL5.cell0 e0
    have m1 := AL5.cell0 e1
    have ROW : Rd Go.Proofs.YtbdgkikipekmlaaDoor.u8 ((w3.alloc (.cells #[.int .i64 code, .slice Ac dd.length cc] 116)).drew.alloc (.cells #[.int .u8 cb] 5)) (some ⟨w3.heap.size + 1, 0, none⟩) [cb] := by
      have h := Row.one (w3.alloc (.cells #[.int .i64 code, .slice Ac dd.length cc] 116)).drew cb
      rwa [hs4] at h
    have hO5 := ((hO3.keep0 AL4).keep0 (Ch.refl No _).drew).keep0 AL5
    have hR5 := ((hrd.keep0 AL4).keep0 (Ch.refl No _).drew).keep0 AL5
    have NB3 : ∀ b, Blk (.slice Ao pr.length co) b → b < w3.heap.size := hO3.blk_lt
    have NBD : ∀ ad, Ac = some ad → ¬ Blk (.slice Ao pr.length co) ad.block := fun ad h hb => by
      have h1 := hFrd ad.block (by subst h; rfl)
      have h2 := ho4.blk_lt _ hb
      omega
    have hl1 : ((pr).length + 1) * 1 ≤ 140737488355328 := by have := hpre; (try simp only [List.length_nil]); omega
    have hl2 : (((pr) ++ [cb]).length + dd.length) * 1 ≤ 140737488355328 := by have := hpre; rw [List.length_append]; simp only [List.length_cons, List.length_nil]; omega
    have hsz5 : ((w3.alloc (.cells #[.int .i64 code, .slice Ac dd.length cc] 116)).drew.alloc (.cells #[.int .u8 cb] 5)).heap.size = w3.heap.size + 1 + 1 := by simp
    go_wp2_with fail
    go_region_held3 (fun wz => wz.cell? ⟨w3.heap.size, 0, none⟩ = some (.int .i64 code) ∧ wz.cell? ⟨w3.heap.size, 1, none⟩ = some (.slice Ac dd.length cc)) (first | exact ⟨e0, e1⟩ | exact ⟨m0, m1⟩ | exact ⟨n0, n1⟩ | exact ⟨r0, r1⟩) (first | (refine step_append rfl (.tmp 30) (.tmp 34) 26 5 (.int .u8 0) 1 rfl Tryd.underlying26 info_u8 rfl (by decide) Go.Proofs.YtbdgkikipekmlaaDoor.u8 (fun _ => rfl) (.slice Ao pr.length co) pr [cb] _ _ _ rfl rfl rfl hO5 ROW hl1 ?_; intro v6 w6 ho6 hch6 hat6; have n0 := Ch.cell hch6 m0 (fun h => by have := NB3 _ h; simp only at this; omega); have n1 := Ch.cell hch6 m1 (fun h => by have := NB3 _ h; simp only at this; omega); have hR6 := hR5.keep hch6 NBD; have hat6' : ∀ k, Blk v6 k → Blk (.slice Ao pr.length co) k ∨ w3.heap.size + 1 + 1 ≤ k := fun k h => (hat6 k h).imp_right (fun h => by rw [← hsz5]; exact h)) | (refine step_append rfl (.tmp 35) (.tmp 37) 26 5 (.int .u8 0) 1 rfl Tryd.underlying26 info_u8 rfl (by decide) Go.Proofs.YtbdgkikipekmlaaDoor.u8 (fun _ => rfl) v6 (pr ++ [cb]) dd _ _ _ rfl rfl rfl ho6 hR6 hl2 ?_; intro v7 w7 ho7 hch7 hat7; have r0 := Ch.cell hch7 n0 (fun h => by rcases hat6' _ h with h | h; (have := NB3 _ h; simp only at this; omega); (simp only at h; omega)); have r1 := Ch.cell hch7 n1 (fun h => by rcases hat6' _ h with h | h; (have := NB3 _ h; simp only at this; omega); (simp only at h; omega))))
    have F6 : Fr w v6 := fun b hb => (hat6' b hb).elim (fun h => F4 b h) (fun h => by omega)
    have hch6' : Ch (Blk (.slice Ao pr.length co)) ((w3.alloc (.cells #[.int .i64 code, .slice Ac dd.length cc] 116)).drew.alloc (.cells #[.int .u8 cb] 5)) w6 := hch6
    have hsw6 : w.heap.size ≤ w6.heap.size := by have := hch6'.size; rw [hsz5] at this; omega
    have C5 : Ch (fun b => b = pf) w ((w3.alloc (.cells #[.int .i64 code, .slice Ac dd.length cc] 116)).drew.alloc (.cells #[.int .u8 cb] 5)) := ((C3.alloc _).drew).alloc _
    have C6 : Ch (fun b => b = pf) w w6 := C5.trans hch6' (fun _ h => h) (fun b hb => .inr (F4 b hb))
    have C7 : Ch (fun b => b = pf) w w7 := C6.trans hch7 (fun _ h => h) (fun b hb => .inr (F6 b hb))
    have hF7 : Fm w7 pf := (((((hF3.keep0 AL4).keep0 (Ch.refl No _).drew).keep0 AL5).keep hch6' (fun h => by have := F4 _ h; omega))).keep hch7 (fun h => by have := F6 _ h; omega)
    go_wp2_with fail
    go_ret
    have hpv : (Wr (.mk k n s m K o 1 D)).pv (pr ++ [cb] ++ dd) := by
      unfold Wr
      refine ⟨pr, code, dd, ?_, ?_, by rw [HCB.out]; simp⟩
      · have h := (show (Wr (.mk k n s m K o 1 D)).ds pr from by unfold Wr; exact .inr ⟨by omega, xd, HPX.out, HPR.out.symm⟩)
        unfold Wr at h
        exact h
      · have h := HPD.out
        unfold Wr at h
        exact h
    exact ⟨v7, _, rfl, hpv, HWL.out.2.2 _ hpv, ho7, F6.step hsw6 hat7, hF7, C7⟩

end Go.Proofs.YtbdgkikipekmlaaDoor
