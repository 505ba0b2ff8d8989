/- The walk of the reference's writer of values, whole. No condition. -/
import Derived.Test.YtooifcdkpddlmaaDoorPutP
import Derived.OpenShut
namespace Go.Proofs.YtooifcdkpddlmaaDoor
set_option linter.unusedVariables false
set_option linter.unusedSimpArgs false
open Go.RowKit

theorem cat_same (f g : Nat → List Int) : ∀ i, (∀ j, j < i → f j = g j) → cat f i = cat g i
  | 0, _ => rfl
  | i + 1, h => by
    unfold cat
    rw [cat_same f g i (fun j hj => h j (by omega)), h i (by omega)]
theorem cat_set (ds : Nat → List Int) (i : Nat) (d : List Int) : cat (fun j => if j = i then d else ds j) (i + 1) = cat ds i ++ d := by
  show cat _ i ++ (if i = i then d else ds i) = _
  rw [if_pos rfl, cat_same _ ds i (fun j hj => if_neg (by omega))]
/-- A sum to i, of the kids' counts. -/
def kc {m : Nat} (K : Fin m → Pk) (i : Nat) : Nat := psum (fun i => if h : i < m then cnt (K ⟨i, h⟩) else 0) i
theorem kc_succ {m : Nat} (K : Fin m → Pk) (i : Nat) (hi : i < m) : kc K (i + 1) = kc K i + cnt (K ⟨i, hi⟩) := by
  simp only [kc, psum, dif_pos hi]
theorem kc_le {m : Nat} (K : Fin m → Pk) {i n : Nat} (h : i ≤ n) : kc K i ≤ kc K n := psum_le _ h
theorem cnt_kc (k n x : Int) (s : ByteArray) (m : Nat) (K : Fin m → Pk) : cnt (.mk k n s x m K) = 1 + kc K m := by unfold cnt kc; rfl
set_option maxRecDepth 100000 in
set_option maxHeartbeats 4000000 in
theorem put_8 (w0 : World) (pf : Nat) (hpf : w0.heap.size ≤ pf) (n x : Int) (s : ByteArray) (m : Nat) (K : Fin m → Pk) (A : Option Addr) (cap : Nat) (w : World) (hF : Fm w pf) (ht : TrP w0 (.mk 8 n s x m K) [.int .i64 8, .int .u64 n, .string s, .int .i64 x, .slice A m cap]) (hw : Ch (Fro w0.heap.size) w0 w) (hm : m ≤ 2000) (hcn : cnt (.mk 8 n s x m K) ≤ 2000)
    (ih : ∀ (i : Nat) (h : i < m) (v0 v1 v2 v3 v4 : Value) (w : World), TrP w0 (K ⟨i, h⟩) [v0, v1, v2, v3, v4] → Ch (Fro w0.heap.size) w0 w → Fm w pf → cnt (K ⟨i, h⟩) ≤ 2000 → Calls Tryd.prog 27 #[.agg #[v0, v1, v2, v3, v4], .pointer (some ⟨pf, 0, none⟩)] w (PpTo (K ⟨i, h⟩) pf w)) :
    Calls Tryd.prog 27 #[.agg #[.int .i64 8, .int .u64 n, .string s, .int .i64 x, .slice A m cap], .pointer (some ⟨pf, 0, none⟩)] w (PpTo (.mk 8 n s x m K) pf w) := by
  have hB := Row.alloc w [.int .i64 8, .int .u64 n, .string s, .int .i64 x, .slice A m cap] 35
  have q0 := hB.cell 0 _ rfl
  have q1 := hB.cell 1 _ rfl
  have q2 := hB.cell 2 _ rfl
  have q3 := hB.cell 3 _ rfl
  have q4 := hB.cell 4 _ rfl
  have hpl := hF.lt
  have C1 : Ch No w (w.alloc (.cells #[.int .i64 8, .int .u64 n, .string s, .int .i64 x, .slice A m cap] 35)) := (Ch.refl No w).alloc _
  have hput : ∀ w1, Ch No w w1 → RdK fmc w1 (some ⟨w.heap.size + 1, 0, none⟩) [((220 : Int), (2 : Nat)), (221, 4)] → Calls Tryd.prog 19 #[.pointer (some ⟨pf, 0, none⟩), .int .i64 (m : Int), .int .i64 144, .int .i64 16, .slice (some ⟨w.heap.size + 1, 0, none⟩) 2 2] w1 (HdTo pf (144) 16 [((220 : Int), (2 : Nat)), (221, 4)] (m : Int) w1) := fun w1 hch hrk =>
    putHead_calls pf (m : Int) (144) 16 _ 2 [((220 : Int), (2 : Nat)), (221, 4)] w1 (hF.keep0 hch) hrk (fun ad h => by injection h with h; subst h; intro h; simp at h; omega) (by simp) (by simp) (by simp) (by omega) (by omega) ⟨(221, 4), by simp, okf_last (m : Int) 221 (by omega) (by omega)⟩ (by simp)
  have HPUT := hid hput
  have hcm := cnt_kc 8 n x s m K
  have HCM := hid hcm
  have hcn2 : 1 + kc K m ≤ 2000 := by omega
  have HCN := hid hcn2
  clear hput hcm hcn hcn2
  go_enter Tryd.func27, Tryd.ntmps27
  go_wp2_with fail
  refine (HPUT.out _ (C1.alloc _) (RdK.lit2 w _ 62 [((220 : Int), (2 : Nat)), (221, 4)])).mono ?_
  rintro e w1 ⟨v1, hd, rfl, hhd, ho1, hf1, hF1, hch1⟩
  have hl1 := hhd.len (by simp)
  skip
  have hfw : Fr w v1 := hf1.weak (C1.alloc _).size
  have C2 := (C1.alloc (.cells ([((220 : Int), (2 : Nat)), (221, 4)].flatMap fmc).toArray 62)).no_then hch1
  have hB1 : Row w1 w.heap.size 35 [.int .i64 8, .int .u64 n, .string s, .int .i64 x, .slice A m cap] := (hB.keep0 ((Ch.refl No _).alloc _)).keep hch1 (fun h => by have h9 : w.heap.size = pf := h; omega)
  have r0 : w1.cell? ⟨w.heap.size, 0, none⟩ = _ := hB1.cell 0 _ rfl
  have r1 : w1.cell? ⟨w.heap.size, 1, none⟩ = _ := hB1.cell 1 _ rfl
  have r2 : w1.cell? ⟨w.heap.size, 2, none⟩ = _ := hB1.cell 2 _ rfl
  have r3 : w1.cell? ⟨w.heap.size, 3, none⟩ = _ := hB1.cell 3 _ rfl
  have r4 : w1.cell? ⟨w.heap.size, 4, none⟩ = _ := hB1.cell 4 _ rfl
  go_wp2_with fail
  go_loopg [5, 106] m (fun kk s5 s106 wr => ∃ (i : Nat) (ds : Nat → List Int) (o5 : List Int), kk + i = m ∧ s106 = .int .i64 i ∧ Hid (o5 = hd ++ cat ds i) ∧ Hid (∀ j (h : j < m), j < i → PutD (K ⟨j, h⟩) (ds j)) ∧ o5.length ≤ (1 + kc K i) * 131100 ∧ Ow 5 Go.Proofs.YtooifcdkpddlmaaDoor.u8 wr s5 o5 ∧ Fr w s5 ∧ Fm wr pf ∧ Ch (fun b => b = pf) w wr)
  case atStart => exact ⟨0, fun _ => [], hd, by omega, rfl, hid (by simp [cat]), hid (fun j _ h => by omega), by omega, ho1, hfw, hF1, C2⟩
  case round =>
    obtain ⟨i, ds, o5, hki, rfl, HO5, HALL, hol, HO, hfo, hFr, hch⟩ := hrel
    obtain ⟨A5, c5, rfl, _, _⟩ := HO.slice
    by_cases hi : i < m
    · obtain ⟨b1, o1, u0, u1, u2, u3, u4, rfl, htk, a0, a1, a2, a3, a4⟩ := ht.kid (w := wr) (hw.trans hch (fun _ h => h) (fun k hk => .inl (by subst hk; exact hpf))) i hi
      have hi' : (i : Int) < m := by omega
      have hi0 : (0 : Int) ≤ i := by omega
      have hks := kc_succ K i hi
      have hkl := kc_le K (show i + 1 ≤ m by omega)
      have hcn := HCN.out
      have HKS := hid hks
      have hol2 : o5.length ≤ 131100 * 2000 := by omega
      have HCK : Hid (cnt (K ⟨i, hi⟩) ≤ 2000) := hid (by omega)
      clear hks hkl hcn
      go_wp2_with (first | ((with_reducible refine gate (.store 35 (.tmp 7) _) rfl ?_); refine wp_store rfl rfl 35 _ _ rfl wr.heap.size 0 35 ZL (.agg #[u0, u1, u2, u3, u4]) rfl rfl [u0, u1, u2, u3, u4] rfl size_pk htk.one (Row.alloc wr ZL 35) (by simp) ?_; intro w2 hrow2 hch2; have q0 : w2.cell? ⟨wr.heap.size, 0, none⟩ = some u0 := hrow2.cell 0 _ rfl; have q1 : w2.cell? ⟨wr.heap.size, 1, none⟩ = some u1 := hrow2.cell 1 _ rfl; have q2 : w2.cell? ⟨wr.heap.size, 2, none⟩ = some u2 := hrow2.cell 2 _ rfl; have q3 : w2.cell? ⟨wr.heap.size, 3, none⟩ = some u3 := hrow2.cell 3 _ rfl; have q4 : w2.cell? ⟨wr.heap.size, 4, none⟩ = some u4 := hrow2.cell 4 _ rfl))
      have C3 : Ch No wr w2 := ((Ch.refl No wr).alloc _).freshg hch2 (Nat.le_refl _)
      refine (ih i hi u0 u1 u2 u3 u4 w2 htk ((hw.trans hch (fun _ h => h) (fun k hk => .inl (by subst hk; exact hpf))).then_no C3) (hFr.keep0 C3) HCK.out).mono ?_
      rintro e w3 ⟨v3, d3, rfl, hP3, hl3, ho3, hf3, hF3, hch3⟩
      obtain ⟨A3, c3, rfl, _, _⟩ := ho3.slice
      have HO3 := (HO.keep0 C3).keep hch3 (fun b hb h => by have := hfo b hb; have h9 : b = pf := h; omega)
      have C4 : Ch (fun b => b = pf) w w3 := (hch.then_no C3).trans hch3 (fun _ h => h) (fun _ h => .inl h)
      have HL3 := hid hl3
      have hl4 : d3.length ≤ 131100 * 2000 := by have := HCK.out; omega
      clear hl3
      go_wp2_with (first | ((with_reducible refine gate (.call { callee := .builtin .append, args := #[.tmp _, .tmp _], argTypes := #[24, 24] }) rfl ?_); refine wp_append rfl _ _ 24 5 (.int .u8 0) 1 rfl Tryd.underlying24 info_u8 rfl (by decide) Go.Proofs.YtooifcdkpddlmaaDoor.u8 (fun _ => rfl) _ o5 d3 _ _ _ rfl rfl rfl HO3 ho3.rd (by omega) ?_; intro v4 w4 ho4 hch4 hat4))
      have hsz := C4.size
      go_roundg (gk - 1)
      case measure => omega
      case rel =>
        refine ⟨i + 1, fun j => if j = i then d3 else ds j, o5 ++ d3, by omega, by go_num, hid (by rw [HO5.out, cat_set, List.append_assoc]), hid (fun j h hj => ?_), by rw [List.length_append, HKS.out]; have := HL3.out; omega, ho4, hfo.step hsz hat4, hF3.keep hch4 (fun h => by have := hfo _ h; omega), C4.trans hch4 (fun _ h => h) (fun b hb => .inr (hfo b hb))⟩
        by_cases hji : j = i
        · subst hji
          simp only [if_pos]
          exact hP3
        · simp only [if_neg hji]
          exact HALL.out j h (by omega)
    · obtain rfl : i = m := by omega
      go_wp2_with fail
      go_ret
      have hall := HALL.out
      have h5 := HO5.out
      subst h5
      exact ⟨_, _, rfl, .inr (.inr (.inr (.inr (.inr (.inr (.inr (.inr (.inr (.inr (.inl ⟨rfl, hd, ds, hhd, rfl, fun j => hall j.val j.isLt j.isLt⟩)))))))))), by rw [HCM.out]; exact hol, HO, hfo, hFr, hch⟩
set_option maxRecDepth 100000 in
set_option maxHeartbeats 4000000 in
theorem put_9 (w0 : World) (pf : Nat) (hpf : w0.heap.size ≤ pf) (n x : Int) (s : ByteArray) (m : Nat) (K : Fin m → Pk) (A : Option Addr) (cap : Nat) (w : World) (hF : Fm w pf) (ht : TrP w0 (.mk 9 n s x m K) [.int .i64 9, .int .u64 n, .string s, .int .i64 x, .slice A m cap]) (hw : Ch (Fro w0.heap.size) w0 w) (hm : m ≤ 2000) (hcn : cnt (.mk 9 n s x m K) ≤ 2000)
    (ih : ∀ (i : Nat) (h : i < m) (v0 v1 v2 v3 v4 : Value) (w : World), TrP w0 (K ⟨i, h⟩) [v0, v1, v2, v3, v4] → Ch (Fro w0.heap.size) w0 w → Fm w pf → cnt (K ⟨i, h⟩) ≤ 2000 → Calls Tryd.prog 27 #[.agg #[v0, v1, v2, v3, v4], .pointer (some ⟨pf, 0, none⟩)] w (PpTo (K ⟨i, h⟩) pf w)) :
    Calls Tryd.prog 27 #[.agg #[.int .i64 9, .int .u64 n, .string s, .int .i64 x, .slice A m cap], .pointer (some ⟨pf, 0, none⟩)] w (PpTo (.mk 9 n s x m K) pf w) := by
  have hB := Row.alloc w [.int .i64 9, .int .u64 n, .string s, .int .i64 x, .slice A m cap] 35
  have q0 := hB.cell 0 _ rfl
  have q1 := hB.cell 1 _ rfl
  have q2 := hB.cell 2 _ rfl
  have q3 := hB.cell 3 _ rfl
  have q4 := hB.cell 4 _ rfl
  have hpl := hF.lt
  have C1 : Ch No w (w.alloc (.cells #[.int .i64 9, .int .u64 n, .string s, .int .i64 x, .slice A m cap] 35)) := (Ch.refl No w).alloc _
  have hput : ∀ w1, Ch No w w1 → RdK fmc w1 (some ⟨w.heap.size + 1, 0, none⟩) [((222 : Int), (2 : Nat)), (223, 4)] → Calls Tryd.prog 19 #[.pointer (some ⟨pf, 0, none⟩), .int .i64 ((m : Int) / 2), .int .i64 128, .int .i64 16, .slice (some ⟨w.heap.size + 1, 0, none⟩) 2 2] w1 (HdTo pf (128) 16 [((222 : Int), (2 : Nat)), (223, 4)] ((m : Int) / 2) w1) := fun w1 hch hrk =>
    putHead_calls pf ((m : Int) / 2) (128) 16 _ 2 [((222 : Int), (2 : Nat)), (223, 4)] w1 (hF.keep0 hch) hrk (fun ad h => by injection h with h; subst h; intro h; simp at h; omega) (by simp) (by simp) (by simp) (by omega) (by omega) ⟨(223, 4), by simp, okf_last ((m : Int) / 2) 223 (by omega) (by omega)⟩ (by simp)
  have HPUT := hid hput
  have hcm := cnt_kc 9 n x s m K
  have HCM := hid hcm
  have hcn2 : 1 + kc K m ≤ 2000 := by omega
  have HCN := hid hcn2
  clear hput hcm hcn hcn2
  go_enter Tryd.func27, Tryd.ntmps27
  go_wp2_with fail
  refine (HPUT.out _ (C1.alloc _) (RdK.lit2 w _ 62 [((222 : Int), (2 : Nat)), (223, 4)])).mono ?_
  rintro e w1 ⟨v1, hd, rfl, hhd, ho1, hf1, hF1, hch1⟩
  have hl1 := hhd.len (by simp)
  have HHD9 : Hid (HdB 128 16 [(222, 2), (223, 4)] ((m / 2 : Nat) : Int) hd) := hid (by rw [show ((m / 2 : Nat) : Int) = (m : Int) / 2 by omega]; exact hhd)
  have hfw : Fr w v1 := hf1.weak (C1.alloc _).size
  have C2 := (C1.alloc (.cells ([((222 : Int), (2 : Nat)), (223, 4)].flatMap fmc).toArray 62)).no_then hch1
  have hB1 : Row w1 w.heap.size 35 [.int .i64 9, .int .u64 n, .string s, .int .i64 x, .slice A m cap] := (hB.keep0 ((Ch.refl No _).alloc _)).keep hch1 (fun h => by have h9 : w.heap.size = pf := h; omega)
  have r0 : w1.cell? ⟨w.heap.size, 0, none⟩ = _ := hB1.cell 0 _ rfl
  have r1 : w1.cell? ⟨w.heap.size, 1, none⟩ = _ := hB1.cell 1 _ rfl
  have r2 : w1.cell? ⟨w.heap.size, 2, none⟩ = _ := hB1.cell 2 _ rfl
  have r3 : w1.cell? ⟨w.heap.size, 3, none⟩ = _ := hB1.cell 3 _ rfl
  have r4 : w1.cell? ⟨w.heap.size, 4, none⟩ = _ := hB1.cell 4 _ rfl
  go_wp2_with fail
  go_loopg [5, 106] m (fun kk s5 s106 wr => ∃ (i : Nat) (ds : Nat → List Int) (o5 : List Int), kk + i = m ∧ s106 = .int .i64 i ∧ Hid (o5 = hd ++ cat ds i) ∧ Hid (∀ j (h : j < m), j < i → PutD (K ⟨j, h⟩) (ds j)) ∧ o5.length ≤ (1 + kc K i) * 131100 ∧ Ow 5 Go.Proofs.YtooifcdkpddlmaaDoor.u8 wr s5 o5 ∧ Fr w s5 ∧ Fm wr pf ∧ Ch (fun b => b = pf) w wr)
  case atStart => exact ⟨0, fun _ => [], hd, by omega, rfl, hid (by simp [cat]), hid (fun j _ h => by omega), by omega, ho1, hfw, hF1, C2⟩
  case round =>
    obtain ⟨i, ds, o5, hki, rfl, HO5, HALL, hol, HO, hfo, hFr, hch⟩ := hrel
    obtain ⟨A5, c5, rfl, _, _⟩ := HO.slice
    by_cases hi : i < m
    · obtain ⟨b1, o1, u0, u1, u2, u3, u4, rfl, htk, a0, a1, a2, a3, a4⟩ := ht.kid (w := wr) (hw.trans hch (fun _ h => h) (fun k hk => .inl (by subst hk; exact hpf))) i hi
      have hi' : (i : Int) < m := by omega
      have hi0 : (0 : Int) ≤ i := by omega
      have hks := kc_succ K i hi
      have hkl := kc_le K (show i + 1 ≤ m by omega)
      have hcn := HCN.out
      have HKS := hid hks
      have hol2 : o5.length ≤ 131100 * 2000 := by omega
      have HCK : Hid (cnt (K ⟨i, hi⟩) ≤ 2000) := hid (by omega)
      clear hks hkl hcn
      go_wp2_with (first | ((with_reducible refine gate (.store 35 (.tmp 7) _) rfl ?_); refine wp_store rfl rfl 35 _ _ rfl wr.heap.size 0 35 ZL (.agg #[u0, u1, u2, u3, u4]) rfl rfl [u0, u1, u2, u3, u4] rfl size_pk htk.one (Row.alloc wr ZL 35) (by simp) ?_; intro w2 hrow2 hch2; have q0 : w2.cell? ⟨wr.heap.size, 0, none⟩ = some u0 := hrow2.cell 0 _ rfl; have q1 : w2.cell? ⟨wr.heap.size, 1, none⟩ = some u1 := hrow2.cell 1 _ rfl; have q2 : w2.cell? ⟨wr.heap.size, 2, none⟩ = some u2 := hrow2.cell 2 _ rfl; have q3 : w2.cell? ⟨wr.heap.size, 3, none⟩ = some u3 := hrow2.cell 3 _ rfl; have q4 : w2.cell? ⟨wr.heap.size, 4, none⟩ = some u4 := hrow2.cell 4 _ rfl))
      have C3 : Ch No wr w2 := ((Ch.refl No wr).alloc _).freshg hch2 (Nat.le_refl _)
      refine (ih i hi u0 u1 u2 u3 u4 w2 htk ((hw.trans hch (fun _ h => h) (fun k hk => .inl (by subst hk; exact hpf))).then_no C3) (hFr.keep0 C3) HCK.out).mono ?_
      rintro e w3 ⟨v3, d3, rfl, hP3, hl3, ho3, hf3, hF3, hch3⟩
      obtain ⟨A3, c3, rfl, _, _⟩ := ho3.slice
      have HO3 := (HO.keep0 C3).keep hch3 (fun b hb h => by have := hfo b hb; have h9 : b = pf := h; omega)
      have C4 : Ch (fun b => b = pf) w w3 := (hch.then_no C3).trans hch3 (fun _ h => h) (fun _ h => .inl h)
      have HL3 := hid hl3
      have hl4 : d3.length ≤ 131100 * 2000 := by have := HCK.out; omega
      clear hl3
      go_wp2_with (first | ((with_reducible refine gate (.call { callee := .builtin .append, args := #[.tmp _, .tmp _], argTypes := #[24, 24] }) rfl ?_); refine wp_append rfl _ _ 24 5 (.int .u8 0) 1 rfl Tryd.underlying24 info_u8 rfl (by decide) Go.Proofs.YtooifcdkpddlmaaDoor.u8 (fun _ => rfl) _ o5 d3 _ _ _ rfl rfl rfl HO3 ho3.rd (by omega) ?_; intro v4 w4 ho4 hch4 hat4))
      have hsz := C4.size
      go_roundg (gk - 1)
      case measure => omega
      case rel =>
        refine ⟨i + 1, fun j => if j = i then d3 else ds j, o5 ++ d3, by omega, by go_num, hid (by rw [HO5.out, cat_set, List.append_assoc]), hid (fun j h hj => ?_), by rw [List.length_append, HKS.out]; have := HL3.out; omega, ho4, hfo.step hsz hat4, hF3.keep hch4 (fun h => by have := hfo _ h; omega), C4.trans hch4 (fun _ h => h) (fun b hb => .inr (hfo b hb))⟩
        by_cases hji : j = i
        · subst hji
          simp only [if_pos]
          exact hP3
        · simp only [if_neg hji]
          exact HALL.out j h (by omega)
    · obtain rfl : i = m := by omega
      go_wp2_with fail
      go_ret
      have hall := HALL.out
      have h5 := HO5.out
      subst h5
      exact ⟨_, _, rfl, .inr (.inr (.inr (.inr (.inr (.inr (.inr (.inr (.inr (.inr (.inr ⟨rfl, hd, ds, HHD9.out, rfl, fun j => hall j.val j.isLt j.isLt⟩)))))))))), by rw [HCM.out]; exact hol, HO, hfo, hFr, hch⟩

theorem putPack_calls (w0 : World) (pf : Nat) (hpf : w0.heap.size ≤ pf) : ∀ (t : Pk) (v0 v1 v2 v3 v4 : Value) (w : World) (lv : Int), TrP w0 t [v0, v1, v2, v3, v4] → Ch (Fro w0.heap.size) w0 w → Fm w pf → FitP t lv → cnt t ≤ 2000 →
    Calls Tryd.prog 27 #[.agg #[v0, v1, v2, v3, v4], .pointer (some ⟨pf, 0, none⟩)] w (PpTo t pf w) := by
  intro t
  induction t with
  | mk k n s x m K ih =>
    intro v0 v1 v2 v3 v4 w lv ht hw hF hfit hcn
    have ht' := ht
    obtain ⟨A, cap, he, _, hwn, _⟩ := ht'
    simp only [List.cons.injEq, and_true] at he
    obtain ⟨rfl, rfl, rfl, rfl, rfl⟩ := he
    have hb := bounds_u64 hwn
    obtain ⟨hlv, hk0, hk11, _, _, _, _, _, _, hn1, hn4, _, hm, hs, hfk⟩ := hfit
    have ih' : ∀ (i : Nat) (h : i < m) (v0 v1 v2 v3 v4 : Value) (w : World), TrP w0 (K ⟨i, h⟩) [v0, v1, v2, v3, v4] → Ch (Fro w0.heap.size) w0 w → Fm w pf → cnt (K ⟨i, h⟩) ≤ 2000 → Calls Tryd.prog 27 #[.agg #[v0, v1, v2, v3, v4], .pointer (some ⟨pf, 0, none⟩)] w (PpTo (K ⟨i, h⟩) pf w) :=
      fun i h v0 v1 v2 v3 v4 w ht hw hF hc => ih ⟨i, h⟩ v0 v1 v2 v3 v4 w (lv - 1) ht hw hF (hfk ⟨i, h⟩) hc
    by_cases h0 : k = 0
    · subst h0; exact put_0 w0 pf n x lv s m K A cap w hF
    by_cases h1 : k = 1
    · subst h1; exact put_1 w0 pf n x lv s m K A cap w hF hb.1 (hn1 rfl)
    by_cases h2 : k = 2
    · subst h2
      by_cases hn : 9223372036854775808 ≤ n
      · exact put_2 w0 pf n x lv s m K A cap w hF hn (by omega)
      · exact put_2p w0 pf n x lv s m K A cap w hF hb.1 (by omega)
    by_cases h3 : k = 3
    · subst h3; exact put_3 w0 pf n x lv s m K A cap w hF hb.1 (by omega)
    by_cases h4 : k = 4
    · subst h4; exact put_4 w0 pf n x lv s m K A cap w hF hb.1 (hn4 rfl)
    by_cases h5 : k = 5
    · subst h5; exact put_5 w0 pf n x lv s m K A cap w hF hb.1 (by omega)
    by_cases h6 : k = 6
    · subst h6; exact put_6 w0 pf n x lv s m K A cap w hF hs
    by_cases h7 : k = 7
    · subst h7; exact put_7 w0 pf n x lv s m K A cap w hF hs
    by_cases h8 : k = 8
    · subst h8; exact put_8 w0 pf hpf n x s m K A cap w hF ht hw hm hcn ih'
    by_cases h9 : k = 9
    · subst h9; exact put_9 w0 pf hpf n x s m K A cap w hF ht hw hm hcn ih'
    obtain rfl : k = 10 := by omega
    exact put_10 w0 pf n x lv s m K A cap w hF hs
end Go.Proofs.YtooifcdkpddlmaaDoor
