/- The walks of the laws' own words on arrays: arrayOf, isArray, sameList. The walk of the laws' comparison of two lists of values that are the same. No condition. -/
import Derived.Test.YtbdgkikipekmlaaDoorLawAr
import Derived.Deep.LoopGhost
import Derived.Test.YtbdgkikipekmlaaDoorPcp
namespace Go.Proofs.YtbdgkikipekmlaaDoor
set_option linter.unusedVariables false
set_option linter.unusedSimpArgs false
open Go.RowKit

/-- A value is an array of a kind, without descriptors. -/
def Right (k o : Int) {m : Nat} (K : Fin m → Va) (kd : Int) : Prop := k = 23 ∧ (m = 0 → o = kd) ∧ ∀ i : Fin m, (K i).kind = kd ∧ (K i).descs = 0
theorem isArray_calls (k n o : Int) (s : ByteArray) (A B : Option Addr) (m d cap capB : Nat) (w : World) (b : Bool) (hb : decide (k = 23) = b) :
    Calls Tryd.prog 24 #[.agg #[.int .i64 k, .int .u64 n, .string s, .slice A m cap, .int .i64 o, .slice B d capB]] w fun e w' => e = .returned (.bool b) ∧ Ch No w w' := by
  have hB := Row.alloc w [.int .i64 k, .int .u64 n, .string s, .slice A m cap, .int .i64 o, .slice B d capB] 25
  have p0 := hB.cell 0 _ rfl
  have hb2 : (k == 23) = b := by rw [← hb]; rfl
  go_enter Tryd.func24, Tryd.ntmps24
  go_wp2_with fail
  go_ret
  exact ⟨by simp [hb, hb2], (Ch.refl No w).alloc _⟩
set_option maxRecDepth 100000 in
set_option maxHeartbeats 4000000 in
theorem arrayOf_yes (w0 : World) (k n o kd : Int) (s : ByteArray) (m d : Nat) (K : Fin m → Va) (D : Fin d → Va) (A B : Option Addr) (cap capB : Nat) (w : World) (ht : VaP w0 (.mk k n s m K o d D) [.int .i64 k, .int .u64 n, .string s, .slice A m cap, .int .i64 o, .slice B d capB]) (hw : Ch (Fro w0.heap.size) w0 w) (hmb : m ≤ 9223372036854775807) (hdd : ∀ i : Fin m, (K i).descs ≤ 9223372036854775807) (hx : Right k o K kd) :
    Calls Tryd.prog 23 #[.agg #[.int .i64 k, .int .u64 n, .string s, .slice A m cap, .int .i64 o, .slice B d capB], .int .i64 kd] w fun e w' => e = .returned (.tuple #[.slice A m cap, .bool true]) ∧ Ch No w w' := by
  obtain rfl : k = 23 := hx.1
  have hB := Row.alloc w [.int .i64 23, .int .u64 n, .string s, .slice A m cap, .int .i64 o, .slice B d capB] 25
  have C1 : Ch No w (w.alloc (.cells #[.int .i64 23, .int .u64 n, .string s, .slice A m cap, .int .i64 o, .slice B d capB] 25)) := (Ch.refl No w).alloc _
  have p0 := hB.cell 0 _ rfl
  have p3 := hB.cell 3 _ rfl
  have p4 := hB.cell 4 _ rfl
  have hz : m = 0 ∨ 0 < m := by omega
  rcases hz with rfl | hz
  · obtain rfl : o = kd := hx.2.1 rfl
    go_enter Tryd.func23, Tryd.ntmps23
    go_wp2_with fail
    go_loopg [26] 0 (fun kk s26 wr => s26 = .int .i64 0 ∧ Row wr w.heap.size 25 [.int .i64 23, .int .u64 n, .string s, .slice A 0 cap, .int .i64 o, .slice B d capB] ∧ Ch No w wr)
    case atStart => exact ⟨rfl, hB, C1⟩
    case round =>
      obtain ⟨rfl, hbx, hch⟩ := hrel
      have z3 := hbx.cell 3 _ rfl
      go_wp2_with fail
      refine bodyPost_ret (v := .tuple #[.slice A 0 cap, .bool true]) (by simp [results, Tryd.results23, go_sem]) rfl ?_
      exact ⟨rfl, hch⟩
  have hz1 : ((m : Int) == 0) = false := beq_eq_false_iff_ne.2 (by omega)
  have hz2 : decide ((m : Int) = 0) = false := decide_eq_false (by omega)
  go_enter Tryd.func23, Tryd.ntmps23
  go_wp2_with fail
  go_loopg [26] m (fun kk s26 wr => ∃ i : Nat, kk + i = m ∧ s26 = .int .i64 i ∧ Row wr w.heap.size 25 [.int .i64 23, .int .u64 n, .string s, .slice A m cap, .int .i64 o, .slice B d capB] ∧ Ch No w wr)
  case atStart => exact ⟨0, by omega, rfl, hB, C1⟩
  case round =>
    rename World => wA
    obtain ⟨i, hki, rfl, hbx, hch⟩ := hrel
    have z0 := hbx.cell 0 _ rfl
    have z3 := hbx.cell 3 _ rfl
    have z4 := hbx.cell 4 _ rfl
    by_cases hi : i < m
    · obtain ⟨b1, o1, u0, u1, u2, u3, u4, u5, rfl, htk, a0, a1, a2, a3, a4, a5⟩ := ht.kid (w := wA) (hw.then_no hch) i hi
      have hi' : (i : Int) < m := by omega
      have hi0 : (0 : Int) ≤ i := by omega
      have hone := htk.one
      have hdi := hdd ⟨i, hi⟩
      obtain ⟨kt, hkt⟩ : ∃ kt, K ⟨i, hi⟩ = kt := ⟨_, rfl⟩
      have hgood := hx.2.2 ⟨i, hi⟩
      rw [hkt] at hgood
      rw [hkt] at htk hdi
      obtain ⟨k', n', s', m', K', o', d', D'⟩ := kt
      obtain ⟨A', cap', B', capB', he, _⟩ := htk
      simp only [List.cons.injEq, and_true] at he
      obtain ⟨rfl, rfl, rfl, rfl, rfl, rfl⟩ := he
      replace hdi : d' ≤ 9223372036854775807 := hdi
      have HKT := hid hkt
      clear hkt
      obtain ⟨hg1, hg2⟩ := hgood
      replace hg1 : k' = kd := hg1
      replace hg2 : d' = 0 := hg2
      subst hg1
      subst hg2
      go_wp2_with (first | ((with_reducible refine gate (.store 25 (.tmp 7) _) rfl ?_); refine wp_store rfl rfl 25 _ _ rfl wA.heap.size 0 25 VZ (.agg #[.int .i64 k', .int .u64 n', .string s', .slice A' m' cap', .int .i64 o', .slice B' 0 capB']) rfl rfl [.int .i64 k', .int .u64 n', .string s', .slice A' m' cap', .int .i64 o', .slice B' 0 capB'] rfl size_va hone (Row.alloc wA VZ 25) (by simp) ?_; intro w2 hrow2 hch2; have y0 : w2.cell? ⟨wA.heap.size, 0, none⟩ = some (.int .i64 k') := hrow2.cell 0 _ rfl; have y5 : w2.cell? ⟨wA.heap.size, 5, none⟩ = some (.slice B' 0 capB') := hrow2.cell 5 _ rfl))
      go_roundg (m - (i + 1))
      case measure => omega
      case rel => exact ⟨i + 1, by omega, by go_num, (hbx.keep0 ((Ch.refl No wA).alloc _)).keep hch2 (fun h => by have := hbx.lt; have h9 : w.heap.size = wA.heap.size := h; omega), (hch.alloc _).freshg hch2 hch.size⟩
    · obtain rfl : i = m := by omega
      go_wp2_with fail
      refine bodyPost_ret (v := .tuple #[.slice A i cap, .bool true]) (by simp [results, Tryd.results23, go_sem]) rfl ?_
      exact ⟨rfl, hch⟩
set_option maxRecDepth 100000 in
set_option maxHeartbeats 4000000 in
theorem arrayOf_no (w0 : World) (k n o kd : Int) (s : ByteArray) (m d : Nat) (K : Fin m → Va) (D : Fin d → Va) (A B : Option Addr) (cap capB : Nat) (w : World) (ht : VaP w0 (.mk k n s m K o d D) [.int .i64 k, .int .u64 n, .string s, .slice A m cap, .int .i64 o, .slice B d capB]) (hw : Ch (Fro w0.heap.size) w0 w) (hmb : m ≤ 9223372036854775807) (hdd : ∀ i : Fin m, (K i).descs ≤ 9223372036854775807) (hx : ¬ Right k o K kd) :
    Calls Tryd.prog 23 #[.agg #[.int .i64 k, .int .u64 n, .string s, .slice A m cap, .int .i64 o, .slice B d capB], .int .i64 kd] w fun e w' => e = .returned (.tuple #[.slice none 0 0, .bool false]) ∧ Ch No w w' := by
  have hB := Row.alloc w [.int .i64 k, .int .u64 n, .string s, .slice A m cap, .int .i64 o, .slice B d capB] 25
  have C1 : Ch No w (w.alloc (.cells #[.int .i64 k, .int .u64 n, .string s, .slice A m cap, .int .i64 o, .slice B d capB] 25)) := (Ch.refl No w).alloc _
  have p0 := hB.cell 0 _ rfl
  have p3 := hB.cell 3 _ rfl
  have p4 := hB.cell 4 _ rfl
  by_cases hk : k = 23
  rotate_left
  · have e23 : (k == 23) = false := beq_eq_false_iff_ne.2 hk
    have f23 : (k != 23) = true := bne_iff_ne.2 hk
    have g23 : decide (k = 23) = false := decide_eq_false hk
    go_enter Tryd.func23, Tryd.ntmps23
    go_wp2_with fail
    refine bodyPost_ret (v := .tuple #[.slice none 0 0, .bool false]) (by simp [results, Tryd.results23, go_sem]) rfl ?_
    exact ⟨rfl, C1⟩
  subst hk
  have hz : m = 0 ∨ 0 < m := by omega
  rcases hz with rfl | hz
  · have ho : o ≠ kd := fun h => hx ⟨rfl, fun _ => h, fun i => i.elim0⟩
    have e1 : (o == kd) = false := beq_eq_false_iff_ne.2 ho
    have f1 : (o != kd) = true := bne_iff_ne.2 ho
    have g1 : decide (o = kd) = false := decide_eq_false ho
    go_enter Tryd.func23, Tryd.ntmps23
    go_wp2_with fail
    refine bodyPost_ret (v := .tuple #[.slice none 0 0, .bool false]) (by simp [results, Tryd.results23, go_sem]) rfl ?_
    exact ⟨rfl, C1⟩
  have hz1 : ((m : Int) == 0) = false := beq_eq_false_iff_ne.2 (by omega)
  have hz2 : decide ((m : Int) = 0) = false := decide_eq_false (by omega)
  go_enter Tryd.func23, Tryd.ntmps23
  go_wp2_with fail
  go_loopg [26] m (fun kk s26 wr => ∃ i : Nat, kk + i = m ∧ s26 = .int .i64 i ∧ Hid (∀ j : Fin m, j.val < i → (K j).kind = kd ∧ (K j).descs = 0) ∧ Row wr w.heap.size 25 [.int .i64 23, .int .u64 n, .string s, .slice A m cap, .int .i64 o, .slice B d capB] ∧ Ch No w wr)
  case atStart => exact ⟨0, by omega, rfl, hid (fun j h => by omega), hB, C1⟩
  case round =>
    rename World => wA
    obtain ⟨i, hki, rfl, HALL, hbx, hch⟩ := hrel
    have z0 := hbx.cell 0 _ rfl
    have z3 := hbx.cell 3 _ rfl
    have z4 := hbx.cell 4 _ rfl
    by_cases hi : i < m
    · obtain ⟨b1, o1, u0, u1, u2, u3, u4, u5, rfl, htk, a0, a1, a2, a3, a4, a5⟩ := ht.kid (w := wA) (hw.then_no hch) i hi
      have hi' : (i : Int) < m := by omega
      have hi0 : (0 : Int) ≤ i := by omega
      have hone := htk.one
      have hdi := hdd ⟨i, hi⟩
      obtain ⟨kt, hkt⟩ : ∃ kt, K ⟨i, hi⟩ = kt := ⟨_, rfl⟩
      skip
      rw [hkt] at htk hdi
      obtain ⟨k', n', s', m', K', o', d', D'⟩ := kt
      obtain ⟨A', cap', B', capB', he, _⟩ := htk
      simp only [List.cons.injEq, and_true] at he
      obtain ⟨rfl, rfl, rfl, rfl, rfl, rfl⟩ := he
      replace hdi : d' ≤ 9223372036854775807 := hdi
      have HKT := hid hkt
      clear hkt
      by_cases hkk : k' = kd
      · subst hkk
        by_cases hd0 : d' = 0
        · subst hd0
          go_wp2_with (first | ((with_reducible refine gate (.store 25 (.tmp 7) _) rfl ?_); refine wp_store rfl rfl 25 _ _ rfl wA.heap.size 0 25 VZ (.agg #[.int .i64 k', .int .u64 n', .string s', .slice A' m' cap', .int .i64 o', .slice B' 0 capB']) rfl rfl [.int .i64 k', .int .u64 n', .string s', .slice A' m' cap', .int .i64 o', .slice B' 0 capB'] rfl size_va hone (Row.alloc wA VZ 25) (by simp) ?_; intro w2 hrow2 hch2; have y0 : w2.cell? ⟨wA.heap.size, 0, none⟩ = some (.int .i64 k') := hrow2.cell 0 _ rfl; have y5 : w2.cell? ⟨wA.heap.size, 5, none⟩ = some (.slice B' 0 capB') := hrow2.cell 5 _ rfl))
          go_roundg (m - (i + 1))
          case measure => omega
          case rel =>
            refine ⟨i + 1, by omega, by go_num, hid (fun j hj => ?_), (hbx.keep0 ((Ch.refl No wA).alloc _)).keep hch2 (fun h => by have := hbx.lt; have h9 : w.heap.size = wA.heap.size := h; omega), (hch.alloc _).freshg hch2 hch.size⟩
            by_cases h9 : j.val = i
            · have h8 : j = ⟨i, hi⟩ := Fin.ext h9
              rw [h8, HKT.out]
              exact ⟨rfl, rfl⟩
            · exact HALL.out j (by omega)
        · have hd1 : decide ((0 : Int) < d') = true := decide_eq_true (by omega)
          have hd2 : (0 : Int) < d' := by omega
          have hd3 : 0 < d' := by omega
          go_wp2_with (first | ((with_reducible refine gate (.store 25 (.tmp 7) _) rfl ?_); refine wp_store rfl rfl 25 _ _ rfl wA.heap.size 0 25 VZ (.agg #[.int .i64 k', .int .u64 n', .string s', .slice A' m' cap', .int .i64 o', .slice B' d' capB']) rfl rfl [.int .i64 k', .int .u64 n', .string s', .slice A' m' cap', .int .i64 o', .slice B' d' capB'] rfl size_va hone (Row.alloc wA VZ 25) (by simp) ?_; intro w2 hrow2 hch2; have y0 : w2.cell? ⟨wA.heap.size, 0, none⟩ = some (.int .i64 k') := hrow2.cell 0 _ rfl; have y5 : w2.cell? ⟨wA.heap.size, 5, none⟩ = some (.slice B' d' capB') := hrow2.cell 5 _ rfl))
          refine bodyPost_ret (v := .tuple #[.slice none 0 0, .bool false]) (by simp [results, Tryd.results23, go_sem]) rfl ?_
          exact ⟨rfl, (hch.alloc _).freshg hch2 hch.size⟩
      · have e1 : (k' == kd) = false := beq_eq_false_iff_ne.2 hkk
        have f1 : (k' != kd) = true := bne_iff_ne.2 hkk
        have g1 : decide (k' = kd) = false := decide_eq_false hkk
        go_wp2_with (first | ((with_reducible refine gate (.store 25 (.tmp 7) _) rfl ?_); refine wp_store rfl rfl 25 _ _ rfl wA.heap.size 0 25 VZ (.agg #[.int .i64 k', .int .u64 n', .string s', .slice A' m' cap', .int .i64 o', .slice B' d' capB']) rfl rfl [.int .i64 k', .int .u64 n', .string s', .slice A' m' cap', .int .i64 o', .slice B' d' capB'] rfl size_va hone (Row.alloc wA VZ 25) (by simp) ?_; intro w2 hrow2 hch2; have y0 : w2.cell? ⟨wA.heap.size, 0, none⟩ = some (.int .i64 k') := hrow2.cell 0 _ rfl; have y5 : w2.cell? ⟨wA.heap.size, 5, none⟩ = some (.slice B' d' capB') := hrow2.cell 5 _ rfl))
        refine bodyPost_ret (v := .tuple #[.slice none 0 0, .bool false]) (by simp [results, Tryd.results23, go_sem]) rfl ?_
        exact ⟨rfl, (hch.alloc _).freshg hch2 hch.size⟩
    · obtain rfl : i = m := by omega
      exact absurd ⟨rfl, fun h => absurd h (by omega), fun j => HALL.out j j.isLt⟩ hx

end Go.Proofs.YtbdgkikipekmlaaDoor

namespace Go.Proofs.YtbdgkikipekmlaaDoor
set_option linter.unusedVariables false
set_option linter.unusedSimpArgs false
open Go.RowKit

/-- A value that a law has made of what was read. -/
def vfc (kd : Int) (x : Int × ByteArray) : List Value := [.int .i64 kd, .int .u64 x.1, .string x.2, .slice none 0 0, .int .i64 0, .slice none 0 0]
theorem RdK.six {kd : Int} {w : World} {A : Option Addr} {L : List (Int × ByteArray)} (h : RdK (vfc kd) w A L) (i : Nat) (hi : i < L.length) : ∃ b, A = some ⟨b, 0, none⟩ ∧ w.cell? ⟨b, i * 6, none⟩ = some (.int .i64 kd) ∧ w.cell? ⟨b, i * 6 + 1, none⟩ = some (.int .u64 L[i].1) ∧ w.cell? ⟨b, i * 6 + 2, none⟩ = some (.string L[i].2) ∧ w.cell? ⟨b, i * 6 + 3, none⟩ = some (.slice none 0 0) ∧ w.cell? ⟨b, i * 6 + 4, none⟩ = some (.int .i64 0) ∧ w.cell? ⟨b, i * 6 + 5, none⟩ = some (.slice none 0 0) := by
  obtain ⟨b, e, hc⟩ := h (by omega)
  exact ⟨b, e, hc (i * 6 + 0) _ (by rw [flatK (S := 6) (fun _ => rfl) L i hi 0 (by omega)]; rfl), hc (i * 6 + 1) _ (by rw [flatK (S := 6) (fun _ => rfl) L i hi 1 (by omega)]; rfl), hc (i * 6 + 2) _ (by rw [flatK (S := 6) (fun _ => rfl) L i hi 2 (by omega)]; rfl), hc (i * 6 + 3) _ (by rw [flatK (S := 6) (fun _ => rfl) L i hi 3 (by omega)]; rfl), hc (i * 6 + 4) _ (by rw [flatK (S := 6) (fun _ => rfl) L i hi 4 (by omega)]; rfl), hc (i * 6 + 5) _ (by rw [flatK (S := 6) (fun _ => rfl) L i hi 5 (by omega)]; rfl)⟩

set_option maxRecDepth 100000 in
set_option maxHeartbeats 4000000 in
theorem sameList_true (w0 : World) (kd : Int) (m : Nat) (K : Fin m → Va) (A1 A : Option Addr) (c1 cap : Nat) (L : List (Int × ByteArray)) (w : World) (hL : L.length = m) (hm : m ≤ 1000)
    (hk : ∀ i : Fin m, ∃ b o cs', A = some ⟨b, o, none⟩ ∧ cs'.length = 6 ∧ (∀ j, j < 6 → w0.cell? ⟨b, o + (i.val * 6 + j), none⟩ = cs'[j]?) ∧ VaP w0 (K i) cs') (hw : Ch (Fro w0.heap.size) w0 w) (hR : RdK (vfc kd) w A1 L)
    (hkid : ∀ (i : Nat) (h : i < m) (h' : i < L.length), ∃ (o0 : Int) (K0 : Fin 0 → Va) (D0 : Fin 0 → Va), K ⟨i, h⟩ = .mk kd L[i].1 L[i].2 0 K0 o0 0 D0) :
    Calls Tryd.prog 25 #[.slice A1 m c1, .slice A m cap] w fun e w' => e = .returned (.bool true) ∧ Ch No w w' := by
  have HK := hid (And.intro hk hkid)
  clear hk hkid
  go_enter Tryd.func25, Tryd.ntmps25
  go_wp2_with fail
  go_loopg [13] m (fun kk s13 wr => ∃ i : Nat, kk + i = m ∧ s13 = .int .i64 i ∧ Ch No w wr)
  case atStart => exact ⟨0, by omega, rfl, Ch.refl _ _⟩
  case round =>
    rename World => wA
    obtain ⟨i, hki, rfl, hch⟩ := hrel
    by_cases hi : i < m
    · obtain ⟨b1, o1, u0, u1, u2, u3, u4, u5, rfl, htk, a0, a1, a2, a3, a4, a5⟩ := kid_at HK.out.1 (hw.then_no hch) i hi
      have hiL : i < L.length := by omega
      obtain ⟨b2, rfl, e0, e1, e2, e3, e4, e5⟩ := (hR.keep0 hch).six i hiL
      obtain ⟨o0, K0, D0, hkt⟩ := HK.out.2 i hi hiL
      rw [hkt] at htk
      obtain ⟨A', cap', B', capB', he, _⟩ := htk
      simp only [List.cons.injEq, and_true] at he
      obtain ⟨rfl, rfl, rfl, rfl, rfl, rfl⟩ := he
      generalize L[i].1 = x1 at a1 e1 hkt
      generalize L[i].2 = x2 at a2 e2 hkt
      have hi' : (i : Int) < m := by omega
      have hi0 : (0 : Int) ≤ i := by omega
      have HCA := hid (fun W => same_true kd x1 0 o0 x2 none none A' B' 0 0 cap' capB' W)
      clear hkt
      go_wp2_with fail
      refine wp_region_still_tail 8 (by kernel_rfl) (by kernel_rfl) ?_
      simp only [List.take_succ_cons, List.take_zero, List.drop_succ_cons, List.drop_zero]
      change wpStill _ _ (World.drew _) _ _ _
      repeat still_step
      refine wpStill_nil ?_
      change wpList _ _ _ _ _ (World.drew _)

      go_wp2_with (go_at_call 14; refine (HCA.out _).mono ?_; rintro e w5 ⟨rfl, hch5⟩)
      go_roundg (m - (i + 1))
      case measure => omega
      case rel => exact ⟨i + 1, by omega, by go_num, hch.drew.no_no hch5⟩
    · obtain rfl : i = m := by omega
      go_wp2_with fail
      go_ret
      exact ⟨rfl, hch⟩
end Go.Proofs.YtbdgkikipekmlaaDoor
