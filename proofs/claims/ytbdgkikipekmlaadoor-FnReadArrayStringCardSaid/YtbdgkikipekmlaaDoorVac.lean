/- The walks of the reference's look at a text of ASCII, at empty texts, and of its comparison of two values. The walk of the reference's comparison of two values that come in. The walk of the reference's look at the elements of an array. No condition. -/
import Derived.Test.YtbdgkikipekmlaaDoorValC
import Derived.Deep.LoopGhost
import Derived.StillTailTactics
import Derived.Deep.RegionLaw
namespace Go.Proofs.YtbdgkikipekmlaaDoor
set_option linter.unusedVariables false
set_option linter.unusedSimpArgs false
open Go.RowKit

/-- A bool comes back, and nothing that was there has changed. -/
def BoTo (w : World) (e : Ending) (w' : World) : Prop := ∃ b : Bool, e = .returned (.bool b) ∧ Ch No w w'
set_option maxRecDepth 100000 in
set_option maxHeartbeats 1000000 in
theorem asciiOnly_calls (s : ByteArray) (w : World) (hs : s.size ≤ 9223372036854775807) : Calls Tryd.prog 103 #[.string s] w (BoTo w) := by
  go_enter Tryd.func103, Tryd.ntmps103
  go_wp2_with fail
  go_loopg [3] s.size (fun kk s3 wr => ∃ i : Nat, kk + i = s.size ∧ s3 = .int .i64 i ∧ Ch No w wr)
  case atStart => exact ⟨0, by omega, rfl, Ch.refl _ _⟩
  case round =>
    obtain ⟨i, hki, rfl, hch⟩ := hrel
    by_cases hi : i < s.size
    · have hi' : (i : Int) < s.size := by omega
      have hi0 : (0 : Int) ≤ i := by omega
      by_cases hb : 128 ≤ (s[i]).toNat
      · have hd : decide ((128 : Int) ≤ ((s[i]).toNat : Int)) = true := decide_eq_true (by omega)
        go_wp2_with fail
        go_ret
        exact ⟨false, rfl, hch⟩
      · have hd : decide ((128 : Int) ≤ ((s[i]).toNat : Int)) = false := decide_eq_false (by omega)
        go_wp2_with fail
        go_roundg (gk - 1)
        case measure => omega
        case rel => exact ⟨i + 1, by omega, by go_num, hch⟩
    · obtain rfl : s.size = i := by omega
      go_wp2_with fail
      go_ret
      exact ⟨true, rfl, hch⟩
/-- No text of an array is empty. -/
def EtOk : Va → Prop
  | .mk k _ _ m K _ _ _ => ∀ i (h : i < m), k = 23 → 18 ≤ (K ⟨i, h⟩).kind → (K ⟨i, h⟩).kind ≤ 20 → (K ⟨i, h⟩).text.toList.isEmpty = false
def EtTo (t : Va) (w : World) (e : Ending) (w' : World) : Prop := ∃ b : Bool, e = .returned (.bool b) ∧ Ch No w w' ∧ (b = false → EtOk t)
set_option maxRecDepth 100000 in
set_option maxHeartbeats 4000000 in
theorem emptyTexts_calls (w0 : World) : ∀ (t : Va) (v0 v1 v2 v3 v4 v5 : Value) (w : World), VaP w0 t [v0, v1, v2, v3, v4, v5] → Ch (Fro w0.heap.size) w0 w →
    Calls Tryd.prog 43 #[.agg #[v0, v1, v2, v3, v4, v5]] w (EtTo t w) := by
  intro t
  induction t with
  | mk k n s m K o d D ihK ihD =>
    intro v0 v1 v2 v3 v4 v5 w ht hw
    have ht' := ht
    obtain ⟨A, cap, B, capB, he, _, _, _, _, hmc, hcm, _, _, _, _⟩ := ht'
    have hmb : m ≤ maxLen := Nat.le_trans hmc hcm
    unfold maxLen at hmb
    clear hmc hcm
    simp only [List.cons.injEq, and_true] at he
    obtain ⟨rfl, rfl, rfl, rfl, rfl, rfl⟩ := he
    have hB := Row.alloc w [.int .i64 k, .int .u64 n, .string s, .slice A m cap, .int .i64 o, .slice B d capB] 25
    have e0 := hB.cell 0 _ rfl
    have e3 := hB.cell 3 _ rfl
    go_enter Tryd.func43, Tryd.ntmps43
    go_wp2_with fail
    go_loopg [8] m (fun kk s8 wr => ∃ i : Nat, kk + i = m ∧ s8 = .int .i64 i ∧ Row wr w.heap.size 25 [.int .i64 k, .int .u64 n, .string s, .slice A m cap, .int .i64 o, .slice B d capB] ∧ Ch No w wr ∧ Hid (∀ j (h : j < m), j < i → k = 23 → 18 ≤ (K ⟨j, h⟩).kind → (K ⟨j, h⟩).kind ≤ 20 → (K ⟨j, h⟩).text.toList.isEmpty = false))
    case atStart => exact ⟨0, by omega, rfl, hB, (Ch.refl No w).alloc _, hid (fun j _ h => by omega)⟩
    case round =>
      obtain ⟨i, hki, rfl, hbx, hch, HALL⟩ := hrel
      by_cases hi : i < m
      · obtain ⟨b1, o1, u0, u1, u2, u3, u4, u5, rfl, htk, a0, a1, a2, a3, a4, a5⟩ := ht.kid (w := wr) (hw.then_no hch) i hi
        have hi' : (i : Int) < m := by omega
        have hi0 : (0 : Int) ≤ i := by omega
        have hone := htk.one
        have hcall := fun w h => ihK ⟨i, hi⟩ u0 u1 u2 u3 u4 u5 w htk h
        have HCA := hid hcall
        have HK : Hid (∀ (q : Int) (x : ByteArray), (K ⟨i, hi⟩).kind = q → (K ⟨i, hi⟩).text = x → (k = 23 → 18 ≤ q → q ≤ 20 → x.toList.isEmpty = false) → ∀ j (h : j < m), j < i + 1 → k = 23 → 18 ≤ (K ⟨j, h⟩).kind → (K ⟨j, h⟩).kind ≤ 20 → (K ⟨j, h⟩).text.toList.isEmpty = false) := hid (fun q x hq hx hh j h hj => by
          by_cases hji : j < i
          · exact HALL.out j h hji
          · obtain rfl : j = i := by omega
            rw [hq, hx]
            exact hh)
        clear ihK ihD hcall
        obtain ⟨k', n', s', m', K', o', d', D', hKi⟩ : ∃ k' n' s' m' K' o' d' D', K ⟨i, hi⟩ = Va.mk k' n' s' m' K' o' d' D' := by cases K ⟨i, hi⟩; exact ⟨_, _, _, _, _, _, _, _, rfl⟩
        have hq : (K ⟨i, hi⟩).kind = k' := by rw [hKi]; rfl
        have hx : (K ⟨i, hi⟩).text = s' := by rw [hKi]; rfl
        have HK2 := hid (HK.out k' s' hq hx)
        rw [hKi] at htk
        obtain ⟨A', cap', B', capB', he', _⟩ := htk
        simp only [List.cons.injEq, and_true] at he'
        obtain ⟨rfl, rfl, rfl, rfl, rfl, rfl⟩ := he'
        clear hq hx HK hKi
        by_cases h23 : k = 23
        · subst h23
          by_cases h18 : 18 ≤ k'
          · have d18 : decide (18 ≤ k') = true := decide_eq_true h18
            by_cases h20 : k' ≤ 20
            · have d20 : decide (k' ≤ 20) = true := decide_eq_true h20
              cases hem : s'.toList.isEmpty
              · skip
                go_wp2_with (first | ((with_reducible refine gate (.store 25 (.tmp 4) _) rfl ?_); refine wp_store rfl rfl 25 _ _ rfl wr.heap.size 0 25 VZ (.agg #[Value.int .i64 k', Value.int .u64 n', Value.string s', Value.slice A' m' cap', Value.int .i64 o', Value.slice B' d' capB']) rfl rfl [Value.int .i64 k', Value.int .u64 n', Value.string s', Value.slice A' m' cap', Value.int .i64 o', Value.slice B' d' capB'] rfl size_va hone (Row.alloc wr VZ 25) (by simp) ?_; intro w2 hrow2 hch2; have C2 := ((Ch.refl No wr).alloc _).freshg hch2 (Nat.le_refl _); have r0 := (hbx.keep0 C2).cell 0 _ rfl; have q0 : w2.cell? ⟨wr.heap.size, 0, none⟩ = some (Value.int .i64 k') := hrow2.cell 0 _ rfl; have q1 : w2.cell? ⟨wr.heap.size, 1, none⟩ = some (Value.int .u64 n') := hrow2.cell 1 _ rfl; have q2 : w2.cell? ⟨wr.heap.size, 2, none⟩ = some (Value.string s') := hrow2.cell 2 _ rfl; have q3 : w2.cell? ⟨wr.heap.size, 3, none⟩ = some (Value.slice A' m' cap') := hrow2.cell 3 _ rfl; have q4 : w2.cell? ⟨wr.heap.size, 4, none⟩ = some (Value.int .i64 o') := hrow2.cell 4 _ rfl; have q5 : w2.cell? ⟨wr.heap.size, 5, none⟩ = some (Value.slice B' d' capB') := hrow2.cell 5 _ rfl))
                refine (HCA.out w2 (hw.then_no (hch.no_no C2))).mono ?_
                rintro e w3 ⟨bb, rfl, hch3, hb3⟩
                cases bb
                · go_wp2_with fail
                  go_roundg (gk - 1)
                  case measure => omega
                  case rel => exact ⟨i + 1, by omega, by go_num, hbx.keep0 (C2.no_no hch3), (hch.no_no C2).no_no hch3, hid (HK2.out (fun _ _ _ => hem))⟩
                · go_wp2_with fail
                  go_ret
                  exact ⟨true, rfl, (hch.no_no C2).no_no hch3, fun h => by cases h⟩
              · go_wp2_with (first | ((with_reducible refine gate (.store 25 (.tmp 4) _) rfl ?_); refine wp_store rfl rfl 25 _ _ rfl wr.heap.size 0 25 VZ (.agg #[Value.int .i64 k', Value.int .u64 n', Value.string s', Value.slice A' m' cap', Value.int .i64 o', Value.slice B' d' capB']) rfl rfl [Value.int .i64 k', Value.int .u64 n', Value.string s', Value.slice A' m' cap', Value.int .i64 o', Value.slice B' d' capB'] rfl size_va hone (Row.alloc wr VZ 25) (by simp) ?_; intro w2 hrow2 hch2; have C2 := ((Ch.refl No wr).alloc _).freshg hch2 (Nat.le_refl _); have r0 := (hbx.keep0 C2).cell 0 _ rfl; have q0 : w2.cell? ⟨wr.heap.size, 0, none⟩ = some (Value.int .i64 k') := hrow2.cell 0 _ rfl; have q1 : w2.cell? ⟨wr.heap.size, 1, none⟩ = some (Value.int .u64 n') := hrow2.cell 1 _ rfl; have q2 : w2.cell? ⟨wr.heap.size, 2, none⟩ = some (Value.string s') := hrow2.cell 2 _ rfl; have q3 : w2.cell? ⟨wr.heap.size, 3, none⟩ = some (Value.slice A' m' cap') := hrow2.cell 3 _ rfl; have q4 : w2.cell? ⟨wr.heap.size, 4, none⟩ = some (Value.int .i64 o') := hrow2.cell 4 _ rfl; have q5 : w2.cell? ⟨wr.heap.size, 5, none⟩ = some (Value.slice B' d' capB') := hrow2.cell 5 _ rfl))
                go_ret
                exact ⟨true, rfl, hch.no_no C2, fun h => by cases h⟩
            · have d20 : decide (k' ≤ 20) = false := decide_eq_false h20
              go_wp2_with (first | ((with_reducible refine gate (.store 25 (.tmp 4) _) rfl ?_); refine wp_store rfl rfl 25 _ _ rfl wr.heap.size 0 25 VZ (.agg #[Value.int .i64 k', Value.int .u64 n', Value.string s', Value.slice A' m' cap', Value.int .i64 o', Value.slice B' d' capB']) rfl rfl [Value.int .i64 k', Value.int .u64 n', Value.string s', Value.slice A' m' cap', Value.int .i64 o', Value.slice B' d' capB'] rfl size_va hone (Row.alloc wr VZ 25) (by simp) ?_; intro w2 hrow2 hch2; have C2 := ((Ch.refl No wr).alloc _).freshg hch2 (Nat.le_refl _); have r0 := (hbx.keep0 C2).cell 0 _ rfl; have q0 : w2.cell? ⟨wr.heap.size, 0, none⟩ = some (Value.int .i64 k') := hrow2.cell 0 _ rfl; have q1 : w2.cell? ⟨wr.heap.size, 1, none⟩ = some (Value.int .u64 n') := hrow2.cell 1 _ rfl; have q2 : w2.cell? ⟨wr.heap.size, 2, none⟩ = some (Value.string s') := hrow2.cell 2 _ rfl; have q3 : w2.cell? ⟨wr.heap.size, 3, none⟩ = some (Value.slice A' m' cap') := hrow2.cell 3 _ rfl; have q4 : w2.cell? ⟨wr.heap.size, 4, none⟩ = some (Value.int .i64 o') := hrow2.cell 4 _ rfl; have q5 : w2.cell? ⟨wr.heap.size, 5, none⟩ = some (Value.slice B' d' capB') := hrow2.cell 5 _ rfl))
              refine (HCA.out w2 (hw.then_no (hch.no_no C2))).mono ?_
              rintro e w3 ⟨bb, rfl, hch3, hb3⟩
              cases bb
              · go_wp2_with fail
                go_roundg (gk - 1)
                case measure => omega
                case rel => exact ⟨i + 1, by omega, by go_num, hbx.keep0 (C2.no_no hch3), (hch.no_no C2).no_no hch3, hid (HK2.out (fun _ _ h => absurd h (by omega)))⟩
              · go_wp2_with fail
                go_ret
                exact ⟨true, rfl, (hch.no_no C2).no_no hch3, fun h => by cases h⟩
          · have d18 : decide (18 ≤ k') = false := decide_eq_false h18
            go_wp2_with (first | ((with_reducible refine gate (.store 25 (.tmp 4) _) rfl ?_); refine wp_store rfl rfl 25 _ _ rfl wr.heap.size 0 25 VZ (.agg #[Value.int .i64 k', Value.int .u64 n', Value.string s', Value.slice A' m' cap', Value.int .i64 o', Value.slice B' d' capB']) rfl rfl [Value.int .i64 k', Value.int .u64 n', Value.string s', Value.slice A' m' cap', Value.int .i64 o', Value.slice B' d' capB'] rfl size_va hone (Row.alloc wr VZ 25) (by simp) ?_; intro w2 hrow2 hch2; have C2 := ((Ch.refl No wr).alloc _).freshg hch2 (Nat.le_refl _); have r0 := (hbx.keep0 C2).cell 0 _ rfl; have q0 : w2.cell? ⟨wr.heap.size, 0, none⟩ = some (Value.int .i64 k') := hrow2.cell 0 _ rfl; have q1 : w2.cell? ⟨wr.heap.size, 1, none⟩ = some (Value.int .u64 n') := hrow2.cell 1 _ rfl; have q2 : w2.cell? ⟨wr.heap.size, 2, none⟩ = some (Value.string s') := hrow2.cell 2 _ rfl; have q3 : w2.cell? ⟨wr.heap.size, 3, none⟩ = some (Value.slice A' m' cap') := hrow2.cell 3 _ rfl; have q4 : w2.cell? ⟨wr.heap.size, 4, none⟩ = some (Value.int .i64 o') := hrow2.cell 4 _ rfl; have q5 : w2.cell? ⟨wr.heap.size, 5, none⟩ = some (Value.slice B' d' capB') := hrow2.cell 5 _ rfl))
            refine (HCA.out w2 (hw.then_no (hch.no_no C2))).mono ?_
            rintro e w3 ⟨bb, rfl, hch3, hb3⟩
            cases bb
            · go_wp2_with fail
              go_roundg (gk - 1)
              case measure => omega
              case rel => exact ⟨i + 1, by omega, by go_num, hbx.keep0 (C2.no_no hch3), (hch.no_no C2).no_no hch3, hid (HK2.out (fun _ h => absurd h (by omega)))⟩
            · go_wp2_with fail
              go_ret
              exact ⟨true, rfl, (hch.no_no C2).no_no hch3, fun h => by cases h⟩
        · have f23 : (k == 23) = false := beq_eq_false_iff_ne.2 h23
          have g23 : decide (k = 23) = false := decide_eq_false h23
          go_wp2_with (first | ((with_reducible refine gate (.store 25 (.tmp 4) _) rfl ?_); refine wp_store rfl rfl 25 _ _ rfl wr.heap.size 0 25 VZ (.agg #[Value.int .i64 k', Value.int .u64 n', Value.string s', Value.slice A' m' cap', Value.int .i64 o', Value.slice B' d' capB']) rfl rfl [Value.int .i64 k', Value.int .u64 n', Value.string s', Value.slice A' m' cap', Value.int .i64 o', Value.slice B' d' capB'] rfl size_va hone (Row.alloc wr VZ 25) (by simp) ?_; intro w2 hrow2 hch2; have C2 := ((Ch.refl No wr).alloc _).freshg hch2 (Nat.le_refl _); have r0 := (hbx.keep0 C2).cell 0 _ rfl; have q0 : w2.cell? ⟨wr.heap.size, 0, none⟩ = some (Value.int .i64 k') := hrow2.cell 0 _ rfl; have q1 : w2.cell? ⟨wr.heap.size, 1, none⟩ = some (Value.int .u64 n') := hrow2.cell 1 _ rfl; have q2 : w2.cell? ⟨wr.heap.size, 2, none⟩ = some (Value.string s') := hrow2.cell 2 _ rfl; have q3 : w2.cell? ⟨wr.heap.size, 3, none⟩ = some (Value.slice A' m' cap') := hrow2.cell 3 _ rfl; have q4 : w2.cell? ⟨wr.heap.size, 4, none⟩ = some (Value.int .i64 o') := hrow2.cell 4 _ rfl; have q5 : w2.cell? ⟨wr.heap.size, 5, none⟩ = some (Value.slice B' d' capB') := hrow2.cell 5 _ rfl))
          refine (HCA.out w2 (hw.then_no (hch.no_no C2))).mono ?_
          rintro e w3 ⟨bb, rfl, hch3, hb3⟩
          cases bb
          · go_wp2_with fail
            go_roundg (gk - 1)
            case measure => omega
            case rel => exact ⟨i + 1, by omega, by go_num, hbx.keep0 (C2.no_no hch3), (hch.no_no C2).no_no hch3, hid (HK2.out (fun h => absurd h h23))⟩
          · go_wp2_with fail
            go_ret
            exact ⟨true, rfl, (hch.no_no C2).no_no hch3, fun h => by cases h⟩

      · obtain rfl : m = i := by omega
        go_wp2_with fail
        go_ret
        exact ⟨false, rfl, hch, fun _ => fun j h => HALL.out j h h⟩
end Go.Proofs.YtbdgkikipekmlaaDoor

namespace Go.Proofs.YtbdgkikipekmlaaDoor
set_option linter.unusedVariables false
set_option linter.unusedSimpArgs false
open Go.RowKit
set_option maxRecDepth 100000 in
set_option maxHeartbeats 4000000 in
theorem sameB_calls (w0 : World) : ∀ (t t2 : Va) (v0 v1 v2 v3 v4 v5 x0 x1 x2 x3 x4 x5 : Value) (w : World), VaP w0 t [v0, v1, v2, v3, v4, v5] → VaP w0 t2 [x0, x1, x2, x3, x4, x5] → Ch (Fro w0.heap.size) w0 w →
    Calls Tryd.prog 14 #[.agg #[v0, v1, v2, v3, v4, v5], .agg #[x0, x1, x2, x3, x4, x5]] w (BoTo w) := by
  intro t
  induction t with
  | mk k n s m K o d D ihK ihD =>
    intro t2 v0 v1 v2 v3 v4 v5 x0 x1 x2 x3 x4 x5 w ht hx hw
    have ht' := ht
    obtain ⟨A, cap, B, capB, he, _, _, _, _, hmc, hcm, hdc, hcd, _, _⟩ := ht'
    have hmb : m ≤ maxLen := Nat.le_trans hmc hcm
    have hdb : d ≤ maxLen := Nat.le_trans hdc hcd
    unfold maxLen at hmb hdb
    clear hmc hcm hdc hcd
    simp only [List.cons.injEq, and_true] at he
    obtain ⟨rfl, rfl, rfl, rfl, rfl, rfl⟩ := he
    obtain ⟨k', n', s', m', K', o', d', D'⟩ := t2
    have hx' := hx
    obtain ⟨A', cap', B', capB', he, _, _, _, _, hmc, hcm, hdc, hcd, _, _⟩ := hx'
    have hmb' : m' ≤ maxLen := Nat.le_trans hmc hcm
    have hdb' : d' ≤ maxLen := Nat.le_trans hdc hcd
    unfold maxLen at hmb' hdb'
    clear hmc hcm hdc hcd
    simp only [List.cons.injEq, and_true] at he
    obtain ⟨rfl, rfl, rfl, rfl, rfl, rfl⟩ := he
    have K0 : Row ((w.alloc (.cells #[.int .i64 k, .int .u64 n, .string s, .slice A m cap, .int .i64 o, .slice B d capB] 25)).alloc (.cells #[.int .i64 k', .int .u64 n', .string s', .slice A' m' cap', .int .i64 o', .slice B' d' capB'] 25)) w.heap.size 25 [.int .i64 k, .int .u64 n, .string s, .slice A m cap, .int .i64 o, .slice B d capB] := (Row.alloc w _ _).keep0 ((Ch.refl No _).alloc _)
    have K1 := Row.alloc (w.alloc (.cells #[.int .i64 k, .int .u64 n, .string s, .slice A m cap, .int .i64 o, .slice B d capB] 25)) [.int .i64 k', .int .u64 n', .string s', .slice A' m' cap', .int .i64 o', .slice B' d' capB'] 25
    rw [World.size_alloc] at K1
    have C1 : Ch No w ((w.alloc (.cells #[.int .i64 k, .int .u64 n, .string s, .slice A m cap, .int .i64 o, .slice B d capB] 25)).alloc (.cells #[.int .i64 k', .int .u64 n', .string s', .slice A' m' cap', .int .i64 o', .slice B' d' capB'] 25)) := ((Ch.refl No w).alloc _).alloc _
    have p0 := K0.cell 0 _ rfl
    have r0 := K1.cell 0 _ rfl
    have p1 := K0.cell 1 _ rfl
    have r1 := K1.cell 1 _ rfl
    have p2 := K0.cell 2 _ rfl
    have r2 := K1.cell 2 _ rfl
    have p3 := K0.cell 3 _ rfl
    have r3 := K1.cell 3 _ rfl
    have p5 := K0.cell 5 _ rfl
    have r5 := K1.cell 5 _ rfl
    by_cases hk : k = k'
    rotate_left
    · have a1 : (k == k') = false := beq_eq_false_iff_ne.2 hk
      have a2 : (k != k') = true := bne_iff_ne.2 hk
      have a3 : decide (k = k') = false := decide_eq_false hk
      go_enter Tryd.func14, Tryd.ntmps14
      go_wp2_with fail
      all_goals (go_ret; exact ⟨false, rfl, C1⟩)
    subst hk
    by_cases hk : n = n'
    rotate_left
    · have a1 : (n == n') = false := beq_eq_false_iff_ne.2 hk
      have a2 : (n != n') = true := bne_iff_ne.2 hk
      have a3 : decide (n = n') = false := decide_eq_false hk
      go_enter Tryd.func14, Tryd.ntmps14
      go_wp2_with fail
      all_goals (go_ret; exact ⟨false, rfl, C1⟩)
    subst hk
    by_cases hst : s.toList = s'.toList
    rotate_left
    · have a1 : (s.toList == s'.toList) = false := beq_eq_false_iff_ne.2 hst
      have a2 : (s.toList != s'.toList) = true := bne_iff_ne.2 hst
      have a3 : decide (s.toList = s'.toList) = false := decide_eq_false hst
      go_enter Tryd.func14, Tryd.ntmps14
      go_wp2_with fail
      all_goals (go_ret; exact ⟨false, rfl, C1⟩)
    by_cases hk : m = m'
    rotate_left
    · have a0 : ¬ (m : Int) = m' := by omega
      have a1 : ((m : Int) == m') = false := beq_eq_false_iff_ne.2 a0
      have a2 : ((m : Int) != m') = true := bne_iff_ne.2 a0
      have a3 : decide ((m : Int) = m') = false := decide_eq_false a0
      go_enter Tryd.func14, Tryd.ntmps14
      go_wp2_with fail
      all_goals (go_ret; exact ⟨false, rfl, C1⟩)
    subst hk
    by_cases hk : d = d'
    rotate_left
    · have a0 : ¬ (d : Int) = d' := by omega
      have a1 : ((d : Int) == d') = false := beq_eq_false_iff_ne.2 a0
      have a2 : ((d : Int) != d') = true := bne_iff_ne.2 a0
      have a3 : decide ((d : Int) = d') = false := decide_eq_false a0
      go_enter Tryd.func14, Tryd.ntmps14
      go_wp2_with fail
      all_goals (go_ret; exact ⟨false, rfl, C1⟩)
    subst hk
    go_enter Tryd.func14, Tryd.ntmps14
    go_wp2_with fail
    go_loopg [46] m (fun q s46 wr => ∃ i : Nat, q + i = m ∧ s46 = .int .i64 i ∧ Ch No ((w.alloc (.cells #[.int .i64 k, .int .u64 n, .string s, .slice A m cap, .int .i64 o, .slice B d capB] 25)).alloc (.cells #[.int .i64 k, .int .u64 n, .string s', .slice A' m cap', .int .i64 o', .slice B' d capB'] 25)) wr)
    case atStart => exact ⟨0, by omega, rfl, Ch.refl _ _⟩
    case round =>
      obtain ⟨i, hki, rfl, hch⟩ := hrel
      have c3 := (K0.keep0 hch).cell 3 _ rfl
      have c5 := (K0.keep0 hch).cell 5 _ rfl
      have f3 := (K1.keep0 hch).cell 3 _ rfl
      have f5 := (K1.keep0 hch).cell 5 _ rfl
      have C2 := C1.no_no hch
      by_cases hi : i < m
      · obtain ⟨b1, o1, u0, u1, u2, u3, u4, u5, rfl, htk, a0, a1, a2, a3, a4, a5⟩ := ht.kid (w := wr) (hw.then_no C2) i hi
        obtain ⟨b2, o2, y0, y1, y2, y3, y4, y5, rfl, hxk, e0, e1, e2, e3, e4, e5⟩ := hx.kid (w := wr) (hw.then_no C2) i hi
        have hi' : (i : Int) < m := by omega
        have hi0 : (0 : Int) ≤ i := by omega
        have HCA := hid (fun w h => ihK ⟨i, hi⟩ _ u0 u1 u2 u3 u4 u5 y0 y1 y2 y3 y4 y5 w htk hxk h)
        clear ihK ihD
        go_wp2_with fail
        refine wp_region_still_tail 10 (by kernel_rfl) (by kernel_rfl) ?_
        simp only [List.take_succ_cons, List.take_zero, List.drop_succ_cons, List.drop_zero]
        change wpStill _ _ (World.drew _) _ _ _
        repeat still_step
        refine wpStill_nil ?_
        change wpList _ _ _ _ _ (World.drew _)
        go_wp2_with (go_at_call 14; refine (HCA.out _ ((hw.then_no C2).drew)).mono ?_; rintro e w5 ⟨bb, rfl, hch5⟩)
        · go_ret
          exact ⟨false, rfl, C2.drew.no_no hch5⟩
        · go_roundg (gk - 1)
          case measure => omega
          case rel => exact ⟨i + 1, by omega, by go_num, hch.drew.no_no hch5⟩
      · obtain rfl : m = i := by omega
        by_cases hd0 : d = 0
        · subst hd0
          go_wp2_with fail
          go_quiet (fail)
          go_wp2
          go_ret
          exact ⟨true, rfl, by repeat (first | exact C2 | apply Ch.drew | apply Ch.drewN)⟩
        · have hd1 : ((d : Int) == 0) = false := beq_eq_false_iff_ne.2 (by omega)
          have hd2 : decide ((d : Int) = 0) = false := decide_eq_false (by omega)
          have hd3 : ¬ (d : Int) = 0 := by omega
          have hd4 : (0 : Int) < d := by omega
          have hd5 : 0 < d := by omega
          obtain ⟨b1, o1, u0, u1, u2, u3, u4, u5, rfl, htk, a0, a1, a2, a3, a4, a5⟩ := ht.desc (w := wr) (hw.then_no C2) 0 hd5
          obtain ⟨b2, o2, y0, y1, y2, y3, y4, y5, rfl, hxk, e0, e1, e2, e3, e4, e5⟩ := hx.desc (w := wr) (hw.then_no C2) 0 hd5
          simp only [Nat.zero_mul, Nat.add_zero] at a0 a1 a2 a3 a4 a5 e0 e1 e2 e3 e4 e5
          have HCA := hid (fun w h => ihD ⟨0, hd5⟩ _ u0 u1 u2 u3 u4 u5 y0 y1 y2 y3 y4 y5 w htk hxk h)
          clear ihK ihD
          go_wp2_with fail
          refine wp_region_still_tail 13 (by kernel_rfl) (by kernel_rfl) ?_
          simp only [List.take_succ_cons, List.take_zero, List.drop_succ_cons, List.drop_zero]
          change wpStill _ _ (World.drew _) _ _ _
          repeat still_step
          refine wpStill_nil ?_
          change wpList _ _ _ _ _ (World.drew _)
          go_wp2_with (go_at_call 14; refine (HCA.out _ ((hw.then_no C2).drew)).mono ?_; rintro e w5 ⟨bb, rfl, hch5⟩)
          go_ret
          exact ⟨bb, rfl, C2.drew.no_no hch5⟩

end Go.Proofs.YtbdgkikipekmlaaDoor

namespace Go.Proofs.YtbdgkikipekmlaaDoor
set_option linter.unusedVariables false
set_option linter.unusedSimpArgs false
open Go.RowKit
/-- The elements are of one kind, with or without a descriptor. -/
def ArrF (o : Int) {m : Nat} (K : Fin m → Va) : Prop := (m = 0 → 0 ≤ o ∧ o < 24) ∧ ∀ i j : Fin m, (K i).kind = (K j).kind ∧ (K i).descs = (K j).descs
def AfTo (o : Int) {m : Nat} (K : Fin m → Va) (w : World) (e : Ending) (w' : World) : Prop := ∃ b : Bool, e = .returned (.bool b) ∧ Ch No w w' ∧ (b = true → ArrF o K)
set_option maxRecDepth 100000 in
set_option maxHeartbeats 4000000 in
theorem arrayFits_calls (w0 : World) (k n o : Int) (s : ByteArray) (m d : Nat) (K : Fin m → Va) (D : Fin d → Va) (A B : Option Addr) (cap capB : Nat) (w : World) (ht : VaP w0 (.mk k n s m K o d D) [.int .i64 k, .int .u64 n, .string s, .slice A m cap, .int .i64 o, .slice B d capB]) (hw : Ch (Fro w0.heap.size) w0 w) (hmb : m ≤ 9223372036854775807) :
    Calls Tryd.prog 104 #[.agg #[.int .i64 k, .int .u64 n, .string s, .slice A m cap, .int .i64 o, .slice B d capB]] w (AfTo o K w) := by
  have hB := Row.alloc w [.int .i64 k, .int .u64 n, .string s, .slice A m cap, .int .i64 o, .slice B d capB] 25
  have C1 : Ch No w (w.alloc (.cells #[.int .i64 k, .int .u64 n, .string s, .slice A m cap, .int .i64 o, .slice B d capB] 25)) := (Ch.refl No w).alloc _
  have p3 := hB.cell 3 _ rfl
  have p4 := hB.cell 4 _ rfl
  by_cases hm0 : m = 0
  · subst hm0
    have hfin : ∀ b : Bool, (b = true → 0 ≤ o ∧ o < 24) → AfTo o K w (.returned (.bool b)) (w.alloc (.cells #[.int .i64 k, .int .u64 n, .string s, .slice A 0 cap, .int .i64 o, .slice B d capB] 25)) := fun b hb => ⟨b, rfl, C1, fun h => ⟨fun _ => hb h, fun i => i.elim0⟩⟩
    by_cases h0 : 0 ≤ o
    · have a0 : decide (0 ≤ o) = true := decide_eq_true h0
      by_cases h1 : o < 24
      · have a1 : decide (o < 24) = true := decide_eq_true h1
        go_enter Tryd.func104, Tryd.ntmps104
        go_wp2_with fail
        go_ret
        exact hfin _ (fun _ => ⟨h0, h1⟩)
      · have a1 : decide (o < 24) = false := decide_eq_false h1
        go_enter Tryd.func104, Tryd.ntmps104
        go_wp2_with fail
        go_ret
        exact hfin _ (fun h => by cases h)
    · have a0 : decide (0 ≤ o) = false := decide_eq_false h0
      go_enter Tryd.func104, Tryd.ntmps104
      go_wp2_with fail
      go_ret
      exact hfin _ (fun h => by cases h)
  have hm1 : ((m : Int) == 0) = false := beq_eq_false_iff_ne.2 (by omega)
  have hm2 : decide ((m : Int) = 0) = false := decide_eq_false (by omega)
  have hmp : 0 < m := by omega
  have hmz : (0 : Int) < m := by omega
  go_enter Tryd.func104, Tryd.ntmps104
  go_wp2_with fail
  go_loopg [20] m (fun kk s20 wr => ∃ i : Nat, kk + i = m ∧ s20 = .int .i64 i ∧ Row wr w.heap.size 25 [.int .i64 k, .int .u64 n, .string s, .slice A m cap, .int .i64 o, .slice B d capB] ∧ Ch No w wr ∧ Hid (∀ j (h : j < m), j < i → (K ⟨j, h⟩).kind = (K ⟨0, hmp⟩).kind ∧ (K ⟨j, h⟩).descs = (K ⟨0, hmp⟩).descs))
  case atStart => exact ⟨0, by omega, rfl, hB, C1, hid (fun j _ h => by omega)⟩
  case round =>
    obtain ⟨i, hki, rfl, hbx, hch, HALL⟩ := hrel
    by_cases hi : i < m
    · obtain ⟨b1, o1, u0, u1, u2, u3, u4, u5, rfl, htk, a0, a1, a2, a3, a4, a5⟩ := ht.kid (w := wr) (hw.then_no hch) i hi
      obtain ⟨b2, o2, y0, y1, y2, y3, y4, y5, hbo, hxk, e0, e1, e2, e3, e4, e5⟩ := ht.kid (w := wr) (hw.then_no hch) 0 hmp
      injection hbo with hbo
      injection hbo with hb1 hb2
      subst hb1; subst hb2
      simp only [Nat.zero_mul, Nat.add_zero] at e0 e1 e2 e3 e4 e5
      have hi' : (i : Int) < m := by omega
      have hi0 : (0 : Int) ≤ i := by omega
      have hone := htk.one
      obtain ⟨k', n', s', m', K', o', d', D', hKi⟩ : ∃ k' n' s' m' K' o' d' D', K ⟨i, hi⟩ = Va.mk k' n' s' m' K' o' d' D' := by cases K ⟨i, hi⟩; exact ⟨_, _, _, _, _, _, _, _, rfl⟩
      obtain ⟨k2, n2, s2, m2, K2, q2, d2, D2, hK0⟩ : ∃ k' n' s' m' K' o' d' D', K ⟨0, hmp⟩ = Va.mk k' n' s' m' K' o' d' D' := by cases K ⟨0, hmp⟩; exact ⟨_, _, _, _, _, _, _, _, rfl⟩
      have HN : Hid (k' = k2 → d' = d2 → ∀ j (h : j < m), j < i + 1 → (K ⟨j, h⟩).kind = (K ⟨0, hmp⟩).kind ∧ (K ⟨j, h⟩).descs = (K ⟨0, hmp⟩).descs) := hid (fun h1 h2 j h hj => by
        by_cases hji : j < i
        · exact HALL.out j h hji
        · obtain rfl : j = i := by omega
          rw [hKi, hK0]
          exact ⟨h1, h2⟩)
      rw [hKi] at htk
      rw [hK0] at hxk
      have htk' := htk
      have hxk' := hxk
      obtain ⟨A', cap', B', capB', he', _, _, _, _, _, _, hdc, hcd, _⟩ := htk'
      simp only [List.cons.injEq, and_true] at he'
      obtain ⟨rfl, rfl, rfl, rfl, rfl, rfl⟩ := he'
      obtain ⟨A2, cap2, B2, capB2, he2, _⟩ := hxk'
      simp only [List.cons.injEq, and_true] at he2
      obtain ⟨rfl, rfl, rfl, rfl, rfl, rfl⟩ := he2
      clear hKi hK0 hdc hcd
      by_cases hk : k' = k2
      rotate_left
      · have x1 : (k' == k2) = false := beq_eq_false_iff_ne.2 hk
        have x2 : (k' != k2) = true := bne_iff_ne.2 hk
        have x3 : decide (k' = k2) = false := decide_eq_false hk
        go_wp2_with (first | ((with_reducible refine gate (.store 25 (.tmp 4) _) rfl ?_); refine wp_store rfl rfl 25 _ _ rfl wr.heap.size 0 25 VZ (.agg #[Value.int .i64 k', Value.int .u64 n', Value.string s', Value.slice A' m' cap', Value.int .i64 o', Value.slice B' d' capB']) rfl rfl [Value.int .i64 k', Value.int .u64 n', Value.string s', Value.slice A' m' cap', Value.int .i64 o', Value.slice B' d' capB'] rfl size_va hone (Row.alloc wr VZ 25) (by simp) ?_; intro w2 hrow2 hch2; have C2 := ((Ch.refl No wr).alloc _).freshg hch2 (Nat.le_refl _); have r3 := (hbx.keep0 C2).cell 3 _ rfl; have z0 := C2.cell0 e0; have z5 := C2.cell0 e5; have q0 : w2.cell? ⟨wr.heap.size, 0, none⟩ = some (Value.int .i64 k') := hrow2.cell 0 _ rfl; have q5 : w2.cell? ⟨wr.heap.size, 5, none⟩ = some (Value.slice B' d' capB') := hrow2.cell 5 _ rfl))
        go_quiet (fail)
        go_wp2_with fail
        go_ret
        exact ⟨false, rfl, by repeat (first | exact hch.no_no C2 | apply Ch.drew | apply Ch.drewN), fun h => by cases h⟩
      subst hk
      by_cases hd : d' = d2
      rotate_left
      · have x0 : ¬ (d' : Int) = d2 := by omega
        have x1 : ((d' : Int) == d2) = false := beq_eq_false_iff_ne.2 x0
        have x2 : ((d' : Int) != d2) = true := bne_iff_ne.2 x0
        have x3 : decide ((d' : Int) = d2) = false := decide_eq_false x0
        go_wp2_with (first | ((with_reducible refine gate (.store 25 (.tmp 4) _) rfl ?_); refine wp_store rfl rfl 25 _ _ rfl wr.heap.size 0 25 VZ (.agg #[Value.int .i64 k', Value.int .u64 n', Value.string s', Value.slice A' m' cap', Value.int .i64 o', Value.slice B' d' capB']) rfl rfl [Value.int .i64 k', Value.int .u64 n', Value.string s', Value.slice A' m' cap', Value.int .i64 o', Value.slice B' d' capB'] rfl size_va hone (Row.alloc wr VZ 25) (by simp) ?_; intro w2 hrow2 hch2; have C2 := ((Ch.refl No wr).alloc _).freshg hch2 (Nat.le_refl _); have r3 := (hbx.keep0 C2).cell 3 _ rfl; have z0 := C2.cell0 e0; have z5 := C2.cell0 e5; have q0 : w2.cell? ⟨wr.heap.size, 0, none⟩ = some (Value.int .i64 k') := hrow2.cell 0 _ rfl; have q5 : w2.cell? ⟨wr.heap.size, 5, none⟩ = some (Value.slice B' d' capB') := hrow2.cell 5 _ rfl))
        go_quiet (fail)
        go_wp2_with fail
        go_ret
        exact ⟨false, rfl, by repeat (first | exact hch.no_no C2 | apply Ch.drew | apply Ch.drewN), fun h => by cases h⟩
      subst hd
      by_cases h1 : d' = 1
      · subst h1
        obtain ⟨b3, o3, g0, g1, g2, g3, g4, g5, rfl, hgk, f0, f1, f2, f3, f4, f5⟩ := htk.desc (w := wr) (hw.then_no hch) 0 (by omega)
        obtain ⟨b4, o4, t0, t1, t2, t3, t4, t5, rfl, htk4, j0, j1, j2, j3, j4, j5⟩ := hxk.desc (w := wr) (hw.then_no hch) 0 (by omega)
        simp only [Nat.zero_mul, Nat.add_zero] at f0 f1 f2 f3 f4 f5 j0 j1 j2 j3 j4 j5
        have HCA := hid (fun w h => sameB_calls w0 _ _ g0 g1 g2 g3 g4 g5 t0 t1 t2 t3 t4 t5 w hgk htk4 h)
        go_wp2_with (first | ((with_reducible refine gate (.store 25 (.tmp 4) _) rfl ?_); refine wp_store rfl rfl 25 _ _ rfl wr.heap.size 0 25 VZ (.agg #[Value.int .i64 k', Value.int .u64 n', Value.string s', Value.slice A' m' cap', Value.int .i64 o', Value.slice (some ⟨b3, o3, none⟩) 1 capB']) rfl rfl [Value.int .i64 k', Value.int .u64 n', Value.string s', Value.slice A' m' cap', Value.int .i64 o', Value.slice (some ⟨b3, o3, none⟩) 1 capB'] rfl size_va hone (Row.alloc wr VZ 25) (by simp) ?_; intro w2 hrow2 hch2; have C2 := ((Ch.refl No wr).alloc _).freshg hch2 (Nat.le_refl _); have r3 := (hbx.keep0 C2).cell 3 _ rfl; have z0 := C2.cell0 e0; have z5 := C2.cell0 e5; have q0 : w2.cell? ⟨wr.heap.size, 0, none⟩ = some (Value.int .i64 k') := hrow2.cell 0 _ rfl; have q5 : w2.cell? ⟨wr.heap.size, 5, none⟩ = some (Value.slice (some ⟨b3, o3, none⟩) 1 capB') := hrow2.cell 5 _ rfl))
        have m0 := C2.cell0 f0
        have l0 := C2.cell0 j0
        have m1 := C2.cell0 f1
        have l1 := C2.cell0 j1
        have m2 := C2.cell0 f2
        have l2 := C2.cell0 j2
        have m3 := C2.cell0 f3
        have l3 := C2.cell0 j3
        have m4 := C2.cell0 f4
        have l4 := C2.cell0 j4
        have m5 := C2.cell0 f5
        have l5 := C2.cell0 j5
        refine wp_region_still_tail 37 (by kernel_rfl) (by kernel_rfl) ?_
        simp only [List.take_succ_cons, List.take_zero, List.drop_succ_cons, List.drop_zero]
        change wpStill _ _ (World.drew _) _ _ _
        repeat still_step
        refine wpStill_nil ?_
        change wpList _ _ _ _ _ (World.drew _)
        go_wp2_with (go_at_call 14; refine (HCA.out _ ((hw.then_no (hch.no_no C2)).drew)).mono ?_; rintro e w5 ⟨bb, rfl, hch5⟩)
        · go_ret
          exact ⟨false, rfl, (hch.no_no C2).drew.no_no hch5, fun h => by cases h⟩
        · go_roundg (gk - 1)
          case measure => omega
          case rel => exact ⟨i + 1, by omega, by go_num, hbx.keep0 (C2.drew.no_no hch5), (hch.no_no C2).drew.no_no hch5, hid (HN.out (by trivial) (by trivial))⟩
      · have x1 : ((d' : Int) == 1) = false := beq_eq_false_iff_ne.2 (by omega)
        have x3 : decide ((d' : Int) = 1) = false := decide_eq_false (by omega)
        go_wp2_with (first | ((with_reducible refine gate (.store 25 (.tmp 4) _) rfl ?_); refine wp_store rfl rfl 25 _ _ rfl wr.heap.size 0 25 VZ (.agg #[Value.int .i64 k', Value.int .u64 n', Value.string s', Value.slice A' m' cap', Value.int .i64 o', Value.slice B' d' capB']) rfl rfl [Value.int .i64 k', Value.int .u64 n', Value.string s', Value.slice A' m' cap', Value.int .i64 o', Value.slice B' d' capB'] rfl size_va hone (Row.alloc wr VZ 25) (by simp) ?_; intro w2 hrow2 hch2; have C2 := ((Ch.refl No wr).alloc _).freshg hch2 (Nat.le_refl _); have r3 := (hbx.keep0 C2).cell 3 _ rfl; have z0 := C2.cell0 e0; have z5 := C2.cell0 e5; have q0 : w2.cell? ⟨wr.heap.size, 0, none⟩ = some (Value.int .i64 k') := hrow2.cell 0 _ rfl; have q5 : w2.cell? ⟨wr.heap.size, 5, none⟩ = some (Value.slice B' d' capB') := hrow2.cell 5 _ rfl))
        go_quiet (fail)
        go_wp2_with fail
        go_roundg (gk - 1)
        case measure => omega
        case rel => exact ⟨i + 1, by omega, by go_num, hbx.keep0 (by repeat (first | exact C2 | apply Ch.drew | apply Ch.drewN)), by repeat (first | exact hch.no_no C2 | apply Ch.drew | apply Ch.drewN), hid (HN.out (by trivial) (by trivial))⟩

    · obtain rfl : m = i := by omega
      have e4 := hbx.cell 4 _ rfl
      by_cases h0 : o = 0
      · have x1 : (o == 0) = true := beq_iff_eq.2 h0
        go_wp2_with fail
        go_ret
        refine ⟨_, rfl, hch, fun _ => ⟨fun h => absurd h hm0, fun i j => ?_⟩⟩
        have h1 := HALL.out i.val i.isLt i.isLt
        have h2 := HALL.out j.val j.isLt j.isLt
        exact ⟨h1.1.trans h2.1.symm, h1.2.trans h2.2.symm⟩
      · have x1 : (o == 0) = false := beq_eq_false_iff_ne.2 h0
        have x3 : decide (o = 0) = false := decide_eq_false h0
        go_wp2_with fail
        go_ret
        exact ⟨false, rfl, hch, fun h => by cases h⟩
end Go.Proofs.YtbdgkikipekmlaaDoor
