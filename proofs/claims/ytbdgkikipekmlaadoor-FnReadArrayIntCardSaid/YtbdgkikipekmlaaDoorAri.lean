/- The walk of the reader of arrays of integers of 32 bits. The walk of impl.ReadArrayInt. No condition. -/
import Derived.Test.YtbdgkikipekmlaaDoorArQ
namespace Go.Proofs.YtbdgkikipekmlaaDoor
set_option linter.unusedVariables false
set_option linter.unusedSimpArgs false
open Go.RowKit

theorem info_i32 : (Tryd.prog.info? 21).map (fun i => (i.zero, i.size, i.bytes)) = some (some (.int .i32 0), 1, 4) := by kernel_rfl
theorem size_i32 : (Tryd.prog.info? 21).map (·.size) = some 1 := by kernel_rfl
theorem size_ai32 : (Tryd.prog.info? 103).map (·.size) = some 1 := by kernel_rfl
set_option maxRecDepth 100000 in
set_option maxHeartbeats 2000000 in
theorem arI1_zero {p q : Nat} {A : Option Addr} {c : Nat} {l : List Int} {j : Nat} {w : World}
    (hh : Calls Tryd.prog 80 #[.pointer (some ⟨p, 0, none⟩)] w (HdYes p A c l j 0 w)) (hj : j < l.length) (h84 : l[j] = 84)
    (hq : Row w q 103 [.slice none 0 0]) (hpq : q ≠ p) (hrq : 0 < l.length → ∀ ad, A = some ad → ad.block ≠ q) :
    Calls Tryd.prog 59 #[.pointer (some ⟨q, 0, none⟩), .pointer (some ⟨p, 0, none⟩)] w (ArYes (Value.int .i32) 103 p q A c l (j + 1) ([] : List Int) w) := by
  have hty := hid (fun W (hW : RbS p A c l j W) => rtype_ok hW hj)
  rw [h84] at hty
  have hnx := hid (fun W (hW : RbS p A c l (j + 1) W) => next_ok hW 0 (by omega) (by omega))
  have HRQ := hid (And.intro hrq (show 0 < l.length by omega))
  clear h84 hj hrq
  go_enter Tryd.func59, Tryd.ntmps59
  go_wp2_with fail
  refine hh.mono ?_
  rintro e w1 ⟨rfl, hb1, hch1⟩
  have q1 := (hq.keep hch1 hpq).cell 0 _ rfl
  go_wp2_with fail
  refine (hty.out w1 hb1).mono ?_
  rintro e w2 ⟨rfl, hb2, hch2⟩
  go_wp2_with fail
  refine (hnx.out w2 hb2).mono ?_
  rintro e w3 ⟨A8, c8, rfl, hr8, hc8, hb3, hch3, _⟩
  have C3 : Ch (fun b => b = p) w w3 := (hch1.trans hch2 (fun _ h => h) (fun _ h => .inl h)).trans hch3 (fun _ h => h) (fun _ h => .inl h)
  have hq3 := hq.keep C3 hpq
  have q0 := hq3.cell 0 _ rfl
  go_wp2_with fail
  go_loopg [61] 0 (fun kk s61 wr => s61 = .int .i64 0 ∧ Ch No w3 wr)
  case atStart => exact ⟨rfl, Ch.refl _ _⟩
  case round =>
    obtain ⟨rfl, hch⟩ := hrel
    have hqA := hq3.keep0 hch
    have HCA := hid ((C3.then_no hch).mono (T := fun b => b = p ∨ b = q) (fun _ h => .inl h))
    have HBA := hid (hb3.keep0 hch)
    go_wp2_with ((with_reducible refine gate (.store 103 (.tmp 113) _) rfl ?_); refine wp_store rfl rfl 103 _ _ rfl q 0 103 [.slice none 0 0] (.slice none 0 0) rfl rfl [.slice none 0 0] rfl size_ai32 (by simp [Value.oneCell']) hqA (by simp) ?_; intro w7 hrow7 hch7)
    go_ret
    exact ⟨rfl, none, 0, by simpa using hrow7, by simp, Rd.nil _ _ _, fun ad had => (by cases had), HBA.out.keepS hch7 (fun h => hpq (h : p = q).symm) (fun h0 ad had h => HRQ.out.1 h0 ad had h), HCA.out.trans hch7 (fun _ h => h) (fun _ h => .inl (.inr h))⟩
set_option maxRecDepth 100000 in
set_option maxHeartbeats 4000000 in
theorem arI1_yes {p q : Nat} {A : Option Addr} {c : Nat} {l : List Int} {j : Nat} {w : World} (m : Nat) (us : Nat → Int) (hm : m ≤ 1000) (hm0 : 0 < m)
    (hh : Calls Tryd.prog 80 #[.pointer (some ⟨p, 0, none⟩)] w (HdYes p A c l j m w)) (hj : j < l.length) (h84 : l[j] = 84) (hlen : j + 1 + m ≤ l.length) (hby : Byt l)
    (hq : Row w q 103 [.slice none 0 0]) (hpq : q ≠ p) (hpl : p < w.heap.size) (hrq : 0 < l.length → ∀ ad, A = some ad → ad.block ≠ q) (hus : ∀ i, i < m → ∀ h : j + 1 + i < l.length, IntKind.i8.wrap l[j + 1 + i] = us i ∧ IntKind.i32.wrap (us i) = us i) :
    Calls Tryd.prog 59 #[.pointer (some ⟨q, 0, none⟩), .pointer (some ⟨p, 0, none⟩)] w (ArYes (Value.int .i32) 103 p q A c l (j + 1 + m) ((List.range m).map us) w) := by
  have hty := hid (fun W (hW : RbS p A c l j W) => rtype_ok hW hj)
  rw [h84] at hty
  have hnx := hid (fun W (hW : RbS p A c l (j + 1) W) => next_ok hW (m) (by omega) (by omega))
  obtain ⟨X, hX⟩ : ∃ X, (l.drop (j + 1)).take (m) = X := ⟨_, rfl⟩
  have hXl : X.length = m := by rw [← hX, List.length_take, List.length_drop]; omega
  have hXb : Byt X := by rw [← hX]; exact (hby.drop _).take _
  have hXu : ∀ i, (h : i < X.length) → IntKind.i8.wrap X[i] = us i ∧ IntKind.i32.wrap (us i) = us i := fun i h => by
    have h9 := hus i (by omega) (by omega)
    subst hX
    rw [List.getElem_take, List.getElem_drop]
    exact h9
  have HX := hid (And.intro hXl (And.intro hXb hXu))
  have hnx' := hid (fun W (hW : RbS p A c l (j + 1) W) => (show ∀ e w', NxT p A c l (j + 1) (m) W e w' → ∃ A' c', e = .returned (.tuple #[.slice A' (m) c', .bool true]) ∧ Rd u8 w' A' X ∧ m ≤ c' ∧ RbS p A c l (j + 1 + m) w' ∧ Ch (fun b => b = p) W w' from fun e w' ⟨A', c', h1, h2, h3, h4, h5, _⟩ => ⟨A', c', h1, by rw [← hX]; exact h2, h3, h4, h5⟩))
  have hll : l.length ≤ 0 ∨ 0 < l.length := by omega
  have HRQ := hid (And.intro hrq (show 0 < l.length by omega))
  clear h84 hj hlen hby hus hX hXl hXb hXu hrq hll
  have hz1 : decide ((0 : Int) < m) = true := decide_eq_true (by omega)
  have hz2 : (0 : Int) < m := by omega
  go_enter Tryd.func59, Tryd.ntmps59
  go_wp2_with fail
  refine hh.mono ?_
  rintro e w1 ⟨rfl, hb1, hch1⟩
  have q1 := (hq.keep hch1 hpq).cell 0 _ rfl
  go_wp2_with fail
  refine (hty.out w1 hb1).mono ?_
  rintro e w2 ⟨rfl, hb2, hch2⟩
  go_wp2_with fail
  refine (hnx.out w2 hb2).mono ?_
  rintro e w3 hnt
  obtain ⟨A8, c8, rfl, hr8, hc8, hb3, hch3⟩ := hnx'.out w2 hb2 e w3 hnt
  clear hnt
  have C3 : Ch (fun b => b = p) w w3 := (hch1.trans hch2 (fun _ h => h) (fun _ h => .inl h)).trans hch3 (fun _ h => h) (fun _ h => .inl h)
  have hq3 := hq.keep C3 hpq
  have q0 := hq3.cell 0 _ rfl
  go_wp2_with (first | ((with_reducible refine gate (.makeSlice 54 _ _) rfl ?_); refine wp_make rfl 54 21 _ _ rfl (.int .i32 0) 4 Tryd.underlying54 info_i32 rfl _ _ m m m rfl rfl rfl rfl (by omega) (by omega) ?_; intro w4 hrow4 hch4))
  have hG : w.heap.size ≤ w3.heap.size := C3.size
  have hpG : p < w3.heap.size := Nat.lt_of_lt_of_le hpl hG
  have hqG : q < w3.heap.size := hq3.lt
  obtain ⟨G, hGe⟩ : ∃ G, w3.heap.size = G := ⟨_, rfl⟩
  rw [hGe] at hrow4 hG hpG hqG ⊢
  have HG := hid hGe
  rw [show (List.replicate m (Value.int .i32 0)) = half (fun t => .int .i32 (us t)) (.int .i32 0) m 0 from (half_zero _ _ _).symm] at hrow4
  have hr84 := hr8.keep0 hch4
  clear hGe
  go_loopg [61] m (fun kk s61 wr => ∃ i : Nat, kk + i = m ∧ s61 = .int .i64 i ∧ Row wr G 21 (half (fun t => .int .i32 (us t)) (.int .i32 0) m i) ∧ Ch (fun b => b = G) w4 wr)
  case atStart => exact ⟨0, by omega, rfl, hrow4, Ch.refl _ _⟩
  case round =>
    rename World => wA
    obtain ⟨i, hki, rfl, hrow, hch⟩ := hrel
    by_cases hi : i < m
    · have hi' : (i : Int) < m := by omega
      have hi0 : (0 : Int) ≤ i := by omega
      have hXA : Rd Go.Proofs.YtbdgkikipekmlaaDoor.u8 wA A8 X := hr84.keep hch (fun ad had h => by
        by_cases h0 : 0 < X.length
        · obtain ⟨b, o, e, hc⟩ := hr8.at_ 0 h0
          rw [had] at e
          injection e with e
          subst e
          have h9 := World.block_lt_of_cell? _ _ hc
          have h8 : b = G := h
          rw [HG.out] at h9
          simp only at h9
          omega
        · have := HX.out.1
          omega)
      have hiX : i < X.length := by rw [HX.out.1]; exact hi
      obtain ⟨b8, o8, rfl, hx⟩ := hXA.at_ i hiX
      have hxw := HX.out.2.2 i hiX
      generalize X[i] = x at hx hxw
      obtain ⟨hxw1, hxw2⟩ := hxw
      have hhl := half_len (fun t => Value.int .i32 (us t)) (.int .i32 0) m i (by omega)
      have HS := hid (half_step (fun t => Value.int .i32 (us t)) (.int .i32 0) m i hi)
      have hfz := hrow.frozen i
      have hcl := hrow.cell i _ (List.getElem?_eq_getElem (by omega))
      generalize (half (fun t => Value.int .i32 (us t)) (.int .i32 0) m i)[i]'(by omega) = z0 at hcl
      obtain ⟨H, hH⟩ : ∃ H, half (fun t => Value.int .i32 (us t)) (.int .i32 0) m i = H := ⟨_, rfl⟩
      rw [hH] at hrow hhl HS
      clear hH hXA
      go_wp2_with ((with_reducible refine gate (.store 21 (.tmp 71) _) rfl ?_); refine wp_store rfl rfl 21 _ _ rfl G i 21 H (.int .i32 (us i)) rfl rfl [.int .i32 (us i)] rfl size_i32 (by simp [Value.oneCell']) hrow (by simp; omega) ?_; intro w6 hrow6 hch6)
      have C6 : Ch (fun b => b = G) w4 w6 := hch.trans hch6 (fun _ h => h) (fun _ h => .inl h)
      have R6 : Row w6 G 21 (half (fun t => .int .i32 (us t)) (.int .i32 0) m (i + 1)) := by rw [← HS.out]; exact hrow6
      go_roundg (m - (i + 1))
      case measure => omega
      case rel => exact ⟨i + 1, by omega, by go_num, R6, C6⟩
    · obtain rfl : i = m := by omega
      have C4 : Ch (fun b => b = p ∨ b = q) w wA := ((C3.trans hch4 (fun _ h => h) (fun _ h => .inl h.elim)).trans hch (fun _ h => h) (fun b hb => .inr (by have h9 : b = G := hb; omega))).mono (fun _ h => .inl h)
      have hqA := (hq3.keep0 hch4).keep hch (fun h => by have h9 : q = G := h; omega)
      have HRD := hid (half_rd (g := Value.int .i32) hrow)
      have hbA : RbS p A c l (j + 1 + i) wA := (hb3.keep0 hch4).keepS hch (fun h => by have h9 : p = G := h; omega) (fun h0 ad had h => by have h9 : ad.block = G := h; have := hb3.lt h0 ad had; rw [HG.out] at this; omega)
      have HBA := hid hbA
      have HCA := hid C4
      clear hbA C4 hrow
      go_wp2_with ((with_reducible refine gate (.store 103 (.tmp 113) _) rfl ?_); refine wp_store rfl rfl 103 _ _ rfl q 0 103 [.slice none 0 0] (.slice (some ⟨G, 0, none⟩) i i) rfl rfl [.slice (some ⟨G, 0, none⟩) i i] rfl size_ai32 (by simp [Value.oneCell']) hqA (by simp) ?_; intro w7 hrow7 hch7)
      go_ret
      refine ⟨rfl, some ⟨G, 0, none⟩, i, by simpa using hrow7, by simp, HRD.out.keep hch7 (fun ad had h => by injection had with had; subst had; have h9 : G = q := h; omega), fun ad had => by injection had with had; subst had; exact hG, ?_, HCA.out.trans hch7 (fun _ h => h) (fun _ h => .inl (.inr h))⟩
      exact HBA.out.keepS hch7 (fun h => hpq (h : p = q).symm) (fun h0 ad had h => HRQ.out.1 h0 ad had h)
set_option maxRecDepth 100000 in
set_option maxHeartbeats 2000000 in
theorem arI4_zero {p q : Nat} {A : Option Addr} {c : Nat} {l : List Int} {j : Nat} {w : World}
    (hh : Calls Tryd.prog 80 #[.pointer (some ⟨p, 0, none⟩)] w (HdYes p A c l j 0 w)) (hj : j < l.length) (h113 : l[j] = 113)
    (hq : Row w q 103 [.slice none 0 0]) (hpq : q ≠ p) (hrq : 0 < l.length → ∀ ad, A = some ad → ad.block ≠ q) :
    Calls Tryd.prog 59 #[.pointer (some ⟨q, 0, none⟩), .pointer (some ⟨p, 0, none⟩)] w (ArYes (Value.int .i32) 103 p q A c l (j + 1) ([] : List Int) w) := by
  have hty := hid (fun W (hW : RbS p A c l j W) => rtype_ok hW hj)
  rw [h113] at hty
  have hnx := hid (fun W (hW : RbS p A c l (j + 1) W) => next_ok hW 0 (by omega) (by omega))
  have HRQ := hid (And.intro hrq (show 0 < l.length by omega))
  clear h113 hj hrq
  go_enter Tryd.func59, Tryd.ntmps59
  go_wp2_with fail
  refine hh.mono ?_
  rintro e w1 ⟨rfl, hb1, hch1⟩
  have q1 := (hq.keep hch1 hpq).cell 0 _ rfl
  go_wp2_with fail
  refine (hty.out w1 hb1).mono ?_
  rintro e w2 ⟨rfl, hb2, hch2⟩
  go_wp2_with fail
  refine (hnx.out w2 hb2).mono ?_
  rintro e w3 ⟨A8, c8, rfl, hr8, hc8, hb3, hch3, _⟩
  have C3 : Ch (fun b => b = p) w w3 := (hch1.trans hch2 (fun _ h => h) (fun _ h => .inl h)).trans hch3 (fun _ h => h) (fun _ h => .inl h)
  have hq3 := hq.keep C3 hpq
  have q0 := hq3.cell 0 _ rfl
  go_wp2_with fail
  go_loopg [15, 96] 0 (fun kk s15 s96 wr => s96 = .int .i64 0 ∧ Ch No w3 wr)
  case atStart => exact ⟨rfl, Ch.refl _ _⟩
  case round =>
    obtain ⟨rfl, hch⟩ := hrel
    have hqA := hq3.keep0 hch
    have HCA := hid ((C3.then_no hch).mono (T := fun b => b = p ∨ b = q) (fun _ h => .inl h))
    have HBA := hid (hb3.keep0 hch)
    go_wp2_with ((with_reducible refine gate (.store 103 (.tmp 113) _) rfl ?_); refine wp_store rfl rfl 103 _ _ rfl q 0 103 [.slice none 0 0] (.slice none 0 0) rfl rfl [.slice none 0 0] rfl size_ai32 (by simp [Value.oneCell']) hqA (by simp) ?_; intro w7 hrow7 hch7)
    go_ret
    exact ⟨rfl, none, 0, by simpa using hrow7, by simp, Rd.nil _ _ _, fun ad had => (by cases had), HBA.out.keepS hch7 (fun h => hpq (h : p = q).symm) (fun h0 ad had h => HRQ.out.1 h0 ad had h), HCA.out.trans hch7 (fun _ h => h) (fun _ h => .inl (.inr h))⟩
set_option maxRecDepth 100000 in
set_option maxHeartbeats 4000000 in
theorem arI4_yes {p q : Nat} {A : Option Addr} {c : Nat} {l : List Int} {j : Nat} {w : World} (m : Nat) (us : Nat → Int) (hm : m ≤ 1000) (hm0 : 0 < m)
    (hh : Calls Tryd.prog 80 #[.pointer (some ⟨p, 0, none⟩)] w (HdYes p A c l j m w)) (hj : j < l.length) (h113 : l[j] = 113) (hlen : j + 1 + 4 * m ≤ l.length) (hby : Byt l)
    (hq : Row w q 103 [.slice none 0 0]) (hpq : q ≠ p) (hpl : p < w.heap.size) (hrq : 0 < l.length → ∀ ad, A = some ad → ad.block ≠ q) (hus : ∀ i, i < m → IntKind.i32.wrap (beN ((l.drop (j + 1 + 4 * i)).take 4)) = us i) :
    Calls Tryd.prog 59 #[.pointer (some ⟨q, 0, none⟩), .pointer (some ⟨p, 0, none⟩)] w (ArYes (Value.int .i32) 103 p q A c l (j + 1 + 4 * m) ((List.range m).map us) w) := by
  have hty := hid (fun W (hW : RbS p A c l j W) => rtype_ok hW hj)
  rw [h113] at hty
  have hnx := hid (fun W (hW : RbS p A c l (j + 1) W) => next_ok hW (4 * m) (by omega) (by omega))
  obtain ⟨X, hX⟩ : ∃ X, (l.drop (j + 1)).take (4 * m) = X := ⟨_, rfl⟩
  have hXl : X.length = 4 * m := by rw [← hX, List.length_take, List.length_drop]; omega
  have hXb : Byt X := by rw [← hX]; exact (hby.drop _).take _
  have hXu : ∀ i, i < m → IntKind.i32.wrap (beN ((X.drop (4 * i)).take 4)) = us i := fun i hi => by
    rw [← hus i hi, ← hX, List.drop_take, List.take_take, List.drop_drop]
    congr 3
    omega
  have HX := hid (And.intro hXl (And.intro hXb hXu))
  have hnx' := hid (fun W (hW : RbS p A c l (j + 1) W) => (show ∀ e w', NxT p A c l (j + 1) (4 * m) W e w' → ∃ A' c', e = .returned (.tuple #[.slice A' (4 * m) c', .bool true]) ∧ Rd u8 w' A' X ∧ 4 * m ≤ c' ∧ RbS p A c l (j + 1 + 4 * m) w' ∧ Ch (fun b => b = p) W w' from fun e w' ⟨A', c', h1, h2, h3, h4, h5, _⟩ => ⟨A', c', h1, by rw [← hX]; exact h2, h3, h4, h5⟩))
  have hll : l.length ≤ 0 ∨ 0 < l.length := by omega
  have HRQ := hid (And.intro hrq (show 0 < l.length by omega))
  clear h113 hj hlen hby hus hX hXl hXb hXu hrq hll
  obtain ⟨M2, hM2⟩ : ∃ M2 : Nat, 4 * m = M2 := ⟨_, rfl⟩
  have hw2 : IntKind.i64.wrap ((m : Int) * 4) = M2 := by rw [← hM2]; simp [IntKind.wrap, IntKind.bits, IntKind.signed]; omega
  have hz1 : decide ((0 : Int) < m) = true := decide_eq_true (by omega)
  have hz2 : (0 : Int) < m := by omega
  have HM2 := hid hM2
  rw [hM2] at hnx hnx'
  clear hM2
  go_enter Tryd.func59, Tryd.ntmps59
  go_wp2_with fail
  refine hh.mono ?_
  rintro e w1 ⟨rfl, hb1, hch1⟩
  have q1 := (hq.keep hch1 hpq).cell 0 _ rfl
  go_wp2_with fail
  refine (hty.out w1 hb1).mono ?_
  rintro e w2 ⟨rfl, hb2, hch2⟩
  go_wp2_with fail
  refine (hnx.out w2 hb2).mono ?_
  rintro e w3 hnt
  obtain ⟨A8, c8, rfl, hr8, hc8, hb3, hch3⟩ := hnx'.out w2 hb2 e w3 hnt
  clear hnt
  have C3 : Ch (fun b => b = p) w w3 := (hch1.trans hch2 (fun _ h => h) (fun _ h => .inl h)).trans hch3 (fun _ h => h) (fun _ h => .inl h)
  have hq3 := hq.keep C3 hpq
  have q0 := hq3.cell 0 _ rfl
  go_wp2_with (first | ((with_reducible refine gate (.makeSlice 54 _ _) rfl ?_); refine wp_make rfl 54 21 _ _ rfl (.int .i32 0) 4 Tryd.underlying54 info_i32 rfl _ _ m m m rfl rfl rfl rfl (by omega) (by omega) ?_; intro w4 hrow4 hch4))
  have hG : w.heap.size ≤ w3.heap.size := C3.size
  have hpG : p < w3.heap.size := Nat.lt_of_lt_of_le hpl hG
  have hqG : q < w3.heap.size := hq3.lt
  obtain ⟨G, hGe⟩ : ∃ G, w3.heap.size = G := ⟨_, rfl⟩
  rw [hGe] at hrow4 hG hpG hqG ⊢
  have HG := hid hGe
  rw [show (List.replicate m (Value.int .i32 0)) = half (fun t => .int .i32 (us t)) (.int .i32 0) m 0 from (half_zero _ _ _).symm] at hrow4
  have hr84 := hr8.keep0 hch4
  clear hGe
  go_loopg [15, 96] m (fun kk s15 s96 wr => ∃ i : Nat, kk + i = m ∧ s15 = .int .i64 ((4 * i : Nat) : Int) ∧ s96 = .int .i64 i ∧ Row wr G 21 (half (fun t => .int .i32 (us t)) (.int .i32 0) m i) ∧ Ch (fun b => b = G) w4 wr)
  case atStart => exact ⟨0, by omega, rfl, rfl, hrow4, Ch.refl _ _⟩
  case round =>
    rename World => wA
    obtain ⟨i, hki, rfl, rfl, hrow, hch⟩ := hrel
    by_cases hi : i < m
    · have hi' : (i : Int) < m := by omega
      have hi0 : (0 : Int) ≤ i := by omega
      have hXA : Rd Go.Proofs.YtbdgkikipekmlaaDoor.u8 wA A8 X := hr84.keep hch (fun ad had h => by
        by_cases h0 : 0 < X.length
        · obtain ⟨b, o, e, hc⟩ := hr8.at_ 0 h0
          rw [had] at e
          injection e with e
          subst e
          have h9 := World.block_lt_of_cell? _ _ hc
          have h8 : b = G := h
          rw [HG.out] at h9
          simp only at h9
          omega
        · have := HX.out.1
          omega)
      have hM2 := HM2.out
      obtain ⟨A', k2, k3, hcut⟩ := Cut.ahead_l 26 5 Tryd.underlying26 size_u8' A8 M2 c8 ((4 * i : Nat) : Int) (4 * i) rfl .i64 (by omega)
      have hXl : X.length = M2 := by rw [HX.out.1]; exact hM2
      have hrd := hcut.drop hXA hXl hc8
      have hdl : (X.drop (4 * i)).length = M2 - 4 * i := by rw [List.length_drop, hXl]
      have hbe := hid (fun W (hW : Ch No wA W) => be32_calls A' (c8 - 4 * i) (X.drop (4 * i)) W (hrd.keep0 hW) (HX.out.2.1.drop _) (by omega))
      have hzw := HX.out.2.2 i hi
      rw [hdl] at hbe
      generalize beN ((X.drop (4 * i)).take 4) = zz at hbe hzw
      have hx0 : (0 : Int) ≤ ((4 * i : Nat) : Int) := by omega
      have hx1 : ((4 * i : Nat) : Int) ≤ M2 := by omega
      have hxw : IntKind.i64.wrap (((4 * i : Nat) : Int) + 4) = ((4 * (i + 1) : Nat) : Int) := by simp [IntKind.wrap, IntKind.bits, IntKind.signed]; omega
      have hhl := half_len (fun t => Value.int .i32 (us t)) (.int .i32 0) m i (by omega)
      have HS := hid (half_step (fun t => Value.int .i32 (us t)) (.int .i32 0) m i hi)
      have hfz := hrow.frozen i
      have hcl := hrow.cell i _ (List.getElem?_eq_getElem (by omega))
      generalize (half (fun t => Value.int .i32 (us t)) (.int .i32 0) m i)[i]'(by omega) = z0 at hcl
      obtain ⟨H, hH⟩ : ∃ H, half (fun t => Value.int .i32 (us t)) (.int .i32 0) m i = H := ⟨_, rfl⟩
      rw [hH] at hrow hhl HS
      clear hH hrd hdl hXl hM2 hcut hXA
      generalize ((4 * i : Nat) : Int) = BI at k2 k3 hx0 hx1 hxw ⊢
      generalize M2 - 4 * i = Q at k2 k3 hbe
      generalize c8 - 4 * i = cq at k2 k3 hbe
      go_wp2_with fail
      go_region_held3 (fun _ => True) (first | exact trivial) (first | (go_at_call 84; refine (hbe.out _ (Ch.refl No wA).drew).mono ?_; rintro e w5 ⟨rfl, hch5⟩; have hrow5 := (hrow.keep0 (Ch.refl No wA).drew).keep0 hch5; have hcl5 := hch5.cell0 ((Ch.refl No wA).drew.cell0 hcl); have hfz5 := hrow5.frozen i))
      obtain ⟨r1, r2⟩ := Row.sets [.int .i32 (us i)] i w5 H hrow5 (by simp; omega)
      have C6 : Ch (fun b => b = G) w4 (w5.setCell ⟨G, i, none⟩ (.int .i32 (us i))) := (hch.then_no ((Ch.refl No wA).drew.no_no hch5)).trans r2 (fun _ h => h) (fun _ h => .inl h)
      have R6 : Row (w5.setCell ⟨G, i, none⟩ (.int .i32 (us i))) G 21 (half (fun t => .int .i32 (us t)) (.int .i32 0) m (i + 1)) := by rw [← HS.out]; exact r1
      generalize w5.setCell ⟨G, i, none⟩ (.int .i32 (us i)) = w6 at C6 R6 ⊢
      clear r1 r2
      go_wp2_with fail
      go_roundg (m - (i + 1))
      case measure => omega
      case rel => exact ⟨i + 1, by omega, by first | rfl | go_num, by go_num, R6, C6⟩
    · obtain rfl : i = m := by omega
      have C4 : Ch (fun b => b = p ∨ b = q) w wA := ((C3.trans hch4 (fun _ h => h) (fun _ h => .inl h.elim)).trans hch (fun _ h => h) (fun b hb => .inr (by have h9 : b = G := hb; omega))).mono (fun _ h => .inl h)
      have hqA := (hq3.keep0 hch4).keep hch (fun h => by have h9 : q = G := h; omega)
      have HRD := hid (half_rd (g := Value.int .i32) hrow)
      have hbA : RbS p A c l (j + 1 + M2) wA := (hb3.keep0 hch4).keepS hch (fun h => by have h9 : p = G := h; omega) (fun h0 ad had h => by have h9 : ad.block = G := h; have := hb3.lt h0 ad had; rw [HG.out] at this; omega)
      have HBA := hid hbA
      have HCA := hid C4
      clear hbA C4 hrow
      go_wp2_with ((with_reducible refine gate (.store 103 (.tmp 113) _) rfl ?_); refine wp_store rfl rfl 103 _ _ rfl q 0 103 [.slice none 0 0] (.slice (some ⟨G, 0, none⟩) i i) rfl rfl [.slice (some ⟨G, 0, none⟩) i i] rfl size_ai32 (by simp [Value.oneCell']) hqA (by simp) ?_; intro w7 hrow7 hch7)
      go_ret
      have hM2 := HM2.out
      refine ⟨rfl, some ⟨G, 0, none⟩, i, by simpa using hrow7, by simp, HRD.out.keep hch7 (fun ad had h => by injection had with had; subst had; have h9 : G = q := h; omega), fun ad had => by injection had with had; subst had; exact hG, ?_, HCA.out.trans hch7 (fun _ h => h) (fun _ h => .inl (.inr h))⟩
      have h9 := HBA.out.keepS hch7 (fun h => hpq (h : p = q).symm) (fun h0 ad had h => HRQ.out.1 h0 ad had h)
      rw [← hM2] at h9
      exact h9
set_option maxRecDepth 100000 in
theorem arI_head {p q : Nat} {w : World} (hh : Calls Tryd.prog 80 #[.pointer (some ⟨p, 0, none⟩)] w (HdNo p w)) (hq : Row w q 103 [.slice none 0 0]) (hpq : q ≠ p) :
    Calls Tryd.prog 59 #[.pointer (some ⟨q, 0, none⟩), .pointer (some ⟨p, 0, none⟩)] w (ArNo 103 p q w) := by
  go_enter Tryd.func59, Tryd.ntmps59
  go_wp2_with fail
  refine hh.mono ?_
  rintro e w1 ⟨z, T, v, rfl, hch1⟩
  go_wp2_with fail
  go_ret
  exact ⟨T, v, rfl, hq.keep hch1 hpq, hch1.mono (fun _ h => .inl h)⟩
set_option maxRecDepth 100000 in
theorem arI_code {p q : Nat} {A : Option Addr} {c : Nat} {l : List Int} {j : Nat} {n : Int} {w : World}
    (hh : Calls Tryd.prog 80 #[.pointer (some ⟨p, 0, none⟩)] w (HdYes p A c l j n w)) (hj : j < l.length) (h84 : l[j] ≠ 84) (h113 : l[j] ≠ 113) (hq : Row w q 103 [.slice none 0 0]) (hpq : q ≠ p) :
    Calls Tryd.prog 59 #[.pointer (some ⟨q, 0, none⟩), .pointer (some ⟨p, 0, none⟩)] w (ArNo 103 p q w) := by
  have hty := hid (fun W (hW : RbS p A c l j W) => rtype_ok hW hj)
  generalize l[j] = x at hty h84 h113
  have e7 : (x == 84) = false := beq_eq_false_iff_ne.2 h84
  have f7 : (x != 84) = true := bne_iff_ne.2 h84
  have g7 : decide (x = 84) = false := decide_eq_false h84
  have e8 : (x == 113) = false := beq_eq_false_iff_ne.2 h113
  have f8 : (x != 113) = true := bne_iff_ne.2 h113
  have g8 : decide (x = 113) = false := decide_eq_false h113
  clear h84 h113 hj
  go_enter Tryd.func59, Tryd.ntmps59
  go_wp2_with fail
  refine hh.mono ?_
  rintro e w1 ⟨rfl, hb1, hch1⟩
  have q1 := (hq.keep hch1 hpq).cell 0 _ rfl
  go_wp2_with fail
  refine (hty.out w1 hb1).mono ?_
  rintro e w2 ⟨rfl, hb2, hch2⟩
  go_wp2_with (go_at_call 76; refine (errNew_calls _ _).mono ?_; rintro e w9 ⟨T, v, rfl, hch9⟩)
  go_ret
  have C2 := (hch1.trans hch2 (fun _ h => h) (fun _ h => .inl h)).then_no hch9
  exact ⟨T, v, rfl, hq.keep C2 hpq, C2.mono (fun _ h => .inl h)⟩
end Go.Proofs.YtbdgkikipekmlaaDoor

namespace Go.Proofs.YtbdgkikipekmlaaDoor
set_option linter.unusedVariables false
set_option linter.unusedSimpArgs false
open Go.RowKit
theorem size_gi32 : (Tryd.prog.info? 54).map (·.size) = some 1 := by kernel_rfl
set_option maxRecDepth 100000 in
theorem behind_ai32_ok {p : Nat} {A : Option Addr} {c : Nat} {l : List Int} {i : Nat} {w : World} (h : RbS p A c l i w) (A9 : Option Addr) (n9 c9 : Nat) :
    Calls Tryd.prog 60 #[.slice A9 n9 c9, .pointer (some ⟨p, 0, none⟩), .nilIface] w (BhT (.slice A9 n9 c9) (l.drop i) w) := by
  have hb := hid (bytes_calls h)
  have hl : (l.drop i).length ≤ 35184372088832 := by rw [List.length_drop]; have := h.lb; omega
  generalize l.drop i = X at hb hl ⊢
  have HL := hid hl
  clear h hl
  go_enter Tryd.func60, Tryd.ntmps60
  go_wp2_with fail
  refine hb.out.mono ?_
  rintro e w1 ⟨A1, c1, rfl, hr1, hc1, hch1⟩
  obtain ⟨q, hq⟩ : ∃ q, X.length = q := ⟨_, rfl⟩
  have hcp := hid (copied_calls A1 c1 X w1 hr1 HL.out)
  rw [hq] at hcp ⊢
  have HQ := hid hq
  clear hq
  go_wp2_with fail
  refine hcp.out.mono ?_
  rintro e w2 ⟨v2, rfl, ho2, hf2, hch2⟩
  obtain ⟨A2, c2, rfl, _, _⟩ := ho2.slice
  rw [HQ.out]
  go_wp2_with fail
  go_ret3
  unfold BhT
  rw [HQ.out]
  rw [HQ.out] at ho2 hf2
  exact ⟨A2, c2, rfl, ho2, hf2.weak hch1.size, hch1.no_no hch2⟩
set_option maxRecDepth 100000 in
theorem behind_ai32_no (A9 : Option Addr) (n9 c9 : Nat) (p : Value) (T : TypeId) (v : Value) (w : World) :
    Calls Tryd.prog 60 #[.slice A9 n9 c9, p, .iface T v] w (BhNo (.slice none 0 0) w) := by
  go_enter Tryd.func60, Tryd.ntmps60
  go_wp2_with fail
  go_ret3
  exact ⟨rfl, Ch.refl _ _⟩
theorem noValue_ai32_idle (p q r : Addr) (w : World) :
    CallsD Tryd.prog 58 #[.pointer (some p), .pointer (some q), .pointer (some r)] .returning w fun e u' w' => e = .returned (.tuple #[]) ∧ u' = .returning ∧ w' = w := by
  refine callsD_of_wpS Tryd.func58 rfl fun c₀ cs hu => ?_
  apply wpS_seq
  apply wpS_region
  simp [wpOpsS, go_sem, recoverD, hu, Tryd.ntmps58, Exit.thenS]
  refine wpS_cond (t := false) (by simp [Act.eval, Array.replicate]) ?_
  simp only [Bool.false_eq_true, if_false]
  refine wpS_of_wp (wp_skip ?_)
  cases c₀
  simp_all [bodyPostS, results, Tryd.results58]
set_option maxRecDepth 100000 in
set_option maxHeartbeats 2000000 in
theorem implArrI32_ok (A0 : Option Addr) (c0 : Nat) (l : List Int) (w : World) (hr0 : Rd u8 w A0 l) (hl : l.length ≤ 1099511627776) (j : Nat) (es : List Int) (hes : es.length ≤ 1000)
    (hrd : ∀ (p q : Nat) (A : Option Addr) (c : Nat) (W : World), RbS p A c l 0 W → Row W q 103 [.slice none 0 0] → q ≠ p → p < W.heap.size → (0 < l.length → ∀ ad, A = some ad → ad.block ≠ q) → Calls Tryd.prog 59 #[.pointer (some ⟨q, 0, none⟩), .pointer (some ⟨p, 0, none⟩)] W (ArYes (Value.int .i32) 103 p q A c l j es W)) :
    Calls Tryd.prog 27 #[.slice A0 l.length c0] w (RsT (Value.int .i32) es (l.drop j) w) := by
  have R0 : Row (((w.alloc (.cells #[.slice none 0 0] 54)).alloc (.cells #[.slice none 0 0] 26)).alloc (.cells #[.bool false] 4)) w.heap.size 54 [.slice none 0 0] := ((Row.alloc w [.slice none 0 0] 54).keep0 ((Ch.refl No _).alloc _)).keep0 ((Ch.refl No _).alloc _)
  have R1 : Row (((w.alloc (.cells #[.slice none 0 0] 54)).alloc (.cells #[.slice none 0 0] 26)).alloc (.cells #[.bool false] 4)) (w.heap.size + 1) 26 [.slice none 0 0] := by
    have h := (Row.alloc (w.alloc (.cells #[.slice none 0 0] 54)) [.slice none 0 0] 26).keep0 ((Ch.refl No _).alloc (.cells #[.bool false] 4))
    rwa [World.size_alloc] at h
  have R2 : Row (((w.alloc (.cells #[.slice none 0 0] 54)).alloc (.cells #[.slice none 0 0] 26)).alloc (.cells #[.bool false] 4)) (w.heap.size + 1 + 1) 4 [.bool false] := by
    have h := Row.alloc ((w.alloc (.cells #[.slice none 0 0] 54)).alloc (.cells #[.slice none 0 0] 26)) [.bool false] 4
    rwa [World.size_alloc, World.size_alloc] at h
  have C3 : Ch No w (((w.alloc (.cells #[.slice none 0 0] 54)).alloc (.cells #[.slice none 0 0] 26)).alloc (.cells #[.bool false] 4)) := (((Ch.refl No w).alloc _).alloc _).alloc _
  have s3 : (((w.alloc (.cells #[.slice none 0 0] 54)).alloc (.cells #[.slice none 0 0] 26)).alloc (.cells #[.bool false] 4)).heap.size = w.heap.size + 1 + 1 + 1 := by simp
  have hcp := hid (copied_calls A0 c0 l _ (hr0.keep0 C3) (by omega))
  have HN := hid (fun (A : Option Addr) (c : Nat) (W : World) (h : Ow 5 u8 W (.slice A l.length c) l) => new_calls A c l W h hl)
  have HRD := hid hrd
  have HBH := hid (fun (p : Nat) (A : Option Addr) (c : Nat) (W : World) (A9 : Option Addr) (n9 c9 : Nat) (h : RbS p A c l j W) => behind_ai32_ok h A9 n9 c9)
  generalize l.drop j = X at HBH ⊢
  clear hrd
  obtain ⟨N, hN⟩ : ∃ N, l.length = N := ⟨_, rfl⟩
  have HLN := hid hN
  rw [hN] at hcp ⊢
  clear hN hr0
  go_enter_defers Tryd.func27, Tryd.ntmps27
  go_wp2_with fail
  refine hcp.out.mono ?_
  rintro e w1 ⟨v1, rfl, ho1, hfr1, hch1⟩
  obtain ⟨A1, c1, rfl, _, _⟩ := ho1.slice
  have hnew := HN.out A1 c1 w1 ho1
  rw [HLN.out] at hnew ⊢
  have s1 := hch1.size
  rw [s3] at s1
  go_wp2_with fail
  refine hnew.mono ?_
  rintro e w2 ⟨p, A2, c2, rfl, hb2, hp2, hAe, hch2⟩
  have HAN : Hid (∀ ad, A2 = some ad → w.heap.size + 1 + 1 + 1 ≤ ad.block) := hid (fun ad had => by
    have h9 := hfr1 ad.block (by rw [← hAe.out, had]; rfl)
    rw [s3] at h9
    exact h9)
  clear hAe
  have K0 := (R0.keep0 hch1).keep0 hch2
  have K1 := (R1.keep0 hch1).keep0 hch2
  have K2 := (R2.keep0 hch1).keep0 hch2
  have C2 : Ch No w w2 := (C3.no_no hch1).no_no hch2
  have s2 := hch2.size
  have hap2 : 0 < l.length → ∀ ad, A2 = some ad → ad.block ≠ w2.heap.size := fun hp ad had h => by
    have := hb2.lt hp ad had
    omega
  have HAP2 := hid hap2
  have hpl := hb2.rp.lt
  have RM := Row.alloc w2 [.slice none 0 0] 103
  have AL := (Ch.refl No w2).alloc (.cells #[.slice none 0 0] 103)
  have sal := AL.size
  have HB2 := hid (hb2.keep0 AL)
  clear hap2 hb2
  go_wp2_with fail
  refine (HRD.out p w2.heap.size A2 c2 _ HB2.out RM (by omega) (by simp; omega) HAP2.out).mono ?_
  rintro e w3 ⟨rfl, A9, c9, hrm, hc9, hr9, hap9, hb3, hch3⟩
  obtain ⟨N9, hN9⟩ : ∃ N9, es.length = N9 := ⟨_, rfl⟩
  have HN9 := hid hN9
  rw [hN9] at hrm hc9 hes
  clear hN9
  have m0 := hrm.cell 0 _ rfl
  have C3' : Ch No w w3 := (C2.no_no AL).trans hch3 (fun _ h => h) (fun b hb => .inr (by rcases hb with h | h <;> omega))
  have s33 := hch3.size
  replace K0 := ((K0.keep0 AL).keep hch3 (fun h => by rcases h with h | h <;> omega))
  replace K1 := ((K1.keep0 AL).keep hch3 (fun h => by rcases h with h | h <;> omega))
  replace K2 := ((K2.keep0 AL).keep hch3 (fun h => by rcases h with h | h <;> omega))
  go_wp2_with fail
  go_loopg [17] N9 (fun kk s17 wr => ∃ (i : Nat) (v : Value), kk + i = N9 ∧ s17 = .int .i64 i ∧ Row wr w.heap.size 54 [v] ∧ Ow 21 (Value.int .i32) wr v (es.take i) ∧ Fr w3 v ∧ Ch (fun b => b = w.heap.size) w3 wr)
  case atStart => exact ⟨0, _, by omega, rfl, K0, Ow.nil _ _ _, Fr.nil _ _ _, Ch.refl _ _⟩
  case round =>
    rename World => wA
    obtain ⟨i, v, hki, rfl, hrow, HO, hfr, hch⟩ := hrel
    obtain ⟨Av, cv, rfl, hcv, _⟩ := HO.slice
    have k0 := hrow.cell 0 _ rfl
    have s3A := hch.size
    by_cases hi : i < N9
    · have hi' : (i : Int) < N9 := by omega
      have hi0 : (0 : Int) ≤ i := by omega
      have hie : i < es.length := by rw [HN9.out]; exact hi
      have hr9A := hr9.keep hch (fun ad had h => by have := hap9 ad had; have h9 : ad.block = w.heap.size := h; omega)
      obtain ⟨b9, o9, rfl, hx⟩ := hr9A.at_ i hie
      have HT := hid (List.take_succ_eq_append_getElem hie)
      have htl : (es.take i).length ≤ 1000 := by rw [List.length_take, HN9.out]; omega
      generalize es[i] = x at hx HT
      obtain ⟨E, hE⟩ : ∃ E, es.take i = E := ⟨_, rfl⟩
      rw [hE] at HO HT htl hcv hrow hfr k0
      clear hE hr9A
      replace hx : wA.cell? ⟨b9, o9 + i, none⟩ = some (Value.int .i32 x) := hx
      go_wp2_with (first | ((with_reducible refine gate (.call { callee := .builtin .append, args := #[.tmp 21, .tmp 23], argTypes := #[54, 54] }) rfl ?_); refine wp_append rfl _ _ 54 21 (.int .i32 0) 4 rfl Tryd.underlying54 info_i32 rfl (by decide) (Value.int .i32) (fun _ => rfl) _ E [x] _ _ _ rfl rfl rfl (HO.keep0 ((Ch.refl No wA).alloc _)) ((Row.alloc wA [Value.int .i32 x] 21).rd (l := [x]) rfl) (by omega) ?_; intro v5 w5 ho5 hch5 hat5; obtain ⟨A5, c5, rfl, hc5, _⟩ := ho5.slice; have hrow5 := (hrow.keep0 ((Ch.refl No wA).alloc (.cells #[Value.int .i32 x] 21))).keep hch5 (fun h => by have := hfr _ h; have := K0.lt; omega)) | ((with_reducible refine gate (.store 54 (.tmp 2) (.tmp 24)) rfl ?_); refine wp_store rfl rfl 54 _ _ rfl (w.heap.size) 0 54 [.slice Av E.length cv] (.slice A5 (E ++ [x]).length c5) rfl rfl [.slice A5 (E ++ [x]).length c5] rfl size_gi32 (by simp [Value.oneCell']) hrow5 (by simp) ?_; intro w6 hrow6 hch6))
      have hf5 : Fr w3 (.slice A5 (E ++ [x]).length c5) := fun b hb => (hat5 b hb).elim (fun h => hfr b h) (fun h => by simp only [World.size_alloc] at h; omega)
      have C5 : Ch (fun b => b = w.heap.size) w3 w5 := (hch.alloc _).trans hch5 (fun _ h => h) (fun b hb => .inr (hfr b hb))
      go_roundg (N9 - (i + 1))
      case measure => omega
      case rel => exact ⟨i + 1, _, by omega, by go_num, by simpa using hrow6, by rw [HT.out]; exact ho5.keep hch6 (fun b hb h => by have := hf5 b hb; have h9 : b = w.heap.size := h; omega), hf5, C5.trans hch6 (fun _ h => h) (fun _ h => .inl h)⟩
    · obtain rfl : i = N9 := by omega
      rw [List.take_of_length_le (by rw [HN9.out]; exact Nat.le_refl _)] at HO hcv hrow hfr k0
      have hHN := HN9.out
      rw [hHN] at HO hcv hrow hfr k0
      have HV : Hid ((∀ ad, Av = some ad → w.heap.size + 1 + 1 + 1 ≤ ad.block) ∧ Rd (Value.int .i32) wA Av es ∧ es.length ≤ cv) := hid ⟨fun ad had => (by have := hfr ad.block (by subst had; rfl); omega), HO.rd, by rw [hHN]; exact hcv⟩
      have hbA := hb3.keepS hch (fun h => by have h9 : p = w.heap.size := h; omega) (fun h0 ad had h => by have h9 : ad.block = w.heap.size := h; have := HAN.out ad had; omega)
      have HBA := hid hbA
      have C4' : Ch No w wA := C3'.trans hch (fun _ h => h) (fun b hb => .inr (by have h9 : b = w.heap.size := hb; omega))
      have K1' := K1.keep hch (fun h => by have h9 : w.heap.size + 1 = w.heap.size := h; omega)
      have K2' := K2.keep hch (fun h => by have h9 : w.heap.size + 1 + 1 = w.heap.size := h; omega)
      clear HO hfr hbA hHN hcv
      go_wp2_with fail
      refine (HBH.out p A2 c2 wA Av i cv HBA.out).mono ?_
      rintro e w4 ⟨A4, c4, rfl, ho4, hf4, hch4⟩
      have HV4 : Hid ((∀ ad, Av = some ad → w.heap.size + 1 + 1 + 1 ≤ ad.block) ∧ Rd (Value.int .i32) w4 Av es) := hid ⟨HV.out.1, HV.out.2.1.keep0 hch4⟩
      have C4 : Ch No w w4 := C4'.no_no hch4
      have K0 := hrow.keep0 hch4
      have K1 := K1'.keep0 hch4
      have K2 := K2'.keep0 hch4
      obtain ⟨q, hq⟩ : ∃ q, X.length = q := ⟨_, rfl⟩
      have HQ := hid hq
      have hle4 := ho4.le
      have hrd4 := ho4.rd
      have hap4 : ∀ ad, A4 = some ad → w.heap.size + 1 + 1 + 1 ≤ ad.block := fun ad h => by
        rcases ho4.form with ⟨h1, _⟩ | ⟨g, c', cur, h1, _, _, h2, _⟩
        · injection h1 with h1; rw [h] at h1; cases h1
        · injection h1 with h1 _ _
          rw [h] at h1
          injection h1 with h1
          subst h1; subst h
          have h9 := hf4 g (Blk_slice.2 rfl)
          show w.heap.size + 1 + 1 + 1 ≤ g
          omega
      have HAP := hid (And.intro hap4 (And.intro hle4 hrd4))
      rw [hq]
      clear hq ho4 hle4 hrd4 hap4 hf4
      go_wp2_with (first | ((with_reducible refine gate (.store 54 (.tmp 2) (.tmp 30)) rfl ?_); refine wp_store rfl rfl 54 _ _ rfl (w.heap.size) 0 54 [.slice Av i cv] (.slice Av i cv) rfl rfl [.slice Av i cv] rfl size_gi32 (by simp [Value.oneCell']) (K0) (by simp) ?_; intro w7 hrow7 hch7) | ((with_reducible refine gate (.store 26 (.tmp 3) _) rfl ?_); refine wp_store rfl rfl 26 _ _ rfl (w.heap.size + 1) 0 26 [.slice none 0 0] (.slice A4 q c4) rfl rfl [.slice A4 q c4] rfl size_sl (by simp [Value.oneCell']) (K1.keep hch7 (by omega)) (by simp) ?_; intro w8 hrow8 hch8) | ((with_reducible refine gate (.store 4 (.tmp 4) _) rfl ?_); refine wp_store rfl rfl 4 _ _ rfl (w.heap.size + 1 + 1) 0 4 [.bool false] (.bool true) rfl rfl [.bool true] rfl size_bool (by simp [Value.oneCell']) ((K2.keep hch7 (by omega)).keep hch8 (by omega)) (by simp) ?_; intro w9 hrow9 hch9))
      refine leaves_cons (f := 58) (args := #[.pointer (some ⟨w.heap.size, 0, none⟩), .pointer (some ⟨w.heap.size + 1, 0, none⟩), .pointer (some ⟨w.heap.size + 1 + 1, 0, none⟩)]) (by simp) (by simp [go_sem]) ?_
      refine (noValue_ai32_idle _ _ _ _).mono ?_
      rintro e u' w'' ⟨rfl, rfl, rfl⟩
      have M0 := ((hrow7.keep hch8 (by omega)).keep hch9 (by omega)).cell 0 _ rfl
      have M1 := (hrow8.keep hch9 (by omega)).cell 0 _ rfl
      have M2 := hrow9.cell 0 _ rfl
      have HC : Ch No w w'' := ((C4.freshg hch7 (Nat.le_refl _)).freshg hch8 (by omega)).freshg hch9 (by omega)
      refine ⟨.tuple #[.slice Av i cv, .slice A4 q c4, .bool true], ?_, Av, cv, A4, c4, by rw [HQ.out, HN9.out], ((HV4.out.2.keep hch7 (fun ad had h => by have := HV4.out.1 ad had; omega)).keep hch8 (fun ad had h => by have := HV4.out.1 ad had; omega)).keep hch9 (fun ad had h => by have := HV4.out.1 ad had; omega), HV.out.2.2, ((HAP.out.2.2.keep hch7 (fun ad had h => by have := HAP.out.1 ad had; omega)).keep hch8 (fun ad had h => by have := HAP.out.1 ad had; omega)).keep hch9 (fun ad had h => by have := HAP.out.1 ad had; omega), HAP.out.2.1.2.1, HC⟩
      simp [results, Tryd.results27, go_sem, M0, M1, M2]
set_option maxRecDepth 100000 in
set_option maxHeartbeats 2000000 in
theorem implArrI32_no (A0 : Option Addr) (c0 : Nat) (l : List Int) (w : World) (hr0 : Rd u8 w A0 l) (hl : l.length ≤ 1099511627776)
    (hrd : ∀ (p q : Nat) (A : Option Addr) (c : Nat) (W : World), w.heap.size ≤ p → Ch No w W → RbS p A c l 0 W → Row W q 103 [.slice none 0 0] → q ≠ p → (0 < l.length → ∀ ad, A = some ad → ad.block ≠ q) → Calls Tryd.prog 59 #[.pointer (some ⟨q, 0, none⟩), .pointer (some ⟨p, 0, none⟩)] W (ArNo 103 p q W)) :
    Calls Tryd.prog 27 #[.slice A0 l.length c0] w (BhNo (.slice none 0 0) w) := by
  have R0 : Row (((w.alloc (.cells #[.slice none 0 0] 54)).alloc (.cells #[.slice none 0 0] 26)).alloc (.cells #[.bool false] 4)) w.heap.size 54 [.slice none 0 0] := ((Row.alloc w [.slice none 0 0] 54).keep0 ((Ch.refl No _).alloc _)).keep0 ((Ch.refl No _).alloc _)
  have R1 : Row (((w.alloc (.cells #[.slice none 0 0] 54)).alloc (.cells #[.slice none 0 0] 26)).alloc (.cells #[.bool false] 4)) (w.heap.size + 1) 26 [.slice none 0 0] := by
    have h := (Row.alloc (w.alloc (.cells #[.slice none 0 0] 54)) [.slice none 0 0] 26).keep0 ((Ch.refl No _).alloc (.cells #[.bool false] 4))
    rwa [World.size_alloc] at h
  have R2 : Row (((w.alloc (.cells #[.slice none 0 0] 54)).alloc (.cells #[.slice none 0 0] 26)).alloc (.cells #[.bool false] 4)) (w.heap.size + 1 + 1) 4 [.bool false] := by
    have h := Row.alloc ((w.alloc (.cells #[.slice none 0 0] 54)).alloc (.cells #[.slice none 0 0] 26)) [.bool false] 4
    rwa [World.size_alloc, World.size_alloc] at h
  have C3 : Ch No w (((w.alloc (.cells #[.slice none 0 0] 54)).alloc (.cells #[.slice none 0 0] 26)).alloc (.cells #[.bool false] 4)) := (((Ch.refl No w).alloc _).alloc _).alloc _
  have s3 : (((w.alloc (.cells #[.slice none 0 0] 54)).alloc (.cells #[.slice none 0 0] 26)).alloc (.cells #[.bool false] 4)).heap.size = w.heap.size + 1 + 1 + 1 := by simp
  have hcp := hid (copied_calls A0 c0 l _ (hr0.keep0 C3) (by omega))
  have HN := hid (fun (A : Option Addr) (c : Nat) (W : World) (h : Ow 5 u8 W (.slice A l.length c) l) => new_calls A c l W h hl)
  have HRD := hid hrd
  clear hrd
  obtain ⟨N, hN⟩ : ∃ N, l.length = N := ⟨_, rfl⟩
  have HLN := hid hN
  rw [hN] at hcp ⊢
  clear hN hr0
  go_enter_defers Tryd.func27, Tryd.ntmps27
  go_wp2_with fail
  refine hcp.out.mono ?_
  rintro e w1 ⟨v1, rfl, ho1, hfr1, hch1⟩
  obtain ⟨A1, c1, rfl, _, _⟩ := ho1.slice
  have hnew := HN.out A1 c1 w1 ho1
  rw [HLN.out] at hnew ⊢
  have s1 := hch1.size
  rw [s3] at s1
  go_wp2_with fail
  refine hnew.mono ?_
  rintro e w2 ⟨p, A2, c2, rfl, hb2, hp2, hAe, hch2⟩
  have HAN : Hid (∀ ad, A2 = some ad → w.heap.size + 1 + 1 + 1 ≤ ad.block) := hid (fun ad had => by
    have h9 := hfr1 ad.block (by rw [← hAe.out, had]; rfl)
    rw [s3] at h9
    exact h9)
  clear hAe
  have K0 := (R0.keep0 hch1).keep0 hch2
  have K1 := (R1.keep0 hch1).keep0 hch2
  have K2 := (R2.keep0 hch1).keep0 hch2
  have C2 : Ch No w w2 := (C3.no_no hch1).no_no hch2
  have s2 := hch2.size
  have hap2 : 0 < l.length → ∀ ad, A2 = some ad → ad.block ≠ w2.heap.size := fun hp ad had h => by
    have := hb2.lt hp ad had
    omega
  have HAP2 := hid hap2
  have hpl := hb2.rp.lt
  have RM := Row.alloc w2 [.slice none 0 0] 103
  have AL := (Ch.refl No w2).alloc (.cells #[.slice none 0 0] 103)
  have sal := AL.size
  have HB2 := hid (hb2.keep0 AL)
  clear hap2 hb2
  go_wp2_with fail
  refine (HRD.out p w2.heap.size A2 c2 _ (by omega) (C2.no_no AL) HB2.out RM (by omega) HAP2.out).mono ?_
  rintro e w3 ⟨T, v, rfl, hrm, hch3⟩
  have m0 := hrm.cell 0 _ rfl
  have C3' : Ch No w w3 := (C2.no_no AL).trans hch3 (fun _ h => h) (fun b hb => .inr (by rcases hb with h | h <;> omega))
  have s33 := hch3.size
  replace K0 := ((K0.keep0 AL).keep hch3 (fun h => by rcases h with h | h <;> omega))
  replace K1 := ((K1.keep0 AL).keep hch3 (fun h => by rcases h with h | h <;> omega))
  replace K2 := ((K2.keep0 AL).keep hch3 (fun h => by rcases h with h | h <;> omega))
  go_wp2_with fail
  go_loopg [17] 0 (fun kk s17 wr => s17 = .int .i64 0 ∧ Ch No w3 wr)
  case atStart => exact ⟨rfl, Ch.refl _ _⟩
  case round =>
    rename World => wA
    obtain ⟨rfl, hch⟩ := hrel
    have K0' := K0.keep0 hch
    have k0 := K0'.cell 0 _ rfl
    have sAA := hch.size
    go_wp2_with fail
    refine (behind_ai32_no none 0 0 _ T v wA).mono ?_
    rintro e w4 ⟨rfl, hch4⟩
    have C4 : Ch No w w4 := (C3'.no_no hch).no_no hch4
    have K0 := K0'.keep0 hch4
    have K1 := (K1.keep0 hch).keep0 hch4
    have K2 := (K2.keep0 hch).keep0 hch4
    go_wp2_with (first | ((with_reducible refine gate (.store 54 (.tmp 2) (.tmp 30)) rfl ?_); refine wp_store rfl rfl 54 _ _ rfl (w.heap.size) 0 54 [.slice none 0 0] (.slice none 0 0) rfl rfl [.slice none 0 0] rfl size_gi32 (by simp [Value.oneCell']) (K0) (by simp) ?_; intro w7 hrow7 hch7) | ((with_reducible refine gate (.store 26 (.tmp 3) _) rfl ?_); refine wp_store rfl rfl 26 _ _ rfl (w.heap.size + 1) 0 26 [.slice none 0 0] (.slice none 0 0) rfl rfl [.slice none 0 0] rfl size_sl (by simp [Value.oneCell']) (K1.keep hch7 (by omega)) (by simp) ?_; intro w8 hrow8 hch8) | ((with_reducible refine gate (.store 4 (.tmp 4) _) rfl ?_); refine wp_store rfl rfl 4 _ _ rfl (w.heap.size + 1 + 1) 0 4 [.bool false] (.bool false) rfl rfl [.bool false] rfl size_bool (by simp [Value.oneCell']) ((K2.keep hch7 (by omega)).keep hch8 (by omega)) (by simp) ?_; intro w9 hrow9 hch9))
    refine leaves_cons (f := 58) (args := #[.pointer (some ⟨w.heap.size, 0, none⟩), .pointer (some ⟨w.heap.size + 1, 0, none⟩), .pointer (some ⟨w.heap.size + 1 + 1, 0, none⟩)]) (by simp) (by simp [go_sem]) ?_
    refine (noValue_ai32_idle _ _ _ _).mono ?_
    rintro e u' w'' ⟨rfl, rfl, rfl⟩
    have M0 := ((hrow7.keep hch8 (by omega)).keep hch9 (by omega)).cell 0 _ rfl
    have M1 := (hrow8.keep hch9 (by omega)).cell 0 _ rfl
    have M2 := hrow9.cell 0 _ rfl
    have HC : Ch No w w'' := ((C4.freshg hch7 (Nat.le_refl _)).freshg hch8 (by omega)).freshg hch9 (by omega)
    refine ⟨.tuple #[.slice none 0 0, .slice none 0 0, .bool false], ?_, rfl, HC⟩
    simp [results, Tryd.results27, go_sem, M0, M1, M2]

end Go.Proofs.YtbdgkikipekmlaaDoor
