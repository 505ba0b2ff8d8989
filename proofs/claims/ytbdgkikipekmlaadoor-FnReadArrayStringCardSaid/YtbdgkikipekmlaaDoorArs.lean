/- The walk of the reader of arrays of texts. The reader of arrays of texts: none, refused; impl.ReadArrayString. No condition. -/
import Derived.Test.YtbdgkikipekmlaaDoorArQ
import Derived.Test.YtbdgkikipekmlaaDoorLws
import Derived.Lib.LazyBuf
namespace Go.Proofs.YtbdgkikipekmlaaDoor
set_option linter.unusedVariables false
set_option linter.unusedSimpArgs false
open Go.RowKit

theorem bys_back (s : ByteArray) : strOfNums (bys s) = s := by
  have h := Lib.Lz.strOfNums_map s.data.toList
  unfold bys
  rw [h]
theorem info_str : (Tryd.prog.info? 9).map (fun i => (i.zero, i.size, i.bytes)) = some (some (.string ⟨#[]⟩), 1, 16) := by kernel_rfl
theorem size_str : (Tryd.prog.info? 9).map (·.size) = some 1 := by kernel_rfl
theorem size_as : (Tryd.prog.info? 107).map (·.size) = some 1 := by kernel_rfl
/-- A text stands behind its length of z bytes. -/
structure TxtAt (l : List Int) (z : Nat) (ps : Nat → Nat) (ts : Nat → ByteArray) (i : Nat) : Prop where
  nx : ps (i + 1) = ps i + z + (bys (ts i)).length
  le : ps i + z + (bys (ts i)).length ≤ l.length
  ln : beN ((l.drop (ps i)).take z) = ((bys (ts i)).length : Int)
  tx : (l.drop (ps i + z)).take (bys (ts i)).length = bys (ts i)
  bd : (bys (ts i)).length ≤ 131072
theorem next_txt {p : Nat} {A : Option Addr} {c : Nat} {l : List Int} {z : Nat} {ps : Nat → Nat} {ts : Nat → ByteArray} {i : Nat} (h : TxtAt l z ps ts i) (W : World) (hW : RbS p A c l (ps i + z) W) :
    Calls Tryd.prog 82 #[.pointer (some ⟨p, 0, none⟩), .int .i64 ((bys (ts i)).length : Nat)] W fun e w' => ∃ A' c', e = .returned (.tuple #[.slice A' (bys (ts i)).length c', .bool true]) ∧ (∀ W', Ch No w' W' → (convert 26 9 (.slice A' (bys (ts i)).length c')).run Tryd.prog W' = .ok (.string (ts i)) W') ∧ RbS p A c l (ps (i + 1)) w' ∧ Ch (fun b => b = p) W w' :=
  (next_ok hW (bys (ts i)).length h.le (by have := h.bd; omega)).mono fun e w' ⟨A', c', h1, h2, h3, h4, h5, _⟩ => by
    rw [h.tx] at h2
    refine ⟨A', c', h1, fun W' hW' => ?_, by rw [h.nx]; exact h4, h5⟩
    have h9 := conv_rd (c := c') h2 W' hW'
    rwa [bys_back] at h9
theorem byte_txt {p : Nat} {A : Option Addr} {c : Nat} {l : List Int} {ps : Nat → Nat} {ts : Nat → ByteArray} {i : Nat} (h : TxtAt l 1 ps ts i) (W : World) (hW : RbS p A c l (ps i) W) :
    Calls Tryd.prog 89 #[.pointer (some ⟨p, 0, none⟩)] W fun e w' => e = .returned (.tuple #[.int .u8 ((bys (ts i)).length : Nat), .nilIface]) ∧ RbS p A c l (ps i + 1) w' ∧ Ch (fun b => b = p) W w' := by
  have h1 := h.le
  have hi : ps i < l.length := by omega
  have h2 := h.ln
  rw [List.drop_eq_getElem_cons hi, List.take_succ_cons, List.take_zero] at h2
  have h3 : l[ps i] = ((bys (ts i)).length : Int) := by simpa [beN] using h2
  have h4 := rbyte_ok hW hi
  rwa [h3] at h4
set_option maxRecDepth 100000 in
set_option maxHeartbeats 4000000 in
theorem arS1_yes {p q : Nat} {A : Option Addr} {c : Nat} {l : List Int} {j : Nat} {w : World} (m : Nat) (ts : Nat → ByteArray) (ps : Nat → Nat) (hm : m ≤ 1000) (hm0 : 0 < m)
    (hh : Calls Tryd.prog 80 #[.pointer (some ⟨p, 0, none⟩)] w (HdYes p A c l j m w)) (hj : j < l.length) (hcode : l[j] = 161) (h2m : j + 2 * m ≤ l.length) (hby : Byt l) (hp0 : ps 0 = j + 1)
    (hq : Row w q 107 [.slice none 0 0]) (hpq : q ≠ p) (hpl : p < w.heap.size) (hrq : 0 < l.length → ∀ ad, A = some ad → ad.block ≠ q) (htx : ∀ i, i < m → TxtAt l 1 ps ts i) :
    Calls Tryd.prog 63 #[.pointer (some ⟨q, 0, none⟩), .pointer (some ⟨p, 0, none⟩)] w (ArYes Value.string 107 p q A c l (ps m) ((List.range m).map ts) w) := by
  have hty := hid (fun W (hW : RbS p A c l j W) => rtype_ok hW hj)
  rw [hcode] at hty
  obtain ⟨L, hL⟩ : ∃ L : Int, L = (l.length : Int) - j := ⟨_, rfl⟩
  have hle := hid (fun W (hW : RbS p A c l j W) => len_calls' hW L hL)
  obtain ⟨M2, hM2⟩ : ∃ M2 : Nat, 2 * m = M2 := ⟨_, rfl⟩
  have hw2 : IntKind.i64.wrap ((m : Int) * 2) = M2 := by rw [← hM2]; simp [IntKind.wrap, IntKind.bits, IntKind.signed]; omega
  have hgt : decide (L < (M2 : Int)) = false := decide_eq_false (by omega)
  have hgt2 : ¬ (L < (M2 : Int)) := by omega
  have hgt3 : (M2 : Int) ≤ L := by omega
  have hz1 : decide ((0 : Int) < m) = true := decide_eq_true (by omega)
  have hz2 : (0 : Int) < m := by omega
  have HTX := hid (And.intro htx (And.intro hp0 (And.intro hby (And.intro hrq (show 0 < l.length by omega)))))
  clear hcode hj hby hrq htx hL hM2 h2m hp0
  go_enter Tryd.func63, Tryd.ntmps63
  go_wp2_with fail
  refine hh.mono ?_
  rintro e w1 ⟨rfl, hb1, hch1⟩
  go_wp2_with fail
  refine (hle.out w1 hb1).mono ?_
  rintro e w2 ⟨rfl, hch2⟩
  have hb2 := hb1.keep0 hch2
  have C2 := hch1.then_no hch2
  have hq2 := hq.keep C2 hpq
  have q0 := hq2.cell 0 _ rfl
  go_wp2_with (first | ((with_reducible refine gate (.makeSlice 58 _ _) rfl ?_); refine wp_make rfl 58 9 _ _ rfl (.string ⟨#[]⟩) 16 Tryd.underlying58 info_str rfl _ _ m m m rfl rfl rfl rfl (by omega) (by omega) ?_; intro w4 hrow4 hch4))
  have hG : w.heap.size ≤ w2.heap.size := C2.size
  have hpG : p < w2.heap.size := Nat.lt_of_lt_of_le hpl hG
  have hqG : q < w2.heap.size := hq2.lt
  have hAG : ∀ ad, A = some ad → ad.block < w2.heap.size := hb2.lt HTX.out.2.2.2.2
  obtain ⟨G, hGe⟩ : ∃ G, w2.heap.size = G := ⟨_, rfl⟩
  rw [hGe] at hrow4 hG hpG hqG hAG ⊢
  have HAG := hid hAG
  rw [show (List.replicate m (Value.string ⟨#[]⟩)) = half (fun t => .string (ts t)) (.string ⟨#[]⟩) m 0 from (half_zero _ _ _).symm] at hrow4
  have hb4 := hb2.keep0 hch4
  have hq4 := hq2.keep0 hch4
  clear hGe hAG
  refine (hty.out w4 hb4).mono ?_
  rintro e w5 ⟨rfl, hb5, hch5⟩
  rw [← HTX.out.2.1] at hb5
  have hrow5 := hrow4.keep hch5 (fun h => by have h9 : G = p := h; omega)
  have hq5 := hq4.keep hch5 hpq
  have C5 : Ch (fun b => b = p) w w5 := (C2.then_no hch4).trans hch5 (fun _ h => h) (fun _ h => .inl h)
  go_wp2_with fail
  go_loopg [59] m (fun kk s59 wr => ∃ i : Nat, kk + i = m ∧ s59 = .int .i64 i ∧ RbS p A c l (ps i) wr ∧ Row wr G 9 (half (fun t => .string (ts t)) (.string ⟨#[]⟩) m i) ∧ Ch (fun b => b = p ∨ b = G) w5 wr)
  case atStart => exact ⟨0, by omega, rfl, hb5, hrow5, Ch.refl _ _⟩
  case round =>
    rename World => wA
    obtain ⟨i, hki, rfl, hbA, hrow, hch⟩ := hrel
    by_cases hi : i < m
    · have hi' : (i : Int) < m := by omega
      have hi0 : (0 : Int) ≤ i := by omega
      have HTI := hid (HTX.out.1 i hi)
      go_wp2_with fail
      refine (byte_txt HTI.out wA hbA).mono ?_
      rintro e w6 ⟨rfl, hb6, hch6⟩
      have C6 : Ch (fun b => b = p) wA w6 := hch6
      have hnx := hid (next_txt HTI.out w6 hb6)
      have hlw : IntKind.i64.wrap (((bys (ts i)).length : Nat) : Int) = ((bys (ts i)).length : Nat) := by have := HTI.out.bd; simp [IntKind.wrap, IntKind.bits, IntKind.signed]; omega
      generalize (bys (ts i)).length = N8 at hnx hlw ⊢
      go_wp2_with fail
      refine hnx.out.mono ?_
      rintro e w7 ⟨A8, c8, rfl, hcv, hb7, hch7⟩
      have C7 : Ch (fun b => b = p) wA w7 := C6.trans hch7 (fun _ h => h) (fun _ h => .inl h)
      have hcv0 := hcv w7 (Ch.refl _ _)
      have hrow7 := hrow.keep C7 (fun h => by have h9 : G = p := h; omega)
      have hhl := half_len (fun t => Value.string (ts t)) (.string ⟨#[]⟩) m i (by omega)
      have HS := hid (half_step (fun t => Value.string (ts t)) (.string ⟨#[]⟩) m i hi)
      obtain ⟨H, hH⟩ : ∃ H, half (fun t => Value.string (ts t)) (.string ⟨#[]⟩) m i = H := ⟨_, rfl⟩
      rw [hH] at hrow7 hhl HS
      clear hH hcv hrow
      go_wp2_with ((with_reducible refine gate (.store 9 (.tmp 84) _) rfl ?_); refine wp_store rfl rfl 9 _ _ rfl G i 9 H (.string (ts i)) rfl rfl [.string (ts i)] rfl size_str (by simp [Value.oneCell']) hrow7 (by simp; omega) ?_; intro w8 hrow8 hch8)
      have R8 : Row w8 G 9 (half (fun t => .string (ts t)) (.string ⟨#[]⟩) m (i + 1)) := by rw [← HS.out]; exact hrow8
      have C8 : Ch (fun b => b = p ∨ b = G) w5 w8 := (hch.trans C7 (fun _ h => h) (fun _ h => .inl (.inl h))).trans hch8 (fun _ h => h) (fun _ h => .inl (.inr h))
      have B8 : RbS p A c l (ps (i + 1)) w8 := hb7.keepS hch8 (fun h => by have h9 : p = G := h; omega) (fun h0 ad had h => by have := HAG.out ad had; have h9 : ad.block = G := h; omega)
      go_roundg (m - (i + 1))
      case measure => omega
      case rel => exact ⟨i + 1, by omega, by go_num, B8, R8, C8⟩
    · obtain rfl : i = m := by omega
      have C9 : Ch (fun b => b = p ∨ b = q) w wA := (C5.mono (T := fun b => b = p ∨ b = q) (fun _ h => .inl h)).trans hch (fun _ h => h) (fun b hb => by
        rcases hb with h | h
        · exact .inl (.inl h)
        · exact .inr (by omega))
      have hqA := hq5.keep hch (fun h => by rcases h with h | h <;> omega)
      have HRD := hid (half_rd (g := Value.string) hrow)
      have HBA := hid hbA
      have HCA := hid C9
      clear hbA C9 hrow
      go_wp2_with ((with_reducible refine gate (.store 107 (.tmp 122) _) rfl ?_); refine wp_store rfl rfl 107 _ _ rfl q 0 107 [.slice none 0 0] (.slice (some ⟨G, 0, none⟩) i i) rfl rfl [.slice (some ⟨G, 0, none⟩) i i] rfl size_as (by simp [Value.oneCell']) hqA (by simp) ?_; intro w9 hrow9 hch9)
      go_ret
      exact ⟨rfl, some ⟨G, 0, none⟩, i, by simpa using hrow9, by simp, HRD.out.keep hch9 (fun ad had h => by injection had with had; subst had; have h9 : G = q := h; omega), fun ad had => by injection had with had; subst had; exact hG, HBA.out.keepS hch9 (fun h => hpq (h : p = q).symm) (fun h0 ad had h => HTX.out.2.2.2.1 h0 ad had h), HCA.out.trans hch9 (fun _ h => h) (fun _ h => .inl (.inr h))⟩
set_option maxRecDepth 100000 in
set_option maxHeartbeats 4000000 in
theorem arS4_yes {p q : Nat} {A : Option Addr} {c : Nat} {l : List Int} {j : Nat} {w : World} (m : Nat) (ts : Nat → ByteArray) (ps : Nat → Nat) (hm : m ≤ 1000) (hm0 : 0 < m)
    (hh : Calls Tryd.prog 80 #[.pointer (some ⟨p, 0, none⟩)] w (HdYes p A c l j m w)) (hj : j < l.length) (hcode : l[j] = 177) (h2m : j + 2 * m ≤ l.length) (hby : Byt l) (hp0 : ps 0 = j + 1)
    (hq : Row w q 107 [.slice none 0 0]) (hpq : q ≠ p) (hpl : p < w.heap.size) (hrq : 0 < l.length → ∀ ad, A = some ad → ad.block ≠ q) (htx : ∀ i, i < m → TxtAt l 4 ps ts i) :
    Calls Tryd.prog 63 #[.pointer (some ⟨q, 0, none⟩), .pointer (some ⟨p, 0, none⟩)] w (ArYes Value.string 107 p q A c l (ps m) ((List.range m).map ts) w) := by
  have hty := hid (fun W (hW : RbS p A c l j W) => rtype_ok hW hj)
  rw [hcode] at hty
  obtain ⟨L, hL⟩ : ∃ L : Int, L = (l.length : Int) - j := ⟨_, rfl⟩
  have hle := hid (fun W (hW : RbS p A c l j W) => len_calls' hW L hL)
  obtain ⟨M2, hM2⟩ : ∃ M2 : Nat, 2 * m = M2 := ⟨_, rfl⟩
  have hw2 : IntKind.i64.wrap ((m : Int) * 2) = M2 := by rw [← hM2]; simp [IntKind.wrap, IntKind.bits, IntKind.signed]; omega
  have hgt : decide (L < (M2 : Int)) = false := decide_eq_false (by omega)
  have hgt2 : ¬ (L < (M2 : Int)) := by omega
  have hgt3 : (M2 : Int) ≤ L := by omega
  have hz1 : decide ((0 : Int) < m) = true := decide_eq_true (by omega)
  have hz2 : (0 : Int) < m := by omega
  have HTX := hid (And.intro htx (And.intro hp0 (And.intro hby (And.intro hrq (show 0 < l.length by omega)))))
  clear hcode hj hby hrq htx hL hM2 h2m hp0
  go_enter Tryd.func63, Tryd.ntmps63
  go_wp2_with fail
  refine hh.mono ?_
  rintro e w1 ⟨rfl, hb1, hch1⟩
  go_wp2_with fail
  refine (hle.out w1 hb1).mono ?_
  rintro e w2 ⟨rfl, hch2⟩
  have hb2 := hb1.keep0 hch2
  have C2 := hch1.then_no hch2
  have hq2 := hq.keep C2 hpq
  have q0 := hq2.cell 0 _ rfl
  go_wp2_with (first | ((with_reducible refine gate (.makeSlice 58 _ _) rfl ?_); refine wp_make rfl 58 9 _ _ rfl (.string ⟨#[]⟩) 16 Tryd.underlying58 info_str rfl _ _ m m m rfl rfl rfl rfl (by omega) (by omega) ?_; intro w4 hrow4 hch4))
  have hG : w.heap.size ≤ w2.heap.size := C2.size
  have hpG : p < w2.heap.size := Nat.lt_of_lt_of_le hpl hG
  have hqG : q < w2.heap.size := hq2.lt
  have hAG : ∀ ad, A = some ad → ad.block < w2.heap.size := hb2.lt HTX.out.2.2.2.2
  obtain ⟨G, hGe⟩ : ∃ G, w2.heap.size = G := ⟨_, rfl⟩
  rw [hGe] at hrow4 hG hpG hqG hAG ⊢
  have HAG := hid hAG
  rw [show (List.replicate m (Value.string ⟨#[]⟩)) = half (fun t => .string (ts t)) (.string ⟨#[]⟩) m 0 from (half_zero _ _ _).symm] at hrow4
  have hb4 := hb2.keep0 hch4
  have hq4 := hq2.keep0 hch4
  clear hGe hAG
  refine (hty.out w4 hb4).mono ?_
  rintro e w5 ⟨rfl, hb5, hch5⟩
  rw [← HTX.out.2.1] at hb5
  have hrow5 := hrow4.keep hch5 (fun h => by have h9 : G = p := h; omega)
  have hq5 := hq4.keep hch5 hpq
  have C5 : Ch (fun b => b = p) w w5 := (C2.then_no hch4).trans hch5 (fun _ h => h) (fun _ h => .inl h)
  go_wp2_with fail
  go_loopg [90] m (fun kk s90 wr => ∃ i : Nat, kk + i = m ∧ s90 = .int .i64 i ∧ RbS p A c l (ps i) wr ∧ Row wr G 9 (half (fun t => .string (ts t)) (.string ⟨#[]⟩) m i) ∧ Ch (fun b => b = p ∨ b = G) w5 wr)
  case atStart => exact ⟨0, by omega, rfl, hb5, hrow5, Ch.refl _ _⟩
  case round =>
    rename World => wA
    obtain ⟨i, hki, rfl, hbA, hrow, hch⟩ := hrel
    by_cases hi : i < m
    · have hi' : (i : Int) < m := by omega
      have hi0 : (0 : Int) ≤ i := by omega
      have HTI := hid (HTX.out.1 i hi)
      have hx4 := hid (next_ok hbA 4 (by have := HTI.out.le; omega) (by omega))
      go_wp2_with fail
      refine hx4.out.mono ?_
      rintro e w6 ⟨A6, c6, rfl, hr6, hc6, hb6, hch6, _⟩
      have h4l : ((l.drop (ps i)).take 4).length = 4 := by rw [List.length_take, List.length_drop]; have := HTI.out.le; omega
      have hbe := hid (fun W (hW : Ch No w6 W) => (by
        have h9 := be32_calls A6 c6 _ W (hr6.keep0 hW) ((HTX.out.2.2.1.drop _).take _) (by omega)
        rw [List.take_take, Nat.min_self, HTI.out.ln, h4l] at h9
        exact h9 : Calls Tryd.prog 84 #[.agg #[], .slice A6 4 c6] W fun e w' => e = .returned (.int .u32 ((bys (ts i)).length : Nat)) ∧ Ch No W w'))
      have hnx0 := hid (fun W (hW : Ch No w6 W) => next_txt HTI.out W (hb6.keep0 hW))
      clear h4l hr6
      have hlw : IntKind.i64.wrap (((bys (ts i)).length : Nat) : Int) = ((bys (ts i)).length : Nat) := by have := HTI.out.bd; simp [IntKind.wrap, IntKind.bits, IntKind.signed]; omega
      generalize (bys (ts i)).length = N8 at hnx0 hbe hlw ⊢
      go_wp2_with fail
      refine (hbe.out _ (Ch.refl _ _)).mono ?_
      rintro e w6b ⟨rfl, hch6b⟩
      go_wp2_with fail
      refine (hnx0.out w6b hch6b).mono ?_
      rintro e w7 ⟨A8, c8, rfl, hcv, hb7, hch7⟩
      have C7 : Ch (fun b => b = p) wA w7 := (hch6.then_no hch6b).trans hch7 (fun _ h => h) (fun _ h => .inl h)
      have hcv0 := hcv w7 (Ch.refl _ _)
      have hrow7 := hrow.keep C7 (fun h => by have h9 : G = p := h; omega)
      have hhl := half_len (fun t => Value.string (ts t)) (.string ⟨#[]⟩) m i (by omega)
      have HS := hid (half_step (fun t => Value.string (ts t)) (.string ⟨#[]⟩) m i hi)
      obtain ⟨H, hH⟩ : ∃ H, half (fun t => Value.string (ts t)) (.string ⟨#[]⟩) m i = H := ⟨_, rfl⟩
      rw [hH] at hrow7 hhl HS
      clear hH hcv hrow
      go_wp2_with ((with_reducible refine gate (.store 9 (.tmp 118) _) rfl ?_); refine wp_store rfl rfl 9 _ _ rfl G i 9 H (.string (ts i)) rfl rfl [.string (ts i)] rfl size_str (by simp [Value.oneCell']) hrow7 (by simp; omega) ?_; intro w8 hrow8 hch8)
      have R8 : Row w8 G 9 (half (fun t => .string (ts t)) (.string ⟨#[]⟩) m (i + 1)) := by rw [← HS.out]; exact hrow8
      have C8 : Ch (fun b => b = p ∨ b = G) w5 w8 := (hch.trans C7 (fun _ h => h) (fun _ h => .inl (.inl h))).trans hch8 (fun _ h => h) (fun _ h => .inl (.inr h))
      have B8 : RbS p A c l (ps (i + 1)) w8 := hb7.keepS hch8 (fun h => by have h9 : p = G := h; omega) (fun h0 ad had h => by have := HAG.out ad had; have h9 : ad.block = G := h; omega)
      go_roundg (m - (i + 1))
      case measure => omega
      case rel => exact ⟨i + 1, by omega, by go_num, B8, R8, C8⟩
    · obtain rfl : i = m := by omega
      have C9 : Ch (fun b => b = p ∨ b = q) w wA := (C5.mono (T := fun b => b = p ∨ b = q) (fun _ h => .inl h)).trans hch (fun _ h => h) (fun b hb => by
        rcases hb with h | h
        · exact .inl (.inl h)
        · exact .inr (by omega))
      have hqA := hq5.keep hch (fun h => by rcases h with h | h <;> omega)
      have HRD := hid (half_rd (g := Value.string) hrow)
      have HBA := hid hbA
      have HCA := hid C9
      clear hbA C9 hrow
      go_wp2_with ((with_reducible refine gate (.store 107 (.tmp 122) _) rfl ?_); refine wp_store rfl rfl 107 _ _ rfl q 0 107 [.slice none 0 0] (.slice (some ⟨G, 0, none⟩) i i) rfl rfl [.slice (some ⟨G, 0, none⟩) i i] rfl size_as (by simp [Value.oneCell']) hqA (by simp) ?_; intro w9 hrow9 hch9)
      go_ret
      exact ⟨rfl, some ⟨G, 0, none⟩, i, by simpa using hrow9, by simp, HRD.out.keep hch9 (fun ad had h => by injection had with had; subst had; have h9 : G = q := h; omega), fun ad had => by injection had with had; subst had; exact hG, HBA.out.keepS hch9 (fun h => hpq (h : p = q).symm) (fun h0 ad had h => HTX.out.2.2.2.1 h0 ad had h), HCA.out.trans hch9 (fun _ h => h) (fun _ h => .inl (.inr h))⟩

end Go.Proofs.YtbdgkikipekmlaaDoor

namespace Go.Proofs.YtbdgkikipekmlaaDoor
set_option linter.unusedVariables false
set_option linter.unusedSimpArgs false
open Go.RowKit

theorem size_gs : (Tryd.prog.info? 58).map (·.size) = some 1 := by kernel_rfl
set_option maxRecDepth 100000 in
set_option maxHeartbeats 2000000 in
theorem arS1_zero {p q : Nat} {A : Option Addr} {c : Nat} {l : List Int} {j : Nat} {w : World}
    (hh : Calls Tryd.prog 80 #[.pointer (some ⟨p, 0, none⟩)] w (HdYes p A c l j 0 w)) (hj : j < l.length) (hcode : l[j] = 161)
    (hq : Row w q 107 [.slice none 0 0]) (hpq : q ≠ p) (hrq : 0 < l.length → ∀ ad, A = some ad → ad.block ≠ q) :
    Calls Tryd.prog 63 #[.pointer (some ⟨q, 0, none⟩), .pointer (some ⟨p, 0, none⟩)] w (ArYes Value.string 107 p q A c l (j + 1) ([] : List ByteArray) w) := by
  have hty := hid (fun W (hW : RbS p A c l j W) => rtype_ok hW hj)
  rw [hcode] at hty
  obtain ⟨L, hL⟩ : ∃ L : Int, L = (l.length : Int) - j := ⟨_, rfl⟩
  have hle := hid (fun W (hW : RbS p A c l j W) => len_calls' hW L hL)
  have hgt : decide (L < (0 : Int)) = false := decide_eq_false (by omega)
  have hgt3 : (0 : Int) ≤ L := by omega
  have HRQ := hid (And.intro hrq (show 0 < l.length by omega))
  clear hcode hj hrq hL
  go_enter Tryd.func63, Tryd.ntmps63
  go_wp2_with fail
  refine hh.mono ?_
  rintro e w1 ⟨rfl, hb1, hch1⟩
  go_wp2_with fail
  refine (hle.out w1 hb1).mono ?_
  rintro e w2 ⟨rfl, hch2⟩
  have hb2 := hb1.keep0 hch2
  have C2 := hch1.then_no hch2
  have hq2 := hq.keep C2 hpq
  have q0 := hq2.cell 0 _ rfl
  go_wp2_with fail
  refine (hty.out w2 hb2).mono ?_
  rintro e w5 ⟨rfl, hb5, hch5⟩
  have hq5 := hq2.keep hch5 hpq
  have C5 : Ch (fun b => b = p) w w5 := C2.trans hch5 (fun _ h => h) (fun _ h => .inl h)
  go_wp2_with fail
  go_loopg [59] 0 (fun kk s59 wr => s59 = .int .i64 0 ∧ Ch No w5 wr)
  case atStart => exact ⟨rfl, Ch.refl _ _⟩
  case round =>
    obtain ⟨rfl, hch⟩ := hrel
    have hqA := hq5.keep0 hch
    have HCA := hid ((C5.then_no hch).mono (T := fun b => b = p ∨ b = q) (fun _ h => .inl h))
    have HBA := hid (hb5.keep0 hch)
    go_wp2_with ((with_reducible refine gate (.store 107 (.tmp 122) _) rfl ?_); refine wp_store rfl rfl 107 _ _ rfl q 0 107 [.slice none 0 0] (.slice none 0 0) rfl rfl [.slice none 0 0] rfl size_as (by simp [Value.oneCell']) hqA (by simp) ?_; intro w7 hrow7 hch7)
    go_ret
    exact ⟨rfl, none, 0, by simpa using hrow7, by simp, Rd.nil _ _ _, fun ad had => (by cases had), HBA.out.keepS hch7 (fun h => hpq (h : p = q).symm) (fun h0 ad had h => HRQ.out.1 h0 ad had h), HCA.out.trans hch7 (fun _ h => h) (fun _ h => .inl (.inr h))⟩
set_option maxRecDepth 100000 in
set_option maxHeartbeats 2000000 in
theorem arS4_zero {p q : Nat} {A : Option Addr} {c : Nat} {l : List Int} {j : Nat} {w : World}
    (hh : Calls Tryd.prog 80 #[.pointer (some ⟨p, 0, none⟩)] w (HdYes p A c l j 0 w)) (hj : j < l.length) (hcode : l[j] = 177)
    (hq : Row w q 107 [.slice none 0 0]) (hpq : q ≠ p) (hrq : 0 < l.length → ∀ ad, A = some ad → ad.block ≠ q) :
    Calls Tryd.prog 63 #[.pointer (some ⟨q, 0, none⟩), .pointer (some ⟨p, 0, none⟩)] w (ArYes Value.string 107 p q A c l (j + 1) ([] : List ByteArray) w) := by
  have hty := hid (fun W (hW : RbS p A c l j W) => rtype_ok hW hj)
  rw [hcode] at hty
  obtain ⟨L, hL⟩ : ∃ L : Int, L = (l.length : Int) - j := ⟨_, rfl⟩
  have hle := hid (fun W (hW : RbS p A c l j W) => len_calls' hW L hL)
  have hgt : decide (L < (0 : Int)) = false := decide_eq_false (by omega)
  have hgt3 : (0 : Int) ≤ L := by omega
  have HRQ := hid (And.intro hrq (show 0 < l.length by omega))
  clear hcode hj hrq hL
  go_enter Tryd.func63, Tryd.ntmps63
  go_wp2_with fail
  refine hh.mono ?_
  rintro e w1 ⟨rfl, hb1, hch1⟩
  go_wp2_with fail
  refine (hle.out w1 hb1).mono ?_
  rintro e w2 ⟨rfl, hch2⟩
  have hb2 := hb1.keep0 hch2
  have C2 := hch1.then_no hch2
  have hq2 := hq.keep C2 hpq
  have q0 := hq2.cell 0 _ rfl
  go_wp2_with fail
  refine (hty.out w2 hb2).mono ?_
  rintro e w5 ⟨rfl, hb5, hch5⟩
  have hq5 := hq2.keep hch5 hpq
  have C5 : Ch (fun b => b = p) w w5 := C2.trans hch5 (fun _ h => h) (fun _ h => .inl h)
  go_wp2_with fail
  go_loopg [90] 0 (fun kk s90 wr => s90 = .int .i64 0 ∧ Ch No w5 wr)
  case atStart => exact ⟨rfl, Ch.refl _ _⟩
  case round =>
    obtain ⟨rfl, hch⟩ := hrel
    have hqA := hq5.keep0 hch
    have HCA := hid ((C5.then_no hch).mono (T := fun b => b = p ∨ b = q) (fun _ h => .inl h))
    have HBA := hid (hb5.keep0 hch)
    go_wp2_with ((with_reducible refine gate (.store 107 (.tmp 122) _) rfl ?_); refine wp_store rfl rfl 107 _ _ rfl q 0 107 [.slice none 0 0] (.slice none 0 0) rfl rfl [.slice none 0 0] rfl size_as (by simp [Value.oneCell']) hqA (by simp) ?_; intro w7 hrow7 hch7)
    go_ret
    exact ⟨rfl, none, 0, by simpa using hrow7, by simp, Rd.nil _ _ _, fun ad had => (by cases had), HBA.out.keepS hch7 (fun h => hpq (h : p = q).symm) (fun h0 ad had h => HRQ.out.1 h0 ad had h), HCA.out.trans hch7 (fun _ h => h) (fun _ h => .inl (.inr h))⟩
set_option maxRecDepth 100000 in
theorem arS_head {p q : Nat} {w : World} (hh : Calls Tryd.prog 80 #[.pointer (some ⟨p, 0, none⟩)] w (HdNo p w)) (hq : Row w q 107 [.slice none 0 0]) (hpq : q ≠ p) :
    Calls Tryd.prog 63 #[.pointer (some ⟨q, 0, none⟩), .pointer (some ⟨p, 0, none⟩)] w (ArNo 107 p q w) := by
  go_enter Tryd.func63, Tryd.ntmps63
  go_wp2_with fail
  refine hh.mono ?_
  rintro e w1 ⟨z, T, v, rfl, hch1⟩
  go_wp2_with fail
  go_ret
  exact ⟨T, v, rfl, hq.keep hch1 hpq, hch1.mono (fun _ h => .inl h)⟩
set_option maxRecDepth 100000 in
set_option maxHeartbeats 2000000 in
theorem arS_code {p q : Nat} {A : Option Addr} {c : Nat} {l : List Int} {j : Nat} {w : World} (m : Nat) (hm : m ≤ 1000) (hm0 : 0 < m)
    (hh : Calls Tryd.prog 80 #[.pointer (some ⟨p, 0, none⟩)] w (HdYes p A c l j m w)) (hj : j < l.length) (h161 : l[j] ≠ 161) (h177 : l[j] ≠ 177) (hq : Row w q 107 [.slice none 0 0]) (hpq : q ≠ p) :
    Calls Tryd.prog 63 #[.pointer (some ⟨q, 0, none⟩), .pointer (some ⟨p, 0, none⟩)] w (ArNo 107 p q w) := by
  have hty := hid (fun W (hW : RbS p A c l j W) => rtype_ok hW hj)
  generalize l[j] = x at hty h161 h177
  have e7 : (x == 161) = false := beq_eq_false_iff_ne.2 h161
  have f7 : (x != 161) = true := bne_iff_ne.2 h161
  have g7 : decide (x = 161) = false := decide_eq_false h161
  have e8 : (x == 177) = false := beq_eq_false_iff_ne.2 h177
  have f8 : (x != 177) = true := bne_iff_ne.2 h177
  have g8 : decide (x = 177) = false := decide_eq_false h177
  clear h161 h177
  obtain ⟨L, hL⟩ : ∃ L : Int, L = (l.length : Int) - j := ⟨_, rfl⟩
  have hle := hid (fun W (hW : RbS p A c l j W) => len_calls' hW L hL)
  obtain ⟨M2, hM2⟩ : ∃ M2 : Nat, 2 * m = M2 := ⟨_, rfl⟩
  have hw2 : IntKind.i64.wrap ((m : Int) * 2) = M2 := by rw [← hM2]; simp [IntKind.wrap, IntKind.bits, IntKind.signed]; omega
  have hz1 : decide ((0 : Int) < m) = true := decide_eq_true (by omega)
  have hz2 : (0 : Int) < m := by omega
  clear hj hL hM2
  by_cases hlm : L < M2
  · have hgt : decide (L < (M2 : Int)) = true := decide_eq_true hlm
    go_enter Tryd.func63, Tryd.ntmps63
    go_wp2_with fail
    refine hh.mono ?_
    rintro e w1 ⟨rfl, hb1, hch1⟩
    go_wp2_with fail
    refine (hle.out w1 hb1).mono ?_
    rintro e w2 ⟨rfl, hch2⟩
    go_wp2_with (go_at_call 76; refine (errNew_calls _ _).mono ?_; rintro e w9 ⟨T, v, rfl, hch9⟩)
    go_ret
    have C2 := (hch1.then_no hch2).then_no hch9
    exact ⟨T, v, rfl, hq.keep C2 hpq, C2.mono (fun _ h => .inl h)⟩
  · have hgt : decide (L < (M2 : Int)) = false := decide_eq_false hlm
    have hgt3 : (M2 : Int) ≤ L := by omega
    go_enter Tryd.func63, Tryd.ntmps63
    go_wp2_with fail
    refine hh.mono ?_
    rintro e w1 ⟨rfl, hb1, hch1⟩
    go_wp2_with fail
    refine (hle.out w1 hb1).mono ?_
    rintro e w2 ⟨rfl, hch2⟩
    have hb2 := hb1.keep0 hch2
    have C2 := hch1.then_no hch2
    have hq2 := hq.keep C2 hpq
    have q0 := hq2.cell 0 _ rfl
    go_wp2_with (first | ((with_reducible refine gate (.makeSlice 58 _ _) rfl ?_); refine wp_make rfl 58 9 _ _ rfl (.string ⟨#[]⟩) 16 Tryd.underlying58 info_str rfl _ _ m m m rfl rfl rfl rfl (by omega) (by omega) ?_; intro w4 hrow4 hch4))
    refine (hty.out w4 (hb2.keep0 hch4)).mono ?_
    rintro e w5 ⟨rfl, hb5, hch5⟩
    go_wp2_with (go_at_call 76; refine (errNew_calls _ _).mono ?_; rintro e w9 ⟨T, v, rfl, hch9⟩)
    go_ret
    have C5 := (((C2.then_no hch4).trans hch5 (fun _ h => h) (fun _ h => .inl h)).then_no hch9 : Ch (fun b => b = p) w w9)
    exact ⟨T, v, rfl, hq.keep C5 hpq, C5.mono (fun _ h => .inl h)⟩
set_option maxRecDepth 100000 in
theorem behind_astr_ok {p : Nat} {A : Option Addr} {c : Nat} {l : List Int} {i : Nat} {w : World} (h : RbS p A c l i w) (A9 : Option Addr) (n9 c9 : Nat) :
    Calls Tryd.prog 64 #[.slice A9 n9 c9, .pointer (some ⟨p, 0, none⟩), .nilIface] w (BhT (.slice A9 n9 c9) (l.drop i) w) := by
  have hb := hid (bytes_calls h)
  have hl : (l.drop i).length ≤ 35184372088832 := by rw [List.length_drop]; have := h.lb; omega
  generalize l.drop i = X at hb hl ⊢
  have HL := hid hl
  clear h hl
  go_enter Tryd.func64, Tryd.ntmps64
  go_wp2_with fail
  refine hb.out.mono ?_
  rintro e w1 ⟨A1, c1, rfl, hr1, hc1, hch1⟩
  obtain ⟨q, hq⟩ : ∃ q, X.length = q := ⟨_, rfl⟩
  have hcp := hid (copied_calls A1 c1 X w1 hr1 HL.out)
  rw [hq] at hcp ⊢
  have HQ := hid hq
  clear hq
  go_wp2_with fail
  refine hcp.out.mono ?_
  rintro e w2 ⟨v2, rfl, ho2, hf2, hch2⟩
  obtain ⟨A2, c2, rfl, _, _⟩ := ho2.slice
  rw [HQ.out]
  go_wp2_with fail
  go_ret3
  unfold BhT
  rw [HQ.out]
  rw [HQ.out] at ho2 hf2
  exact ⟨A2, c2, rfl, ho2, hf2.weak hch1.size, hch1.no_no hch2⟩
set_option maxRecDepth 100000 in
theorem behind_astr_no (A9 : Option Addr) (n9 c9 : Nat) (p : Value) (T : TypeId) (v : Value) (w : World) :
    Calls Tryd.prog 64 #[.slice A9 n9 c9, p, .iface T v] w (BhNo (.slice none 0 0) w) := by
  go_enter Tryd.func64, Tryd.ntmps64
  go_wp2_with fail
  go_ret3
  exact ⟨rfl, Ch.refl _ _⟩
theorem noValue_astr_idle (p q r : Addr) (w : World) :
    CallsD Tryd.prog 62 #[.pointer (some p), .pointer (some q), .pointer (some r)] .returning w fun e u' w' => e = .returned (.tuple #[]) ∧ u' = .returning ∧ w' = w := by
  refine callsD_of_wpS Tryd.func62 rfl fun c₀ cs hu => ?_
  apply wpS_seq
  apply wpS_region
  simp [wpOpsS, go_sem, recoverD, hu, Tryd.ntmps62, Exit.thenS]
  refine wpS_cond (t := false) (by simp [Act.eval, Array.replicate]) ?_
  simp only [Bool.false_eq_true, if_false]
  refine wpS_of_wp (wp_skip ?_)
  cases c₀
  simp_all [bodyPostS, results, Tryd.results62]
set_option maxRecDepth 100000 in
set_option maxHeartbeats 2000000 in
theorem implArrStr_ok (A0 : Option Addr) (c0 : Nat) (l : List Int) (w : World) (hr0 : Rd u8 w A0 l) (hl : l.length ≤ 1099511627776) (j : Nat) (es : List ByteArray) (hes : es.length ≤ 1000)
    (hrd : ∀ (p q : Nat) (A : Option Addr) (c : Nat) (W : World), RbS p A c l 0 W → Row W q 107 [.slice none 0 0] → q ≠ p → p < W.heap.size → (0 < l.length → ∀ ad, A = some ad → ad.block ≠ q) → Calls Tryd.prog 63 #[.pointer (some ⟨q, 0, none⟩), .pointer (some ⟨p, 0, none⟩)] W (ArYes (Value.string) 107 p q A c l j es W)) :
    Calls Tryd.prog 29 #[.slice A0 l.length c0] w (RsT (Value.string) es (l.drop j) w) := by
  have R0 : Row (((w.alloc (.cells #[.slice none 0 0] 58)).alloc (.cells #[.slice none 0 0] 26)).alloc (.cells #[.bool false] 4)) w.heap.size 58 [.slice none 0 0] := ((Row.alloc w [.slice none 0 0] 58).keep0 ((Ch.refl No _).alloc _)).keep0 ((Ch.refl No _).alloc _)
  have R1 : Row (((w.alloc (.cells #[.slice none 0 0] 58)).alloc (.cells #[.slice none 0 0] 26)).alloc (.cells #[.bool false] 4)) (w.heap.size + 1) 26 [.slice none 0 0] := by
    have h := (Row.alloc (w.alloc (.cells #[.slice none 0 0] 58)) [.slice none 0 0] 26).keep0 ((Ch.refl No _).alloc (.cells #[.bool false] 4))
    rwa [World.size_alloc] at h
  have R2 : Row (((w.alloc (.cells #[.slice none 0 0] 58)).alloc (.cells #[.slice none 0 0] 26)).alloc (.cells #[.bool false] 4)) (w.heap.size + 1 + 1) 4 [.bool false] := by
    have h := Row.alloc ((w.alloc (.cells #[.slice none 0 0] 58)).alloc (.cells #[.slice none 0 0] 26)) [.bool false] 4
    rwa [World.size_alloc, World.size_alloc] at h
  have C3 : Ch No w (((w.alloc (.cells #[.slice none 0 0] 58)).alloc (.cells #[.slice none 0 0] 26)).alloc (.cells #[.bool false] 4)) := (((Ch.refl No w).alloc _).alloc _).alloc _
  have s3 : (((w.alloc (.cells #[.slice none 0 0] 58)).alloc (.cells #[.slice none 0 0] 26)).alloc (.cells #[.bool false] 4)).heap.size = w.heap.size + 1 + 1 + 1 := by simp
  have hcp := hid (copied_calls A0 c0 l _ (hr0.keep0 C3) (by omega))
  have HN := hid (fun (A : Option Addr) (c : Nat) (W : World) (h : Ow 5 u8 W (.slice A l.length c) l) => new_calls A c l W h hl)
  have HRD := hid hrd
  have HBH := hid (fun (p : Nat) (A : Option Addr) (c : Nat) (W : World) (A9 : Option Addr) (n9 c9 : Nat) (h : RbS p A c l j W) => behind_astr_ok h A9 n9 c9)
  generalize l.drop j = X at HBH ⊢
  clear hrd
  obtain ⟨N, hN⟩ : ∃ N, l.length = N := ⟨_, rfl⟩
  have HLN := hid hN
  rw [hN] at hcp ⊢
  clear hN hr0
  go_enter_defers Tryd.func29, Tryd.ntmps29
  go_wp2_with fail
  refine hcp.out.mono ?_
  rintro e w1 ⟨v1, rfl, ho1, hfr1, hch1⟩
  obtain ⟨A1, c1, rfl, _, _⟩ := ho1.slice
  have hnew := HN.out A1 c1 w1 ho1
  rw [HLN.out] at hnew ⊢
  have s1 := hch1.size
  rw [s3] at s1
  go_wp2_with fail
  refine hnew.mono ?_
  rintro e w2 ⟨p, A2, c2, rfl, hb2, hp2, hAe, hch2⟩
  have HAN : Hid (∀ ad, A2 = some ad → w.heap.size + 1 + 1 + 1 ≤ ad.block) := hid (fun ad had => by
    have h9 := hfr1 ad.block (by rw [← hAe.out, had]; rfl)
    rw [s3] at h9
    exact h9)
  clear hAe
  have K0 := (R0.keep0 hch1).keep0 hch2
  have K1 := (R1.keep0 hch1).keep0 hch2
  have K2 := (R2.keep0 hch1).keep0 hch2
  have C2 : Ch No w w2 := (C3.no_no hch1).no_no hch2
  have s2 := hch2.size
  have hap2 : 0 < l.length → ∀ ad, A2 = some ad → ad.block ≠ w2.heap.size := fun hp ad had h => by
    have := hb2.lt hp ad had
    omega
  have HAP2 := hid hap2
  have hpl := hb2.rp.lt
  have RM := Row.alloc w2 [.slice none 0 0] 107
  have AL := (Ch.refl No w2).alloc (.cells #[.slice none 0 0] 107)
  have sal := AL.size
  have HB2 := hid (hb2.keep0 AL)
  clear hap2 hb2
  go_wp2_with fail
  refine (HRD.out p w2.heap.size A2 c2 _ HB2.out RM (by omega) (by simp; omega) HAP2.out).mono ?_
  rintro e w3 ⟨rfl, A9, c9, hrm, hc9, hr9, hap9, hb3, hch3⟩
  obtain ⟨N9, hN9⟩ : ∃ N9, es.length = N9 := ⟨_, rfl⟩
  have HN9 := hid hN9
  rw [hN9] at hrm hc9 hes
  clear hN9
  have m0 := hrm.cell 0 _ rfl
  have C3' : Ch No w w3 := (C2.no_no AL).trans hch3 (fun _ h => h) (fun b hb => .inr (by rcases hb with h | h <;> omega))
  have s33 := hch3.size
  replace K0 := ((K0.keep0 AL).keep hch3 (fun h => by rcases h with h | h <;> omega))
  replace K1 := ((K1.keep0 AL).keep hch3 (fun h => by rcases h with h | h <;> omega))
  replace K2 := ((K2.keep0 AL).keep hch3 (fun h => by rcases h with h | h <;> omega))
  go_wp2_with fail
  go_loopg [17] N9 (fun kk s17 wr => ∃ (i : Nat) (v : Value), kk + i = N9 ∧ s17 = .int .i64 i ∧ Row wr w.heap.size 58 [v] ∧ Ow 9 (Value.string) wr v (es.take i) ∧ Fr w3 v ∧ Ch (fun b => b = w.heap.size) w3 wr)
  case atStart => exact ⟨0, _, by omega, rfl, K0, Ow.nil _ _ _, Fr.nil _ _ _, Ch.refl _ _⟩
  case round =>
    rename World => wA
    obtain ⟨i, v, hki, rfl, hrow, HO, hfr, hch⟩ := hrel
    obtain ⟨Av, cv, rfl, hcv, _⟩ := HO.slice
    have k0 := hrow.cell 0 _ rfl
    have s3A := hch.size
    by_cases hi : i < N9
    · have hi' : (i : Int) < N9 := by omega
      have hi0 : (0 : Int) ≤ i := by omega
      have hie : i < es.length := by rw [HN9.out]; exact hi
      have hr9A := hr9.keep hch (fun ad had h => by have := hap9 ad had; have h9 : ad.block = w.heap.size := h; omega)
      obtain ⟨b9, o9, rfl, hx⟩ := hr9A.at_ i hie
      have HT := hid (List.take_succ_eq_append_getElem hie)
      have htl : (es.take i).length ≤ 1000 := by rw [List.length_take, HN9.out]; omega
      generalize es[i] = x at hx HT
      obtain ⟨E, hE⟩ : ∃ E, es.take i = E := ⟨_, rfl⟩
      rw [hE] at HO HT htl hcv hrow hfr k0
      clear hE hr9A
      replace hx : wA.cell? ⟨b9, o9 + i, none⟩ = some (Value.string x) := hx
      go_wp2_with (first | ((with_reducible refine gate (.call { callee := .builtin .append, args := #[.tmp 21, .tmp 23], argTypes := #[58, 58] }) rfl ?_); refine wp_append rfl _ _ 58 9 (.string ⟨#[]⟩) 16 rfl Tryd.underlying58 info_str rfl (by decide) (Value.string) (fun _ => rfl) _ E [x] _ _ _ rfl rfl rfl (HO.keep0 ((Ch.refl No wA).alloc _)) ((Row.alloc wA [Value.string x] 9).rd (l := [x]) rfl) (by omega) ?_; intro v5 w5 ho5 hch5 hat5; obtain ⟨A5, c5, rfl, hc5, _⟩ := ho5.slice; have hrow5 := (hrow.keep0 ((Ch.refl No wA).alloc (.cells #[Value.string x] 9))).keep hch5 (fun h => by have := hfr _ h; have := K0.lt; omega)) | ((with_reducible refine gate (.store 58 (.tmp 2) (.tmp 24)) rfl ?_); refine wp_store rfl rfl 58 _ _ rfl (w.heap.size) 0 58 [.slice Av E.length cv] (.slice A5 (E ++ [x]).length c5) rfl rfl [.slice A5 (E ++ [x]).length c5] rfl size_gs (by simp [Value.oneCell']) hrow5 (by simp) ?_; intro w6 hrow6 hch6))
      have hf5 : Fr w3 (.slice A5 (E ++ [x]).length c5) := fun b hb => (hat5 b hb).elim (fun h => hfr b h) (fun h => by simp only [World.size_alloc] at h; omega)
      have C5 : Ch (fun b => b = w.heap.size) w3 w5 := (hch.alloc _).trans hch5 (fun _ h => h) (fun b hb => .inr (hfr b hb))
      go_roundg (N9 - (i + 1))
      case measure => omega
      case rel => exact ⟨i + 1, _, by omega, by go_num, by simpa using hrow6, by rw [HT.out]; exact ho5.keep hch6 (fun b hb h => by have := hf5 b hb; have h9 : b = w.heap.size := h; omega), hf5, C5.trans hch6 (fun _ h => h) (fun _ h => .inl h)⟩
    · obtain rfl : i = N9 := by omega
      rw [List.take_of_length_le (by rw [HN9.out]; exact Nat.le_refl _)] at HO hcv hrow hfr k0
      have hHN := HN9.out
      rw [hHN] at HO hcv hrow hfr k0
      have HV : Hid ((∀ ad, Av = some ad → w.heap.size + 1 + 1 + 1 ≤ ad.block) ∧ Rd (Value.string) wA Av es ∧ es.length ≤ cv) := hid ⟨fun ad had => (by have := hfr ad.block (by subst had; rfl); omega), HO.rd, by rw [hHN]; exact hcv⟩
      have hbA := hb3.keepS hch (fun h => by have h9 : p = w.heap.size := h; omega) (fun h0 ad had h => by have h9 : ad.block = w.heap.size := h; have := HAN.out ad had; omega)
      have HBA := hid hbA
      have C4' : Ch No w wA := C3'.trans hch (fun _ h => h) (fun b hb => .inr (by have h9 : b = w.heap.size := hb; omega))
      have K1' := K1.keep hch (fun h => by have h9 : w.heap.size + 1 = w.heap.size := h; omega)
      have K2' := K2.keep hch (fun h => by have h9 : w.heap.size + 1 + 1 = w.heap.size := h; omega)
      clear HO hfr hbA hHN hcv
      go_wp2_with fail
      refine (HBH.out p A2 c2 wA Av i cv HBA.out).mono ?_
      rintro e w4 ⟨A4, c4, rfl, ho4, hf4, hch4⟩
      have HV4 : Hid ((∀ ad, Av = some ad → w.heap.size + 1 + 1 + 1 ≤ ad.block) ∧ Rd (Value.string) w4 Av es) := hid ⟨HV.out.1, HV.out.2.1.keep0 hch4⟩
      have C4 : Ch No w w4 := C4'.no_no hch4
      have K0 := hrow.keep0 hch4
      have K1 := K1'.keep0 hch4
      have K2 := K2'.keep0 hch4
      obtain ⟨q, hq⟩ : ∃ q, X.length = q := ⟨_, rfl⟩
      have HQ := hid hq
      have hle4 := ho4.le
      have hrd4 := ho4.rd
      have hap4 : ∀ ad, A4 = some ad → w.heap.size + 1 + 1 + 1 ≤ ad.block := fun ad h => by
        rcases ho4.form with ⟨h1, _⟩ | ⟨g, c', cur, h1, _, _, h2, _⟩
        · injection h1 with h1; rw [h] at h1; cases h1
        · injection h1 with h1 _ _
          rw [h] at h1
          injection h1 with h1
          subst h1; subst h
          have h9 := hf4 g (Blk_slice.2 rfl)
          show w.heap.size + 1 + 1 + 1 ≤ g
          omega
      have HAP := hid (And.intro hap4 (And.intro hle4 hrd4))
      rw [hq]
      clear hq ho4 hle4 hrd4 hap4 hf4
      go_wp2_with (first | ((with_reducible refine gate (.store 58 (.tmp 2) (.tmp 30)) rfl ?_); refine wp_store rfl rfl 58 _ _ rfl (w.heap.size) 0 58 [.slice Av i cv] (.slice Av i cv) rfl rfl [.slice Av i cv] rfl size_gs (by simp [Value.oneCell']) (K0) (by simp) ?_; intro w7 hrow7 hch7) | ((with_reducible refine gate (.store 26 (.tmp 3) _) rfl ?_); refine wp_store rfl rfl 26 _ _ rfl (w.heap.size + 1) 0 26 [.slice none 0 0] (.slice A4 q c4) rfl rfl [.slice A4 q c4] rfl size_sl (by simp [Value.oneCell']) (K1.keep hch7 (by omega)) (by simp) ?_; intro w8 hrow8 hch8) | ((with_reducible refine gate (.store 4 (.tmp 4) _) rfl ?_); refine wp_store rfl rfl 4 _ _ rfl (w.heap.size + 1 + 1) 0 4 [.bool false] (.bool true) rfl rfl [.bool true] rfl size_bool (by simp [Value.oneCell']) ((K2.keep hch7 (by omega)).keep hch8 (by omega)) (by simp) ?_; intro w9 hrow9 hch9))
      refine leaves_cons (f := 62) (args := #[.pointer (some ⟨w.heap.size, 0, none⟩), .pointer (some ⟨w.heap.size + 1, 0, none⟩), .pointer (some ⟨w.heap.size + 1 + 1, 0, none⟩)]) (by simp) (by simp [go_sem]) ?_
      refine (noValue_astr_idle _ _ _ _).mono ?_
      rintro e u' w'' ⟨rfl, rfl, rfl⟩
      have M0 := ((hrow7.keep hch8 (by omega)).keep hch9 (by omega)).cell 0 _ rfl
      have M1 := (hrow8.keep hch9 (by omega)).cell 0 _ rfl
      have M2 := hrow9.cell 0 _ rfl
      have HC : Ch No w w'' := ((C4.freshg hch7 (Nat.le_refl _)).freshg hch8 (by omega)).freshg hch9 (by omega)
      refine ⟨.tuple #[.slice Av i cv, .slice A4 q c4, .bool true], ?_, Av, cv, A4, c4, by rw [HQ.out, HN9.out], ((HV4.out.2.keep hch7 (fun ad had h => by have := HV4.out.1 ad had; omega)).keep hch8 (fun ad had h => by have := HV4.out.1 ad had; omega)).keep hch9 (fun ad had h => by have := HV4.out.1 ad had; omega), HV.out.2.2, ((HAP.out.2.2.keep hch7 (fun ad had h => by have := HAP.out.1 ad had; omega)).keep hch8 (fun ad had h => by have := HAP.out.1 ad had; omega)).keep hch9 (fun ad had h => by have := HAP.out.1 ad had; omega), HAP.out.2.1.2.1, HC⟩
      simp [results, Tryd.results29, go_sem, M0, M1, M2]
set_option maxRecDepth 100000 in
set_option maxHeartbeats 2000000 in
theorem implArrStr_no (A0 : Option Addr) (c0 : Nat) (l : List Int) (w : World) (hr0 : Rd u8 w A0 l) (hl : l.length ≤ 1099511627776)
    (hrd : ∀ (p q : Nat) (A : Option Addr) (c : Nat) (W : World), w.heap.size ≤ p → Ch No w W → RbS p A c l 0 W → Row W q 107 [.slice none 0 0] → q ≠ p → (0 < l.length → ∀ ad, A = some ad → ad.block ≠ q) → Calls Tryd.prog 63 #[.pointer (some ⟨q, 0, none⟩), .pointer (some ⟨p, 0, none⟩)] W (ArNo 107 p q W)) :
    Calls Tryd.prog 29 #[.slice A0 l.length c0] w (BhNo (.slice none 0 0) w) := by
  have R0 : Row (((w.alloc (.cells #[.slice none 0 0] 58)).alloc (.cells #[.slice none 0 0] 26)).alloc (.cells #[.bool false] 4)) w.heap.size 58 [.slice none 0 0] := ((Row.alloc w [.slice none 0 0] 58).keep0 ((Ch.refl No _).alloc _)).keep0 ((Ch.refl No _).alloc _)
  have R1 : Row (((w.alloc (.cells #[.slice none 0 0] 58)).alloc (.cells #[.slice none 0 0] 26)).alloc (.cells #[.bool false] 4)) (w.heap.size + 1) 26 [.slice none 0 0] := by
    have h := (Row.alloc (w.alloc (.cells #[.slice none 0 0] 58)) [.slice none 0 0] 26).keep0 ((Ch.refl No _).alloc (.cells #[.bool false] 4))
    rwa [World.size_alloc] at h
  have R2 : Row (((w.alloc (.cells #[.slice none 0 0] 58)).alloc (.cells #[.slice none 0 0] 26)).alloc (.cells #[.bool false] 4)) (w.heap.size + 1 + 1) 4 [.bool false] := by
    have h := Row.alloc ((w.alloc (.cells #[.slice none 0 0] 58)).alloc (.cells #[.slice none 0 0] 26)) [.bool false] 4
    rwa [World.size_alloc, World.size_alloc] at h
  have C3 : Ch No w (((w.alloc (.cells #[.slice none 0 0] 58)).alloc (.cells #[.slice none 0 0] 26)).alloc (.cells #[.bool false] 4)) := (((Ch.refl No w).alloc _).alloc _).alloc _
  have s3 : (((w.alloc (.cells #[.slice none 0 0] 58)).alloc (.cells #[.slice none 0 0] 26)).alloc (.cells #[.bool false] 4)).heap.size = w.heap.size + 1 + 1 + 1 := by simp
  have hcp := hid (copied_calls A0 c0 l _ (hr0.keep0 C3) (by omega))
  have HN := hid (fun (A : Option Addr) (c : Nat) (W : World) (h : Ow 5 u8 W (.slice A l.length c) l) => new_calls A c l W h hl)
  have HRD := hid hrd
  clear hrd
  obtain ⟨N, hN⟩ : ∃ N, l.length = N := ⟨_, rfl⟩
  have HLN := hid hN
  rw [hN] at hcp ⊢
  clear hN hr0
  go_enter_defers Tryd.func29, Tryd.ntmps29
  go_wp2_with fail
  refine hcp.out.mono ?_
  rintro e w1 ⟨v1, rfl, ho1, hfr1, hch1⟩
  obtain ⟨A1, c1, rfl, _, _⟩ := ho1.slice
  have hnew := HN.out A1 c1 w1 ho1
  rw [HLN.out] at hnew ⊢
  have s1 := hch1.size
  rw [s3] at s1
  go_wp2_with fail
  refine hnew.mono ?_
  rintro e w2 ⟨p, A2, c2, rfl, hb2, hp2, hAe, hch2⟩
  have HAN : Hid (∀ ad, A2 = some ad → w.heap.size + 1 + 1 + 1 ≤ ad.block) := hid (fun ad had => by
    have h9 := hfr1 ad.block (by rw [← hAe.out, had]; rfl)
    rw [s3] at h9
    exact h9)
  clear hAe
  have K0 := (R0.keep0 hch1).keep0 hch2
  have K1 := (R1.keep0 hch1).keep0 hch2
  have K2 := (R2.keep0 hch1).keep0 hch2
  have C2 : Ch No w w2 := (C3.no_no hch1).no_no hch2
  have s2 := hch2.size
  have hap2 : 0 < l.length → ∀ ad, A2 = some ad → ad.block ≠ w2.heap.size := fun hp ad had h => by
    have := hb2.lt hp ad had
    omega
  have HAP2 := hid hap2
  have hpl := hb2.rp.lt
  have RM := Row.alloc w2 [.slice none 0 0] 107
  have AL := (Ch.refl No w2).alloc (.cells #[.slice none 0 0] 107)
  have sal := AL.size
  have HB2 := hid (hb2.keep0 AL)
  clear hap2 hb2
  go_wp2_with fail
  refine (HRD.out p w2.heap.size A2 c2 _ (by omega) (C2.no_no AL) HB2.out RM (by omega) HAP2.out).mono ?_
  rintro e w3 ⟨T, v, rfl, hrm, hch3⟩
  have m0 := hrm.cell 0 _ rfl
  have C3' : Ch No w w3 := (C2.no_no AL).trans hch3 (fun _ h => h) (fun b hb => .inr (by rcases hb with h | h <;> omega))
  have s33 := hch3.size
  replace K0 := ((K0.keep0 AL).keep hch3 (fun h => by rcases h with h | h <;> omega))
  replace K1 := ((K1.keep0 AL).keep hch3 (fun h => by rcases h with h | h <;> omega))
  replace K2 := ((K2.keep0 AL).keep hch3 (fun h => by rcases h with h | h <;> omega))
  go_wp2_with fail
  go_loopg [17] 0 (fun kk s17 wr => s17 = .int .i64 0 ∧ Ch No w3 wr)
  case atStart => exact ⟨rfl, Ch.refl _ _⟩
  case round =>
    rename World => wA
    obtain ⟨rfl, hch⟩ := hrel
    have K0' := K0.keep0 hch
    have k0 := K0'.cell 0 _ rfl
    have sAA := hch.size
    go_wp2_with fail
    refine (behind_astr_no none 0 0 _ T v wA).mono ?_
    rintro e w4 ⟨rfl, hch4⟩
    have C4 : Ch No w w4 := (C3'.no_no hch).no_no hch4
    have K0 := K0'.keep0 hch4
    have K1 := (K1.keep0 hch).keep0 hch4
    have K2 := (K2.keep0 hch).keep0 hch4
    go_wp2_with (first | ((with_reducible refine gate (.store 58 (.tmp 2) (.tmp 30)) rfl ?_); refine wp_store rfl rfl 58 _ _ rfl (w.heap.size) 0 58 [.slice none 0 0] (.slice none 0 0) rfl rfl [.slice none 0 0] rfl size_gs (by simp [Value.oneCell']) (K0) (by simp) ?_; intro w7 hrow7 hch7) | ((with_reducible refine gate (.store 26 (.tmp 3) _) rfl ?_); refine wp_store rfl rfl 26 _ _ rfl (w.heap.size + 1) 0 26 [.slice none 0 0] (.slice none 0 0) rfl rfl [.slice none 0 0] rfl size_sl (by simp [Value.oneCell']) (K1.keep hch7 (by omega)) (by simp) ?_; intro w8 hrow8 hch8) | ((with_reducible refine gate (.store 4 (.tmp 4) _) rfl ?_); refine wp_store rfl rfl 4 _ _ rfl (w.heap.size + 1 + 1) 0 4 [.bool false] (.bool false) rfl rfl [.bool false] rfl size_bool (by simp [Value.oneCell']) ((K2.keep hch7 (by omega)).keep hch8 (by omega)) (by simp) ?_; intro w9 hrow9 hch9))
    refine leaves_cons (f := 62) (args := #[.pointer (some ⟨w.heap.size, 0, none⟩), .pointer (some ⟨w.heap.size + 1, 0, none⟩), .pointer (some ⟨w.heap.size + 1 + 1, 0, none⟩)]) (by simp) (by simp [go_sem]) ?_
    refine (noValue_astr_idle _ _ _ _).mono ?_
    rintro e u' w'' ⟨rfl, rfl, rfl⟩
    have M0 := ((hrow7.keep hch8 (by omega)).keep hch9 (by omega)).cell 0 _ rfl
    have M1 := (hrow8.keep hch9 (by omega)).cell 0 _ rfl
    have M2 := hrow9.cell 0 _ rfl
    have HC : Ch No w w'' := ((C4.freshg hch7 (Nat.le_refl _)).freshg hch8 (by omega)).freshg hch9 (by omega)
    refine ⟨.tuple #[.slice none 0 0, .slice none 0 0, .bool false], ?_, rfl, HC⟩
    simp [results, Tryd.results29, go_sem, M0, M1, M2]

end Go.Proofs.YtbdgkikipekmlaaDoor
