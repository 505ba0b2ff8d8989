/- The walk of impl.ReadBinary. No condition. -/
import Derived.Test.YtbdgkikipekmlaaDoorRdb
namespace Go.Proofs.YtbdgkikipekmlaaDoor
set_option linter.unusedVariables false
set_option linter.unusedSimpArgs false
open Go.RowKit

/-- Elements have been read into a slice, and what stands behind them. -/
def RsT {α : Type} (f : α → Value) (es : List α) (x : List Int) (w : World) (e : Ending) (w' : World) : Prop := ∃ A9 c9 A c, e = .returned (.tuple #[.slice A9 es.length c9, .slice A x.length c, .bool true]) ∧ Rd f w' A9 es ∧ es.length ≤ c9 ∧ Rd u8 w' A x ∧ x.length ≤ c ∧ Ch No w w'
set_option maxRecDepth 100000 in
theorem behind_bin_ok {p : Nat} {A : Option Addr} {c : Nat} {l : List Int} {i : Nat} {w : World} (h : RbS p A c l i w) (A9 : Option Addr) (n9 c9 : Nat) :
    Calls Tryd.prog 52 #[.slice A9 n9 c9, .pointer (some ⟨p, 0, none⟩), .nilIface] w (BhT (.slice A9 n9 c9) (l.drop i) w) := by
  have hb := hid (bytes_calls h)
  have hl : (l.drop i).length ≤ 35184372088832 := by rw [List.length_drop]; have := h.lb; omega
  generalize l.drop i = X at hb hl ⊢
  have HL := hid hl
  clear h hl
  go_enter Tryd.func52, Tryd.ntmps52
  go_wp2_with fail
  refine hb.out.mono ?_
  rintro e w1 ⟨A1, c1, rfl, hr1, hc1, hch1⟩
  obtain ⟨q, hq⟩ : ∃ q, X.length = q := ⟨_, rfl⟩
  have hcp := hid (copied_calls A1 c1 X w1 hr1 HL.out)
  rw [hq] at hcp ⊢
  have HQ := hid hq
  clear hq
  go_wp2_with fail
  refine hcp.out.mono ?_
  rintro e w2 ⟨v2, rfl, ho2, hf2, hch2⟩
  obtain ⟨A2, c2, rfl, _, _⟩ := ho2.slice
  rw [HQ.out]
  go_wp2_with fail
  go_ret3
  unfold BhT
  rw [HQ.out]
  rw [HQ.out] at ho2 hf2
  exact ⟨A2, c2, rfl, ho2, hf2.weak hch1.size, hch1.no_no hch2⟩
set_option maxRecDepth 100000 in
theorem behind_bin_no (A9 : Option Addr) (n9 c9 : Nat) (p : Value) (T : TypeId) (v : Value) (w : World) :
    Calls Tryd.prog 52 #[.slice A9 n9 c9, p, .iface T v] w (BhNo (.slice none 0 0) w) := by
  go_enter Tryd.func52, Tryd.ntmps52
  go_wp2_with fail
  go_ret3
  exact ⟨rfl, Ch.refl _ _⟩
theorem noValue_bin_idle (p q r : Addr) (w : World) :
    CallsD Tryd.prog 50 #[.pointer (some p), .pointer (some q), .pointer (some r)] .returning w fun e u' w' => e = .returned (.tuple #[]) ∧ u' = .returning ∧ w' = w := by
  refine callsD_of_wpS Tryd.func50 rfl fun c₀ cs hu => ?_
  apply wpS_seq
  apply wpS_region
  simp [wpOpsS, go_sem, recoverD, hu, Tryd.ntmps50, Exit.thenS]
  refine wpS_cond (t := false) (by simp [Act.eval, Array.replicate]) ?_
  simp only [Bool.false_eq_true, if_false]
  refine wpS_of_wp (wp_skip ?_)
  cases c₀
  simp_all [bodyPostS, results, Tryd.results50]
theorem eReadBinary_of {Q : Ending → World → Prop} {p : Addr} {w : World} (h : Calls Tryd.prog 77 #[.pointer (some p)] w fun e w' => ∃ x er, e = .returned (.tuple #[x, er]) ∧ Q e w') :
    Calls Tryd.prog 51 #[.pointer (some p)] w Q := by
  go_enter Tryd.func51, Tryd.ntmps51
  go_wp2_with fail
  refine h.mono ?_
  rintro e w1 ⟨x, er, rfl, hq⟩
  go_wp2_with fail
  exact hq
set_option maxRecDepth 100000 in
set_option maxHeartbeats 1000000 in
theorem implBinary_ok (A0 : Option Addr) (c0 : Nat) (l : List Int) (w : World) (hr0 : Rd u8 w A0 l) (hl : l.length ≤ 1099511627776) (j : Nat) (es : List Int) (hes : es.length ≤ 1099511627776)
    (hrd : ∀ (p : Nat) (A : Option Addr) (c : Nat) (W : World), RbS p A c l 0 W → Calls Tryd.prog 77 #[.pointer (some ⟨p, 0, none⟩)] W (BnYes p A c l j es W)) :
    Calls Tryd.prog 20 #[.slice A0 l.length c0] w (RsT u8 es (l.drop j) w) := by
  have R0 : Row (((w.alloc (.cells #[.slice none 0 0] 26)).alloc (.cells #[.slice none 0 0] 26)).alloc (.cells #[.bool false] 4)) w.heap.size 26 [.slice none 0 0] := ((Row.alloc w [.slice none 0 0] 26).keep0 ((Ch.refl No _).alloc _)).keep0 ((Ch.refl No _).alloc _)
  have R1 : Row (((w.alloc (.cells #[.slice none 0 0] 26)).alloc (.cells #[.slice none 0 0] 26)).alloc (.cells #[.bool false] 4)) (w.heap.size + 1) 26 [.slice none 0 0] := by
    have h := (Row.alloc (w.alloc (.cells #[.slice none 0 0] 26)) [.slice none 0 0] 26).keep0 ((Ch.refl No _).alloc (.cells #[.bool false] 4))
    rwa [World.size_alloc] at h
  have R2 : Row (((w.alloc (.cells #[.slice none 0 0] 26)).alloc (.cells #[.slice none 0 0] 26)).alloc (.cells #[.bool false] 4)) (w.heap.size + 1 + 1) 4 [.bool false] := by
    have h := Row.alloc ((w.alloc (.cells #[.slice none 0 0] 26)).alloc (.cells #[.slice none 0 0] 26)) [.bool false] 4
    rwa [World.size_alloc, World.size_alloc] at h
  have C3 : Ch No w (((w.alloc (.cells #[.slice none 0 0] 26)).alloc (.cells #[.slice none 0 0] 26)).alloc (.cells #[.bool false] 4)) := (((Ch.refl No w).alloc _).alloc _).alloc _
  have s3 : (((w.alloc (.cells #[.slice none 0 0] 26)).alloc (.cells #[.slice none 0 0] 26)).alloc (.cells #[.bool false] 4)).heap.size = w.heap.size + 1 + 1 + 1 := by simp
  have hcp := hid (copied_calls A0 c0 l _ (hr0.keep0 C3) (by omega))
  have HN := hid (fun (A : Option Addr) (c : Nat) (W : World) (h : Ow 5 u8 W (.slice A l.length c) l) => new_calls A c l W h hl)
  have HRD := hid hrd
  have HBH := hid (fun (p : Nat) (A : Option Addr) (c : Nat) (W : World) (A9 : Option Addr) (n9 c9 : Nat) (h : RbS p A c l j W) => behind_bin_ok h A9 n9 c9)
  generalize l.drop j = X at HBH ⊢
  clear hrd
  obtain ⟨N, hN⟩ : ∃ N, l.length = N := ⟨_, rfl⟩
  have HLN := hid hN
  rw [hN] at hcp ⊢
  clear hN hr0
  go_enter_defers Tryd.func20, Tryd.ntmps20
  go_wp2_with fail
  refine hcp.out.mono ?_
  rintro e w1 ⟨v1, rfl, ho1, hfr1, hch1⟩
  obtain ⟨A1, c1, rfl, _, _⟩ := ho1.slice
  have hnew := HN.out A1 c1 w1 ho1
  rw [HLN.out] at hnew ⊢
  have s1 := hch1.size
  rw [s3] at s1
  go_wp2_with fail
  refine hnew.mono ?_
  rintro e w2 ⟨p, A2, c2, rfl, hb2, hp2, hAe, hch2⟩
  have HAN : Hid (∀ ad, A2 = some ad → w.heap.size + 1 + 1 + 1 ≤ ad.block) := hid (fun ad had => by
    have h9 := hfr1 ad.block (by rw [← hAe.out, had]; rfl)
    rw [s3] at h9
    exact h9)
  clear hAe
  have K0 := (R0.keep0 hch1).keep0 hch2
  have K1 := (R1.keep0 hch1).keep0 hch2
  have K2 := (R2.keep0 hch1).keep0 hch2
  have C2 : Ch No w w2 := (C3.no_no hch1).no_no hch2
  have s2 := hch2.size
  have HB2 := hid hb2
  clear hb2
  go_wp2_with fail
  refine (eReadBinary_of ((HRD.out p A2 c2 _ HB2.out).mono fun e w' h => (by obtain ⟨A', c', h1, h2⟩ := h; exact ⟨_, _, h1, (⟨A', c', h1, h2⟩ : BnYes p A2 c2 l j es w2 e w')⟩))).mono ?_
  rintro e w3 ⟨A8, c8, rfl, ho8, _, hb3, hch3⟩
  obtain ⟨N8, hN8⟩ : ∃ N8, es.length = N8 := ⟨_, rfl⟩
  have hc9 := hid (copied_calls A8 c8 es w3 ho8.rd (by omega))
  rw [hN8] at hc9 ⊢
  have HN8 := hid hN8
  clear hN8 ho8
  go_wp2_with fail
  refine hc9.out.mono ?_
  rintro e w3b ⟨v9, rfl, ho9, hf9, hch3b⟩
  obtain ⟨A9, c9, rfl, hle9, _⟩ := ho9.slice
  rw [HN8.out]
  rw [HN8.out] at hle9
  have s3b := hch3.size
  have HV : Hid ((∀ ad, A9 = some ad → w.heap.size + 1 + 1 + 1 ≤ ad.block) ∧ Rd Go.Proofs.YtbdgkikipekmlaaDoor.u8 w3b A9 es) := hid ⟨fun ad had => (by have := hf9 ad.block (by subst had; rfl); omega), ho9.rd⟩
  clear ho9 hf9
  go_wp2_with fail
  refine (HBH.out p A2 c2 w3b A9 N8 c9 (hb3.keep0 hch3b)).mono ?_
  rintro e w4 ⟨A4, c4, rfl, ho4, hf4, hch4⟩
  have HV4 : Hid ((∀ ad, A9 = some ad → w.heap.size + 1 + 1 + 1 ≤ ad.block) ∧ Rd Go.Proofs.YtbdgkikipekmlaaDoor.u8 w4 A9 es) := hid ⟨HV.out.1, HV.out.2.keep0 hch4⟩
  have C4 : Ch No w w4 := ((C2.freshg hch3 (by omega)).no_no hch3b).no_no hch4
  have s33 := hch3.size
  have s34 := hch3b.size
  replace K0 := ((K0.keep hch3 (fun h => by have h9 : w.heap.size = p := h; omega)).keep0 hch3b).keep0 hch4
  replace K1 := ((K1.keep hch3 (fun h => by have h9 : w.heap.size + 1 = p := h; omega)).keep0 hch3b).keep0 hch4
  replace K2 := ((K2.keep hch3 (fun h => by have h9 : w.heap.size + 1 + 1 = p := h; omega)).keep0 hch3b).keep0 hch4
  obtain ⟨q, hq⟩ : ∃ q, X.length = q := ⟨_, rfl⟩
  have HQ := hid hq
  have hle4 := ho4.le
  have hrd4 := ho4.rd
  have hap4 : ∀ ad, A4 = some ad → w.heap.size + 1 + 1 + 1 ≤ ad.block := fun ad h => by
    rcases ho4.form with ⟨h1, _⟩ | ⟨g, c', cur, h1, _, _, h2, _⟩
    · injection h1 with h1; rw [h] at h1; cases h1
    · injection h1 with h1 _ _
      rw [h] at h1
      injection h1 with h1
      subst h1; subst h
      have h9 := hf4 g (Blk_slice.2 rfl)
      show w.heap.size + 1 + 1 + 1 ≤ g
      omega
  have HAP := hid (And.intro hap4 (And.intro hle4 hrd4))
  rw [hq]
  clear hq ho4 hle4 hrd4 hap4 hf4
  go_wp2_with (first | ((with_reducible refine gate (.store 26 (.tmp 2) _) rfl ?_); refine wp_store rfl rfl 26 _ _ rfl (w.heap.size) 0 26 [.slice none 0 0] (.slice A9 N8 c9) rfl rfl [.slice A9 N8 c9] rfl size_sl (by simp [Value.oneCell']) (K0) (by simp) ?_; intro w7 hrow7 hch7) | ((with_reducible refine gate (.store 26 (.tmp 3) _) rfl ?_); refine wp_store rfl rfl 26 _ _ rfl (w.heap.size + 1) 0 26 [.slice none 0 0] (.slice A4 q c4) rfl rfl [.slice A4 q c4] rfl size_sl (by simp [Value.oneCell']) (K1.keep hch7 (by omega)) (by simp) ?_; intro w8 hrow8 hch8) | ((with_reducible refine gate (.store 4 (.tmp 4) _) rfl ?_); refine wp_store rfl rfl 4 _ _ rfl (w.heap.size + 1 + 1) 0 4 [.bool false] (.bool true) rfl rfl [.bool true] rfl size_bool (by simp [Value.oneCell']) ((K2.keep hch7 (by omega)).keep hch8 (by omega)) (by simp) ?_; intro w9 hrow9 hch9))
  refine leaves_cons (f := 50) (args := #[.pointer (some ⟨w.heap.size, 0, none⟩), .pointer (some ⟨w.heap.size + 1, 0, none⟩), .pointer (some ⟨w.heap.size + 1 + 1, 0, none⟩)]) (by simp) (by simp [go_sem]) ?_
  refine (noValue_bin_idle _ _ _ _).mono ?_
  rintro e u' w'' ⟨rfl, rfl, rfl⟩
  have M0 := ((hrow7.keep hch8 (by omega)).keep hch9 (by omega)).cell 0 _ rfl
  have M1 := (hrow8.keep hch9 (by omega)).cell 0 _ rfl
  have M2 := hrow9.cell 0 _ rfl
  have HC : Ch No w w'' := ((C4.freshg hch7 (Nat.le_refl _)).freshg hch8 (by omega)).freshg hch9 (by omega)
  refine ⟨.tuple #[.slice A9 N8 c9, .slice A4 q c4, .bool true], ?_, A9, c9, A4, c4, by rw [HQ.out, HN8.out], ((HV4.out.2.keep hch7 (fun ad had h => by have := HV4.out.1 ad had; omega)).keep hch8 (fun ad had h => by have := HV4.out.1 ad had; omega)).keep hch9 (fun ad had h => by have := HV4.out.1 ad had; omega), by rw [HN8.out]; exact hle9, ((HAP.out.2.2.keep hch7 (fun ad had h => by have := HAP.out.1 ad had; omega)).keep hch8 (fun ad had h => by have := HAP.out.1 ad had; omega)).keep hch9 (fun ad had h => by have := HAP.out.1 ad had; omega), HAP.out.2.1.2.1, HC⟩
  simp [results, Tryd.results20, go_sem, M0, M1, M2]
set_option maxRecDepth 100000 in
set_option maxHeartbeats 1000000 in
theorem implBinary_no (A0 : Option Addr) (c0 : Nat) (l : List Int) (w : World) (hr0 : Rd u8 w A0 l) (hl : l.length ≤ 1099511627776)
    (hrd : ∀ (p : Nat) (A : Option Addr) (c : Nat) (W : World), w.heap.size ≤ p → Ch No w W → RbS p A c l 0 W → Calls Tryd.prog 77 #[.pointer (some ⟨p, 0, none⟩)] W (BnNo p W)) :
    Calls Tryd.prog 20 #[.slice A0 l.length c0] w (BhNo (.slice none 0 0) w) := by
  have R0 : Row (((w.alloc (.cells #[.slice none 0 0] 26)).alloc (.cells #[.slice none 0 0] 26)).alloc (.cells #[.bool false] 4)) w.heap.size 26 [.slice none 0 0] := ((Row.alloc w [.slice none 0 0] 26).keep0 ((Ch.refl No _).alloc _)).keep0 ((Ch.refl No _).alloc _)
  have R1 : Row (((w.alloc (.cells #[.slice none 0 0] 26)).alloc (.cells #[.slice none 0 0] 26)).alloc (.cells #[.bool false] 4)) (w.heap.size + 1) 26 [.slice none 0 0] := by
    have h := (Row.alloc (w.alloc (.cells #[.slice none 0 0] 26)) [.slice none 0 0] 26).keep0 ((Ch.refl No _).alloc (.cells #[.bool false] 4))
    rwa [World.size_alloc] at h
  have R2 : Row (((w.alloc (.cells #[.slice none 0 0] 26)).alloc (.cells #[.slice none 0 0] 26)).alloc (.cells #[.bool false] 4)) (w.heap.size + 1 + 1) 4 [.bool false] := by
    have h := Row.alloc ((w.alloc (.cells #[.slice none 0 0] 26)).alloc (.cells #[.slice none 0 0] 26)) [.bool false] 4
    rwa [World.size_alloc, World.size_alloc] at h
  have C3 : Ch No w (((w.alloc (.cells #[.slice none 0 0] 26)).alloc (.cells #[.slice none 0 0] 26)).alloc (.cells #[.bool false] 4)) := (((Ch.refl No w).alloc _).alloc _).alloc _
  have s3 : (((w.alloc (.cells #[.slice none 0 0] 26)).alloc (.cells #[.slice none 0 0] 26)).alloc (.cells #[.bool false] 4)).heap.size = w.heap.size + 1 + 1 + 1 := by simp
  have hcp := hid (copied_calls A0 c0 l _ (hr0.keep0 C3) (by omega))
  have HN := hid (fun (A : Option Addr) (c : Nat) (W : World) (h : Ow 5 u8 W (.slice A l.length c) l) => new_calls A c l W h hl)
  have HRD := hid hrd
  clear hrd
  obtain ⟨N, hN⟩ : ∃ N, l.length = N := ⟨_, rfl⟩
  have HLN := hid hN
  rw [hN] at hcp ⊢
  clear hN hr0
  go_enter_defers Tryd.func20, Tryd.ntmps20
  go_wp2_with fail
  refine hcp.out.mono ?_
  rintro e w1 ⟨v1, rfl, ho1, hfr1, hch1⟩
  obtain ⟨A1, c1, rfl, _, _⟩ := ho1.slice
  have hnew := HN.out A1 c1 w1 ho1
  rw [HLN.out] at hnew ⊢
  have s1 := hch1.size
  rw [s3] at s1
  go_wp2_with fail
  refine hnew.mono ?_
  rintro e w2 ⟨p, A2, c2, rfl, hb2, hp2, hAe, hch2⟩
  have HAN : Hid (∀ ad, A2 = some ad → w.heap.size + 1 + 1 + 1 ≤ ad.block) := hid (fun ad had => by
    have h9 := hfr1 ad.block (by rw [← hAe.out, had]; rfl)
    rw [s3] at h9
    exact h9)
  clear hAe
  have K0 := (R0.keep0 hch1).keep0 hch2
  have K1 := (R1.keep0 hch1).keep0 hch2
  have K2 := (R2.keep0 hch1).keep0 hch2
  have C2 : Ch No w w2 := (C3.no_no hch1).no_no hch2
  have s2 := hch2.size
  have HB2 := hid hb2
  clear hb2
  go_wp2_with fail
  refine (eReadBinary_of ((HRD.out p A2 c2 _ (by omega) C2 HB2.out).mono fun e w' h => (by obtain ⟨T, v, h1, h2⟩ := h; exact ⟨_, _, h1, (⟨T, v, h1, h2⟩ : BnNo p w2 e w')⟩))).mono ?_
  rintro e w3 ⟨T, v, rfl, hch3⟩
  go_wp2_with fail
  refine (copied_calls none 0 [] w3 (Rd.nil _ _ _) (by simp)).mono ?_
  rintro e w3b ⟨v9, rfl, ho9, hf9, hch3b⟩
  obtain ⟨A9, c9, rfl, hle9, _⟩ := ho9.slice
  simp only [List.length_nil]
  clear ho9 hf9
  go_wp2_with fail
  refine (behind_bin_no A9 0 c9 _ T v w3b).mono ?_
  rintro e w4 ⟨rfl, hch4⟩
  have C4 : Ch No w w4 := ((C2.freshg hch3 (by omega)).no_no hch3b).no_no hch4
  have s33 := hch3.size
  have s34 := hch3b.size
  replace K0 := ((K0.keep hch3 (fun h => by have h9 : w.heap.size = p := h; omega)).keep0 hch3b).keep0 hch4
  replace K1 := ((K1.keep hch3 (fun h => by have h9 : w.heap.size + 1 = p := h; omega)).keep0 hch3b).keep0 hch4
  replace K2 := ((K2.keep hch3 (fun h => by have h9 : w.heap.size + 1 + 1 = p := h; omega)).keep0 hch3b).keep0 hch4
  go_wp2_with (first | ((with_reducible refine gate (.store 26 (.tmp 2) _) rfl ?_); refine wp_store rfl rfl 26 _ _ rfl (w.heap.size) 0 26 [.slice none 0 0] (.slice none 0 0) rfl rfl [.slice none 0 0] rfl size_sl (by simp [Value.oneCell']) (K0) (by simp) ?_; intro w7 hrow7 hch7) | ((with_reducible refine gate (.store 26 (.tmp 3) _) rfl ?_); refine wp_store rfl rfl 26 _ _ rfl (w.heap.size + 1) 0 26 [.slice none 0 0] (.slice none 0 0) rfl rfl [.slice none 0 0] rfl size_sl (by simp [Value.oneCell']) (K1.keep hch7 (by omega)) (by simp) ?_; intro w8 hrow8 hch8) | ((with_reducible refine gate (.store 4 (.tmp 4) _) rfl ?_); refine wp_store rfl rfl 4 _ _ rfl (w.heap.size + 1 + 1) 0 4 [.bool false] (.bool false) rfl rfl [.bool false] rfl size_bool (by simp [Value.oneCell']) ((K2.keep hch7 (by omega)).keep hch8 (by omega)) (by simp) ?_; intro w9 hrow9 hch9))
  refine leaves_cons (f := 50) (args := #[.pointer (some ⟨w.heap.size, 0, none⟩), .pointer (some ⟨w.heap.size + 1, 0, none⟩), .pointer (some ⟨w.heap.size + 1 + 1, 0, none⟩)]) (by simp) (by simp [go_sem]) ?_
  refine (noValue_bin_idle _ _ _ _).mono ?_
  rintro e u' w'' ⟨rfl, rfl, rfl⟩
  have M0 := ((hrow7.keep hch8 (by omega)).keep hch9 (by omega)).cell 0 _ rfl
  have M1 := (hrow8.keep hch9 (by omega)).cell 0 _ rfl
  have M2 := hrow9.cell 0 _ rfl
  have HC : Ch No w w'' := ((C4.freshg hch7 (Nat.le_refl _)).freshg hch8 (by omega)).freshg hch9 (by omega)
  refine ⟨.tuple #[.slice none 0 0, .slice none 0 0, .bool false], ?_, rfl, HC⟩
  simp [results, Tryd.results20, go_sem, M0, M1, M2]

end Go.Proofs.YtbdgkikipekmlaaDoor
