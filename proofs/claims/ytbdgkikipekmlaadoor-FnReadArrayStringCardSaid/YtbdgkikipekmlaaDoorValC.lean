/- The walk of the reference's number of the values in a value. No condition. -/
import Derived.Test.YtbdgkikipekmlaaDoorVaa
import Derived.Deep.RegionLaw
namespace Go.Proofs.YtbdgkikipekmlaaDoor
set_option linter.unusedVariables false
set_option linter.unusedSimpArgs false
open Go.RowKit

set_option maxRecDepth 100000 in
set_option maxHeartbeats 4000000 in
theorem valuesV_calls (w0 : World) : ∀ (t : Va) (v0 v1 v2 v3 v4 v5 : Value) (w : World), VaP w0 t [v0, v1, v2, v3, v4, v5] → Ch (Fro w0.heap.size) w0 w → cntV t ≤ 2000 →
    Calls Tryd.prog 42 #[.agg #[v0, v1, v2, v3, v4, v5]] w fun e w' => e = .returned (.int .i64 (cntV t)) ∧ Ch No w w' := by
  intro t
  induction t with
  | mk k n s m K o d D ihK ihD =>
    intro v0 v1 v2 v3 v4 v5 w ht hw hcnt
    have ht' := ht
    obtain ⟨A, cap, B, capB, he, _, _, _, _, hmc, hcm, hdc, hcd, hkk, hdd⟩ := ht'
    have hmb : m ≤ maxLen := Nat.le_trans hmc hcm
    have hdb : d ≤ maxLen := Nat.le_trans hdc hcd
    unfold maxLen at hmb hdb
    clear hmc hcm hdc hcd
    simp only [List.cons.injEq, and_true] at he
    obtain ⟨rfl, rfl, rfl, rfl, rfl, rfl⟩ := he
    obtain ⟨ys, yl, y1, hys, hyk⟩ := kids_src hkk hw
    obtain ⟨zs, zl, z1, hzs, hzk⟩ := kids_src hdd hw
    clear hkk hdd
    obtain ⟨fK, hfK⟩ : ∃ f : Nat → Nat, f = (fun i => if h : i < m then cntV (K ⟨i, h⟩) else 0) := ⟨_, rfl⟩
    obtain ⟨fD, hfD⟩ : ∃ f : Nat → Nat, f = (fun i => if h : i < d then cntV (D ⟨i, h⟩) else 0) := ⟨_, rfl⟩
    obtain ⟨F, hF⟩ : ∃ F : Nat → Nat, F = fun i => if i < m then fK i else fD (i - m) := ⟨_, rfl⟩
    have hct : cntV (.mk k n s m K o d D) = 1 + psum fK m + psum fD d := by rw [hfK, hfD]; rfl
    have hpK : ∀ i, i ≤ m → psum F i = psum fK i := by
      intro i
      induction i with
      | zero => intro _; rfl
      | succ i ih => intro h; simp only [psum]; rw [ih (by omega), hF]; simp only [if_pos (show i < m by omega)]
    have hpD : ∀ i, psum F (m + i) = psum fK m + psum fD i := by
      intro i
      induction i with
      | zero => exact hpK m (Nat.le_refl _)
      | succ i ih => show psum F (m + i) + F (m + i) = _; rw [ih, hF]; simp only [if_neg (show ¬ m + i < m by omega), Nat.add_sub_cancel_left, psum]; omega
    have hct2 : cntV (.mk k n s m K o d D) = 1 + psum F (m + d) := by rw [hct, hpD]; omega
    have hFk : ∀ i (h : i < m), F i = cntV (K ⟨i, h⟩) := fun i h => by rw [hF, hfK]; simp only [if_pos h, dif_pos h]
    have hFd : ∀ i (h : i - m < d), m ≤ i → F i = cntV (D ⟨i - m, h⟩) := fun i h hm => by rw [hF, hfD]; simp only [if_neg (show ¬ i < m by omega), dif_pos h]
    rw [hct2] at hcnt ⊢
    have hle : ∀ i, i ≤ m + d → psum F i ≤ psum F (m + d) := fun i h => psum_le F h
    have hone : ∀ t : Va, 1 ≤ cntV t := fun t => by cases t; unfold cntV; omega
    have hpos : ∀ i, i ≤ m + d → i ≤ psum F i := by
      intro i
      induction i with
      | zero => intro _; omega
      | succ i ih =>
        intro h
        have h1 : 1 ≤ F i := by
          by_cases hi : i < m
          · rw [hFk i hi]; exact hone _
          · rw [hFd i (by omega) (by omega)]; exact hone _
        simp only [psum]
        have := ih (by omega)
        omega
    have hmd : m + d ≤ 2000 := by have := hpos (m + d) (Nat.le_refl _); omega
    clear hct hct2 hpK hpD hF hfK hfD hone hpos
    have hel : ∀ i, i < m + d → ∃ (t : Va) (u0 u1 u2 u3 u4 u5 : Value), VaP w0 t [u0, u1, u2, u3, u4, u5] ∧ F i = cntV t ∧ (∀ w : World, Ch (Fro w0.heap.size) w0 w → cntV t ≤ 2000 → Calls Tryd.prog 42 #[.agg #[u0, u1, u2, u3, u4, u5]] w fun e w' => e = .returned (.int .i64 (cntV t)) ∧ Ch No w w') ∧
        (ys ++ zs)[i * 6]? = some u0 ∧ (ys ++ zs)[i * 6 + 1]? = some u1 ∧ (ys ++ zs)[i * 6 + 2]? = some u2 ∧ (ys ++ zs)[i * 6 + 3]? = some u3 ∧ (ys ++ zs)[i * 6 + 4]? = some u4 ∧ (ys ++ zs)[i * 6 + 5]? = some u5 := fun i hi => by
      by_cases him : i < m
      · obtain ⟨u0, u1, u2, u3, u4, u5, hx, g0, g1, g2, g3, g4, g5⟩ := hyk i him
        refine ⟨_, u0, u1, u2, u3, u4, u5, hx, hFk i him, fun w h1 h2 => ihK ⟨i, him⟩ _ _ _ _ _ _ w hx h1 h2, ?_, ?_, ?_, ?_, ?_, ?_⟩
        all_goals
          rw [List.getElem?_append_left (by omega)]
          assumption
      · obtain ⟨u0, u1, u2, u3, u4, u5, hx, g0, g1, g2, g3, g4, g5⟩ := hzk (i - m) (by omega)
        have e0 : i * 6 - ys.length = (i - m) * 6 := by omega
        refine ⟨_, u0, u1, u2, u3, u4, u5, hx, hFd i (by omega) (by omega), fun w h1 h2 => ihD ⟨i - m, by omega⟩ _ _ _ _ _ _ w hx h1 h2, ?_, ?_, ?_, ?_, ?_, ?_⟩
        · rw [List.getElem?_append_right (by omega), e0]; exact g0
        · rw [List.getElem?_append_right (by omega), show i * 6 + 1 - ys.length = (i - m) * 6 + 1 by omega]; exact g1
        · rw [List.getElem?_append_right (by omega), show i * 6 + 2 - ys.length = (i - m) * 6 + 2 by omega]; exact g2
        · rw [List.getElem?_append_right (by omega), show i * 6 + 3 - ys.length = (i - m) * 6 + 3 by omega]; exact g3
        · rw [List.getElem?_append_right (by omega), show i * 6 + 4 - ys.length = (i - m) * 6 + 4 by omega]; exact g4
        · rw [List.getElem?_append_right (by omega), show i * 6 + 5 - ys.length = (i - m) * 6 + 5 by omega]; exact g5
    have hB := Row.alloc w [.int .i64 k, .int .u64 n, .string s, .slice A m cap, .int .i64 o, .slice B d capB] 25
    have C1 : Ch No w (w.alloc (.cells #[.int .i64 k, .int .u64 n, .string s, .slice A m cap, .int .i64 o, .slice B d capB] 25)) := (Ch.refl No w).alloc _
    have e3 := hB.cell 3 _ rfl
    have e5 := hB.cell 5 _ rfl
    have HEL := hid hel
    have HLE := hid hle
    clear hyk hzk hFk hFd hle hel
    go_enter Tryd.func42, Tryd.ntmps42
    go_wp2_with fail
    go_region_law (first | (refine step_appendM rfl (.tmp 6) (.tmp 8) 23 25 _ 6 88 rfl Tryd.underlying23 info_va rfl (by decide) (by decide) (by decide) (.slice (some ⟨w.heap.size + 1, 0, none⟩) 0 0) 0 [] ys A m cap rfl rfl yl y1 (by first | exact OwK.lit1 _ _ _ _ | exact (OwK.lit1 _ _ _ _).keep0 (Ch.refl No _).drew) (by first | exact hys.keep0 ((C1.alloc _)) | exact hys.keep0 ((C1.alloc _).drew) | exact hys.keep0 ((C1.drew.alloc _))) (by omega) ?_; intro v9 w9 ho9 hch9 hat9; rw [Nat.zero_add, List.nil_append] at ho9; have F9 : Fr w v9 := (Fr.mk' (by omega) : Fr w (.slice (some ⟨w.heap.size + 1, 0, none⟩) 0 0)).step (Ch.size (S := No) (by first | exact (C1.alloc _) | exact (C1.alloc _).drew | exact (C1.drew.alloc _))) hat9; obtain ⟨A9, c9, rfl⟩ := ho9.slice; have C9 : Ch No w w9 := Ch.trans (T := No) (by first | exact (C1.alloc _) | exact (C1.alloc _).drew | exact (C1.drew.alloc _)) hch9 (fun _ h => h) (fun b hb => .inr (by have := Blk_slice.1 hb; omega)); have B9 : Row w9 w.heap.size 25 _ := (hB.keep0 (by first | exact ((Ch.refl No _).alloc _) | exact ((Ch.refl No _).alloc _).drew | exact ((Ch.refl No _).drew.alloc _))).keep hch9 (fun h => by have := Blk_slice.1 h; omega); have g5 := B9.cell 5 _ rfl) | (refine step_appendM rfl (.tmp 9) (.tmp 11) 23 25 _ 6 88 rfl Tryd.underlying23 info_va rfl (by decide) (by decide) (by decide) _ m ys zs B d capB rfl rfl zl z1 (by first | exact ho9 | exact ho9.keep0 (Ch.refl No _).drew) (by first | exact hzs.keep0 C9 | exact hzs.keep0 C9.drew) (by omega) ?_; intro v8 w8 ho8 hch8 hat8; obtain ⟨A8, c8, rfl⟩ := ho8.slice))

    all_goals
      have C8 : Ch No w w8 := (by first | exact C9 | exact C9.drew : Ch No w _).trans hch8 (fun _ h => h) (fun b hb => .inr (F9 b hb))
      go_wp2_with fail
      simp only [List.getElem_toArray, List.getElem_cons_succ, List.getElem_cons_zero, Act.put, List.setIfInBounds_toArray, List.set_cons_succ, List.set_cons_zero]
      go_loopg [3, 14] (m + d) (fun kk s3 s14 wr => ∃ i : Nat, kk + i = m + d ∧ s14 = .int .i64 i ∧ s3 = .int .i64 ((1 + psum F i : Nat) : Int) ∧ OwK 25 6 wr (.slice A8 (m + d) c8) (m + d) (ys ++ zs) ∧ Ch No w wr)
      case atStart => exact ⟨0, by omega, rfl, by simp [psum], ho8, C8⟩
      case round =>
        obtain ⟨i, hki, rfl, rfl, HO, hch⟩ := hrel
        by_cases hi : i < m + d
        · obtain ⟨t, u0, u1, u2, u3, u4, u5, htk, hFi, hcall, g0, g1, g2, g3, g4, g5⟩ := HEL.out i hi
          obtain ⟨b, rfl, hcell⟩ := HO.cellAt (by omega)
          have a0 := hcell _ _ g0
          have a1 := hcell _ _ g1
          have a2 := hcell _ _ g2
          have a3 := hcell _ _ g3
          have a4 := hcell _ _ g4
          have a5 := hcell _ _ g5
          have HC := hid hcell
          have HCA := hid hcall
          have hone := htk.one
          clear hcell g0 g1 g2 g3 g4 g5 hcall
          have hi' : (i : Int) < (m : Int) + d := by omega
          have hi0 : (0 : Int) ≤ i := by omega
          have hps : psum F (i + 1) = psum F i + cntV t := by simp only [psum, hFi]
          have hl1 := HLE.out (i + 1) (by omega)
          have hck : cntV t ≤ 2000 := by omega
          have HPS := hid hps
          clear hFi
          rw [hps] at hl1
          generalize psum F i = pi at HPS hl1 ⊢
          clear hps
          go_wp2_with (first | ((with_reducible refine gate (.store 25 (.tmp 5) _) rfl ?_); refine wp_store rfl rfl 25 _ _ rfl wr.heap.size 0 25 VZ (.agg #[u0, u1, u2, u3, u4, u5]) rfl rfl [u0, u1, u2, u3, u4, u5] rfl size_va hone (Row.alloc wr VZ 25) (by simp) ?_; intro w2 hrow2 hch2; have q0 : w2.cell? ⟨wr.heap.size, 0, none⟩ = some u0 := hrow2.cell 0 _ rfl; have q1 : w2.cell? ⟨wr.heap.size, 1, none⟩ = some u1 := hrow2.cell 1 _ rfl; have q2 : w2.cell? ⟨wr.heap.size, 2, none⟩ = some u2 := hrow2.cell 2 _ rfl; have q3 : w2.cell? ⟨wr.heap.size, 3, none⟩ = some u3 := hrow2.cell 3 _ rfl; have q4 : w2.cell? ⟨wr.heap.size, 4, none⟩ = some u4 := hrow2.cell 4 _ rfl; have q5 : w2.cell? ⟨wr.heap.size, 5, none⟩ = some u5 := hrow2.cell 5 _ rfl))

          have C2 : Ch No w w2 := (hch.alloc _).freshg hch2 hch.size
          refine (HCA.out w2 (hw.then_no C2) hck).mono ?_
          rintro e w3 ⟨rfl, hch3⟩
          generalize cntV t = ck at hck HPS hl1 ⊢
          go_wp2_with fail
          go_roundg (gk - 1)
          case measure => omega
          case rel => exact ⟨i + 1, by omega, by go_num, by rw [HPS.out]; go_num, HO.keep0 ((((Ch.refl No wr).alloc _).freshg hch2 (Nat.le_refl _)).no_no hch3), C2.no_no hch3⟩
        · obtain rfl : m + d = i := by omega
          go_wp2_with fail
          go_ret
          exact ⟨rfl, hch⟩
end Go.Proofs.YtbdgkikipekmlaaDoor
