/- The walk of the reference's forms of what stands behind its length. No condition. -/
import Derived.Test.YtbdgkikipekmlaaDoorPcs
import Derived.Deep.LoopGhost
import Derived.Deep.RegionHeld3
namespace Go.Proofs.YtbdgkikipekmlaaDoor
set_option linter.unusedVariables false
set_option linter.unusedSimpArgs false
open Go.RowKit
theorem lenh_len (cnt : Int) (sz : Nat) : (lenh cnt sz).length ≤ sz := by
  unfold lenh
  split
  · rw [bg_len]; exact Nat.le_refl _
  · simp
/-- A row of one type and a slice of another never share a block. -/
theorem Row.apart {w : World} {g : Nat} {e e' : TypeId} {cur : List Value} {α : Type} {f : α → Value} {v : Value} {l : List α} (h : Row w g e cur) (hv : Ow e' f w v l) (hn : e ≠ e') : ¬ Blk v g := fun hb => by
  rcases hv.form with ⟨rfl, _⟩ | ⟨g', c, cur', rfl, _, _, _, hg, _⟩
  · exact Blk_nil hb
  · have e1 := Blk_slice.1 hb
    subst e1
    have hg := (show w.heap[_]? = _ from h).symm.trans hg
    injection hg with hg
    injection hg with _ h1 _
    exact hn h1
theorem Row.apartK {w : World} {g : Nat} {e e' : TypeId} {cur : List Value} {S n : Nat} {v : Value} {cells : List Value} (h : Row w g e cur) (hv : OwK e' S w v n cells) (hn : e ≠ e') : ¬ Blk v g := fun hb => by
  rcases hv.2 with ⟨rfl, _⟩ | ⟨g', c, cur', rfl, _, hg, _⟩
  · exact Blk_nil hb
  · have e1 := Blk_slice.1 hb
    subst e1
    have hg := (show w.heap[_]? = _ from h).symm.trans hg
    injection hg with hg
    injection hg with _ h1 _
    exact hn h1
theorem size2 (w : World) (a b : Obj) : ((w.alloc a).alloc b).heap.size = w.heap.size + 1 + 1 := by simp
set_option maxRecDepth 100000 in
set_option maxHeartbeats 4000000 in
theorem lengthed_yes (sh lo cnt : Int) (A : Option Addr) (c : Nat) (data : List Int) (w : World) (hr : Rd Go.Proofs.YtbdgkikipekmlaaDoor.u8 w A data) (hl : data.length ≤ 2000000000) (hc0 : 0 ≤ cnt) (hc1 : cnt ≤ 1000) :
    Calls Tryd.prog 94 #[.int .i64 sh, .int .i64 lo, .slice A data.length c, .int .i64 (cnt)] w (PcTo (LenD sh lo data cnt) lo w) := by
  have dc : decide (0 ≤ cnt) = true := decide_eq_true hc0
  have hcw : IntKind.u64.wrap cnt = cnt := by simp [IntKind.wrap, IntKind.bits, IntKind.signed]; omega
  go_enter Tryd.func94, Tryd.ntmps94
  go_wp2_with fail
  have hT0 := Row.alloc w [.int .i64 sh, .int .i64 1, .int .i64 lo, .int .i64 4] 166
  have C1 : Ch No w (w.alloc (.cells #[.int .i64 sh, .int .i64 1, .int .i64 lo, .int .i64 4] 166)) := (Ch.refl No w).alloc _
  go_loopg [9, 20] 2 (fun kk s9 s20 wr => ∃ (i : Nat) (xs : List Pce), kk + i = 2 ∧ s20 = .int .i64 i ∧ xs.length ≤ i ∧ PMay (LenD sh lo data cnt) w wr s9 xs ∧ Row wr w.heap.size 166 [.int .i64 sh, .int .i64 1, .int .i64 lo, .int .i64 4] ∧ Ch No w wr ∧ (i = 2 → ∃ x ∈ xs, x.1 = lo))
  case atStart => exact ⟨0, [], by omega, rfl, by simp, PMay.nil _ _ _, hT0, C1, by omega⟩
  case round =>
    obtain ⟨i, xs, hki, rfl, hn, hmay, hrT, hch, hpos⟩ := hrel
    obtain ⟨A9, c9, rfl⟩ := hmay.slice
    obtain hi | hi | hi : i = 0 ∨ i = 1 ∨ i = 2 := by omega
    · subst hi
      have g0 := hrT.cell 0 _ rfl
      have g1 := hrT.cell 1 _ rfl
      have hR := (Row.alloc wr [.int .i64 sh, .int .i64 1] 166).keep0 ((Ch.refl No _).alloc (.cells #[] 5))
      have f0 := hR.cell 0 _ rfl
      have f1 := hR.cell 1 _ rfl
      have e0 := (Ch.refl No _).drew.cell0 f0
      have e1 := (Ch.refl No _).drew.cell0 f1
      have K1 : Ch No wr ((wr.alloc (.cells #[.int .i64 sh, .int .i64 1] 166)).alloc (.cells #[] 5)) := ((Ch.refl No wr).alloc _).alloc _
      have KS := size2 wr (.cells #[.int .i64 sh, .int .i64 1] 166) (.cells #[] 5)
      by_cases h255 : 255 < cnt
      · have d1 : decide ((255 : Int) < cnt) = true := decide_eq_true h255
        go_wp2_with fail
        go_roundg (gk - 1)
        case measure => omega
        case rel => exact ⟨1, xs, by omega, rfl, by omega, hmay.keep0 (K1), hrT.keep0 (K1), hch.no_no (K1), by omega⟩
      have d1 : decide ((255 : Int) < cnt) = false := decide_eq_false h255
      have hlh : lenh cnt 1 = bg cnt 1 := by unfold lenh; rw [if_pos hc0]
      have hni : IntKind.i64.wrap ((data.length : Int) + 1) = (data.length : Int) + 1 := by simp [IntKind.wrap, IntKind.bits, IntKind.signed]; omega
      go_wp2_with fail
      go_region_held3 (fun wz => wz.cell? ⟨wr.heap.size, 0, none⟩ = some (.int .i64 sh) ∧ wz.cell? ⟨wr.heap.size, 1, none⟩ = some (.int .i64 1)) (first | exact ⟨e0, e1⟩ | exact ⟨t0, t1⟩) (first | (go_at_call 105; refine (big_calls cnt 1 _ (by omega) (by omega) hc0 (by omega)).mono ?_; rintro e w2 ⟨v2, rfl, ho2, hf2, hch2⟩; have t0 := hch2.cell0 e0; have t1 := hch2.cell0 e1))
      obtain ⟨H, hH⟩ : ∃ H, bg cnt 1 = H := ⟨_, rfl⟩
      have hHl : H.length = 1 := by rw [← hH]; exact bg_len _ _
      rw [hH] at ho2 hlh
      clear hH
      obtain ⟨A2, c2, hv2, _, _⟩ := ho2.slice
      rw [hHl] at hv2
      subst hv2
      have C2 : Ch No wr w2 := K1.drew.no_no hch2
      have KS2 : wr.heap.size + 1 + 1 ≤ w2.heap.size := by rw [← KS]; exact hch2.size
      have hf2w : Fr w (.slice A2 1 c2) := hf2.weak (Nat.le_trans hch.size K1.size)
      have e2 := (Ch.refl No _).drew.cell0 t0
      have e3 := (Ch.refl No _).drew.cell0 t1
      by_cases h2 : 255 < data.length + 1
      · have d2 : decide ((255 : Int) < (data.length : Int) + 1) = true := decide_eq_true (by omega)
        go_wp2_with fail
        go_roundg (gk - 1)
        case measure => omega
        case rel => exact ⟨1, xs, by omega, rfl, by omega, hmay.keep0 (C2), hrT.keep0 (C2), hch.no_no (C2), by omega⟩
      have d2 : decide ((255 : Int) < (data.length : Int) + 1) = false := decide_eq_false (by omega)
      have hnu : IntKind.u64.wrap ((data.length : Int) + 1) = (data.length : Int) + 1 := by simp [IntKind.wrap, IntKind.bits, IntKind.signed]; omega
      have HP : Hid (LenD sh lo data cnt sh (bg ((data.length : Int) + 1) 1 ++ H ++ data)) := hid (.inl ⟨rfl, by omega, by rw [hlh]; simp [hHl]; omega, by rw [hlh]; simp [hHl]⟩)
      clear hlh
      obtain ⟨Z, hZ⟩ : ∃ Z, (bg ((data.length : Int) + 1) 1 ++ H ++ data) = Z := ⟨_, rfl⟩
      rw [hZ] at HP
      have HZ := hid hZ
      clear hZ
      have hrd := hr.keep0 (hch.no_no C2)
      have hsw := hch.size
      go_wp2_with fail
      go_region_held3 (fun wz => wz.cell? ⟨wr.heap.size, 0, none⟩ = some (.int .i64 sh) ∧ wz.cell? ⟨wr.heap.size, 1, none⟩ = some (.int .i64 1)) (first | exact ⟨e2, e3⟩ | exact ⟨y0, y1⟩ | exact ⟨y2, y3⟩ | exact ⟨y4, y5⟩ | exact ⟨y6, y7⟩ | exact ⟨y8, y9⟩) (first | (go_at_call 105; refine (big_calls ((data.length : Int) + 1) 1 _ (by omega) (by omega) (by omega) (by omega)).mono ?_; rintro e w3 ⟨v3, rfl, ho3, hf3, hch3⟩; have y0 := hch3.cell0 e2; have y1 := hch3.cell0 e3; have b3 : ∀ b, Blk v3 b → wr.heap.size + 1 + 1 ≤ b := fun b hb => Nat.le_trans KS2 (hf3 b hb); have C3 : Ch No wr w3 := (C2.drew).no_no hch3; have ho2' := (ho2.keep0 (Ch.refl No _).drew).keep0 hch3; have hrd3 := (hrd.keep0 (Ch.refl No _).drew).keep0 hch3; have s3 : wr.heap.size + 1 + 1 ≤ w3.heap.size := Nat.le_trans KS2 hch3.size) | (refine step_append rfl (.tmp 59) (.tmp 60) 26 5 (.int .u8 0) 1 rfl Tryd.underlying26 info_u8 rfl (by decide) Go.Proofs.YtbdgkikipekmlaaDoor.u8 (fun _ => rfl) v3 (bg ((data.length : Int) + 1) 1) (H) _ _ _ rfl rfl hHl ho3 ho2'.rd (by rw [bg_len]; omega) ?_; intro v4 w4 ho4 hch4 hat4; have y2 := hch4.cell y0 (fun h => by have := b3 _ h; simp only at this; omega); have y3 := hch4.cell y1 (fun h => by have := b3 _ h; simp only at this; omega); have b4 : ∀ b, Blk v4 b → wr.heap.size + 1 + 1 ≤ b := fun b hb => (hat4 b hb).elim (b3 b) (fun h => by omega); have C4 : Ch No wr w4 := C3.trans hch4 (fun _ h => h) (fun b hb => .inr (by have := b3 b hb; omega)); have hrd4 := hr.keep0 (hch.no_no C4); have s4 : wr.heap.size + 1 + 1 ≤ w4.heap.size := Nat.le_trans s3 hch4.size) | (refine step_append rfl (.tmp 61) (.tmp 62) 26 5 (.int .u8 0) 1 rfl Tryd.underlying26 info_u8 rfl (by decide) Go.Proofs.YtbdgkikipekmlaaDoor.u8 (fun _ => rfl) v4 (bg ((data.length : Int) + 1) 1 ++ H) data _ _ _ rfl rfl rfl ho4 hrd4 (by rw [List.length_append, bg_len]; (try simp only [List.length_nil]); omega) ?_; intro v5 w5 ho5 hch5 hat5; rw [HZ.out] at ho5; have y4 := hch5.cell y2 (fun h => by have := b4 _ h; simp only at this; omega); have y5 := hch5.cell y3 (fun h => by have := b4 _ h; simp only at this; omega); have b5 : ∀ b, Blk v5 b → wr.heap.size + 1 + 1 ≤ b := fun b hb => (hat5 b hb).elim (b4 b) (fun h => by omega); have C5 : Ch No wr w5 := C4.trans hch5 (fun _ h => h) (fun b hb => .inr (by have := b4 b hb; omega)); obtain ⟨A5, c5, rfl, _, _⟩ := ho5.slice; have y6 := ((Ch.refl No w5).alloc (.cells #[.int .i64 sh, .slice A5 Z.length c5] 116)).cell0 y4; have y7 := ((Ch.refl No w5).alloc (.cells #[.int .i64 sh, .slice A5 Z.length c5] 116)).cell0 y5) | (have hq := (hmay.keep0 C5).keep0 ((Ch.refl No w5).alloc (.cells (pc ((sh, A5, Z.length, c5) : Pce)).toArray 116)); have h1 := PMay.one (w0 := w) (P := LenD sh lo data cnt) ((sh, A5, Z.length, c5) : Pce) HP.out ho5.by (fun b hb => by have := b5 b hb; omega) (by have := C5.size; omega); refine step_appendM rfl (.tmp 52) (.tmp 65) 113 116 _ 2 32 rfl Tryd.underlying113 info_pc rfl (by decide) (by decide) (by decide) _ xs.length (xs.flatMap pc) ([((sh, A5, Z.length, c5) : Pce)].flatMap pc) _ 1 _ rfl rfl rfl (pcs_one _) hq.1 h1.src (by omega) ?_; intro v6 w6 ho6 hch6 hat6; have M6 := hq.cat h1 (by have := C5.size; simp only [World.size_alloc]; omega) ho6 hch6 hat6; have y8 := hch6.cell y6 (fun h => by have := hmay.1.blk_lt _ h; simp only at this; omega); have y9 := hch6.cell y7 (fun h => by have := hmay.1.blk_lt _ h; simp only at this; omega); have C6 : Ch No w w6 := (((hch.no_no C5).alloc _)).trans hch6 (fun _ h => h) (fun b hb => .inr (hmay.2.1 b hb))))
      have R6 := ((hrT.keep0 C5).keep0 ((Ch.refl No w5).alloc (.cells (pc ((sh, A5, Z.length, c5) : Pce)).toArray 116))).keep hch6 (fun h => ((hrT.keep0 C5).keep0 ((Ch.refl No w5).alloc (.cells (pc ((sh, A5, Z.length, c5) : Pce)).toArray 116))).apartK hq.1 (by decide) h)
      go_wp2_with fail
      go_roundg (gk - 1)
      case measure => omega
      case rel => exact ⟨1, xs ++ [((sh, A5, Z.length, c5) : Pce)], by omega, by go_num, by rw [List.length_append]; simp only [List.length_cons, List.length_nil]; omega, M6, R6, C6, by omega⟩
    · subst hi
      have g0 := hrT.cell 2 _ rfl
      have g1 := hrT.cell 3 _ rfl
      have hR := (Row.alloc wr [.int .i64 lo, .int .i64 4] 166).keep0 ((Ch.refl No _).alloc (.cells #[] 5))
      have f0 := hR.cell 0 _ rfl
      have f1 := hR.cell 1 _ rfl
      have e0 := (Ch.refl No _).drew.cell0 f0
      have e1 := (Ch.refl No _).drew.cell0 f1
      have K1 : Ch No wr ((wr.alloc (.cells #[.int .i64 lo, .int .i64 4] 166)).alloc (.cells #[] 5)) := ((Ch.refl No wr).alloc _).alloc _
      have KS := size2 wr (.cells #[.int .i64 lo, .int .i64 4] 166) (.cells #[] 5)
      have hlh : lenh cnt 4 = bg cnt 4 := by unfold lenh; rw [if_pos hc0]
      have hni : IntKind.i64.wrap ((data.length : Int) + 4) = (data.length : Int) + 4 := by simp [IntKind.wrap, IntKind.bits, IntKind.signed]; omega
      go_wp2_with fail
      go_region_held3 (fun wz => wz.cell? ⟨wr.heap.size, 0, none⟩ = some (.int .i64 lo) ∧ wz.cell? ⟨wr.heap.size, 1, none⟩ = some (.int .i64 4)) (first | exact ⟨e0, e1⟩ | exact ⟨t0, t1⟩) (first | (go_at_call 105; refine (big_calls cnt 4 _ (by omega) (by omega) hc0 (by omega)).mono ?_; rintro e w2 ⟨v2, rfl, ho2, hf2, hch2⟩; have t0 := hch2.cell0 e0; have t1 := hch2.cell0 e1))
      obtain ⟨H, hH⟩ : ∃ H, bg cnt 4 = H := ⟨_, rfl⟩
      have hHl : H.length = 4 := by rw [← hH]; exact bg_len _ _
      rw [hH] at ho2 hlh
      clear hH
      obtain ⟨A2, c2, hv2, _, _⟩ := ho2.slice
      rw [hHl] at hv2
      subst hv2
      have C2 : Ch No wr w2 := K1.drew.no_no hch2
      have KS2 : wr.heap.size + 1 + 1 ≤ w2.heap.size := by rw [← KS]; exact hch2.size
      have hf2w : Fr w (.slice A2 4 c2) := hf2.weak (Nat.le_trans hch.size K1.size)
      have e2 := (Ch.refl No _).drew.cell0 t0
      have e3 := (Ch.refl No _).drew.cell0 t1
      have hnu : IntKind.u64.wrap ((data.length : Int) + 4) = (data.length : Int) + 4 := by simp [IntKind.wrap, IntKind.bits, IntKind.signed]; omega
      have HP : Hid (LenD sh lo data cnt lo (bg ((data.length : Int) + 4) 4 ++ H ++ data)) := hid (.inr ⟨rfl, by rw [hlh]; simp [hHl]⟩)
      clear hlh
      obtain ⟨Z, hZ⟩ : ∃ Z, (bg ((data.length : Int) + 4) 4 ++ H ++ data) = Z := ⟨_, rfl⟩
      rw [hZ] at HP
      have HZ := hid hZ
      clear hZ
      have hrd := hr.keep0 (hch.no_no C2)
      have hsw := hch.size
      go_wp2_with fail
      go_region_held3 (fun wz => wz.cell? ⟨wr.heap.size, 0, none⟩ = some (.int .i64 lo) ∧ wz.cell? ⟨wr.heap.size, 1, none⟩ = some (.int .i64 4)) (first | exact ⟨e2, e3⟩ | exact ⟨y0, y1⟩ | exact ⟨y2, y3⟩ | exact ⟨y4, y5⟩ | exact ⟨y6, y7⟩ | exact ⟨y8, y9⟩) (first | (go_at_call 105; refine (big_calls ((data.length : Int) + 4) 4 _ (by omega) (by omega) (by omega) (by omega)).mono ?_; rintro e w3 ⟨v3, rfl, ho3, hf3, hch3⟩; have y0 := hch3.cell0 e2; have y1 := hch3.cell0 e3; have b3 : ∀ b, Blk v3 b → wr.heap.size + 1 + 1 ≤ b := fun b hb => Nat.le_trans KS2 (hf3 b hb); have C3 : Ch No wr w3 := (C2.drew).no_no hch3; have ho2' := (ho2.keep0 (Ch.refl No _).drew).keep0 hch3; have hrd3 := (hrd.keep0 (Ch.refl No _).drew).keep0 hch3; have s3 : wr.heap.size + 1 + 1 ≤ w3.heap.size := Nat.le_trans KS2 hch3.size) | (refine step_append rfl (.tmp 59) (.tmp 60) 26 5 (.int .u8 0) 1 rfl Tryd.underlying26 info_u8 rfl (by decide) Go.Proofs.YtbdgkikipekmlaaDoor.u8 (fun _ => rfl) v3 (bg ((data.length : Int) + 4) 4) (H) _ _ _ rfl rfl hHl ho3 ho2'.rd (by rw [bg_len]; omega) ?_; intro v4 w4 ho4 hch4 hat4; have y2 := hch4.cell y0 (fun h => by have := b3 _ h; simp only at this; omega); have y3 := hch4.cell y1 (fun h => by have := b3 _ h; simp only at this; omega); have b4 : ∀ b, Blk v4 b → wr.heap.size + 1 + 1 ≤ b := fun b hb => (hat4 b hb).elim (b3 b) (fun h => by omega); have C4 : Ch No wr w4 := C3.trans hch4 (fun _ h => h) (fun b hb => .inr (by have := b3 b hb; omega)); have hrd4 := hr.keep0 (hch.no_no C4); have s4 : wr.heap.size + 1 + 1 ≤ w4.heap.size := Nat.le_trans s3 hch4.size) | (refine step_append rfl (.tmp 61) (.tmp 62) 26 5 (.int .u8 0) 1 rfl Tryd.underlying26 info_u8 rfl (by decide) Go.Proofs.YtbdgkikipekmlaaDoor.u8 (fun _ => rfl) v4 (bg ((data.length : Int) + 4) 4 ++ H) data _ _ _ rfl rfl rfl ho4 hrd4 (by rw [List.length_append, bg_len]; (try simp only [List.length_nil]); omega) ?_; intro v5 w5 ho5 hch5 hat5; rw [HZ.out] at ho5; have y4 := hch5.cell y2 (fun h => by have := b4 _ h; simp only at this; omega); have y5 := hch5.cell y3 (fun h => by have := b4 _ h; simp only at this; omega); have b5 : ∀ b, Blk v5 b → wr.heap.size + 1 + 1 ≤ b := fun b hb => (hat5 b hb).elim (b4 b) (fun h => by omega); have C5 : Ch No wr w5 := C4.trans hch5 (fun _ h => h) (fun b hb => .inr (by have := b4 b hb; omega)); obtain ⟨A5, c5, rfl, _, _⟩ := ho5.slice; have y6 := ((Ch.refl No w5).alloc (.cells #[.int .i64 lo, .slice A5 Z.length c5] 116)).cell0 y4; have y7 := ((Ch.refl No w5).alloc (.cells #[.int .i64 lo, .slice A5 Z.length c5] 116)).cell0 y5) | (have hq := (hmay.keep0 C5).keep0 ((Ch.refl No w5).alloc (.cells (pc ((lo, A5, Z.length, c5) : Pce)).toArray 116)); have h1 := PMay.one (w0 := w) (P := LenD sh lo data cnt) ((lo, A5, Z.length, c5) : Pce) HP.out ho5.by (fun b hb => by have := b5 b hb; omega) (by have := C5.size; omega); refine step_appendM rfl (.tmp 52) (.tmp 65) 113 116 _ 2 32 rfl Tryd.underlying113 info_pc rfl (by decide) (by decide) (by decide) _ xs.length (xs.flatMap pc) ([((lo, A5, Z.length, c5) : Pce)].flatMap pc) _ 1 _ rfl rfl rfl (pcs_one _) hq.1 h1.src (by omega) ?_; intro v6 w6 ho6 hch6 hat6; have M6 := hq.cat h1 (by have := C5.size; simp only [World.size_alloc]; omega) ho6 hch6 hat6; have y8 := hch6.cell y6 (fun h => by have := hmay.1.blk_lt _ h; simp only at this; omega); have y9 := hch6.cell y7 (fun h => by have := hmay.1.blk_lt _ h; simp only at this; omega); have C6 : Ch No w w6 := (((hch.no_no C5).alloc _)).trans hch6 (fun _ h => h) (fun b hb => .inr (hmay.2.1 b hb))))
      have R6 := ((hrT.keep0 C5).keep0 ((Ch.refl No w5).alloc (.cells (pc ((lo, A5, Z.length, c5) : Pce)).toArray 116))).keep hch6 (fun h => ((hrT.keep0 C5).keep0 ((Ch.refl No w5).alloc (.cells (pc ((lo, A5, Z.length, c5) : Pce)).toArray 116))).apartK hq.1 (by decide) h)
      go_wp2_with fail
      go_roundg (gk - 1)
      case measure => omega
      case rel => exact ⟨2, xs ++ [((lo, A5, Z.length, c5) : Pce)], by omega, by go_num, by rw [List.length_append]; simp only [List.length_cons, List.length_nil]; omega, M6, R6, C6, fun _ => ⟨((lo, A5, Z.length, c5) : Pce), by simp, rfl⟩⟩
    · subst hi
      go_wp2_with fail
      go_ret
      exact ⟨_, xs, rfl, hmay, by omega, hpos (by trivial), hch⟩
set_option maxRecDepth 100000 in
set_option maxHeartbeats 4000000 in
theorem lengthed_no (sh lo : Int) (A : Option Addr) (c : Nat) (data : List Int) (w : World) (hr : Rd Go.Proofs.YtbdgkikipekmlaaDoor.u8 w A data) (hl : data.length ≤ 2000000000) :
    Calls Tryd.prog 94 #[.int .i64 sh, .int .i64 lo, .slice A data.length c, .int .i64 (-1)] w (PcTo (LenD sh lo data (-1)) lo w) := by
  go_enter Tryd.func94, Tryd.ntmps94
  go_wp2_with fail
  have hT0 := Row.alloc w [.int .i64 sh, .int .i64 1, .int .i64 lo, .int .i64 4] 166
  have C1 : Ch No w (w.alloc (.cells #[.int .i64 sh, .int .i64 1, .int .i64 lo, .int .i64 4] 166)) := (Ch.refl No w).alloc _
  go_loopg [9, 20] 2 (fun kk s9 s20 wr => ∃ (i : Nat) (xs : List Pce), kk + i = 2 ∧ s20 = .int .i64 i ∧ xs.length ≤ i ∧ PMay (LenD sh lo data (-1)) w wr s9 xs ∧ Row wr w.heap.size 166 [.int .i64 sh, .int .i64 1, .int .i64 lo, .int .i64 4] ∧ Ch No w wr ∧ (i = 2 → ∃ x ∈ xs, x.1 = lo))
  case atStart => exact ⟨0, [], by omega, rfl, by simp, PMay.nil _ _ _, hT0, C1, by omega⟩
  case round =>
    obtain ⟨i, xs, hki, rfl, hn, hmay, hrT, hch, hpos⟩ := hrel
    obtain ⟨A9, c9, rfl⟩ := hmay.slice
    obtain hi | hi | hi : i = 0 ∨ i = 1 ∨ i = 2 := by omega
    · subst hi
      have g0 := hrT.cell 0 _ rfl
      have g1 := hrT.cell 1 _ rfl
      have hR := (Row.alloc wr [.int .i64 sh, .int .i64 1] 166).keep0 ((Ch.refl No _).alloc (.cells #[] 5))
      have f0 := hR.cell 0 _ rfl
      have f1 := hR.cell 1 _ rfl
      have e0 := (Ch.refl No _).drew.cell0 f0
      have e1 := (Ch.refl No _).drew.cell0 f1
      have K1 : Ch No wr ((wr.alloc (.cells #[.int .i64 sh, .int .i64 1] 166)).alloc (.cells #[] 5)) := ((Ch.refl No wr).alloc _).alloc _
      have KS := size2 wr (.cells #[.int .i64 sh, .int .i64 1] 166) (.cells #[] 5)
      have hlh : lenh (-1) 1 = ([] : List Int) := rfl
      have ho2 : Ow 5 Go.Proofs.YtbdgkikipekmlaaDoor.u8 ((wr.alloc (.cells #[.int .i64 sh, .int .i64 1] 166)).alloc (.cells #[] 5)) (.slice (some ⟨(wr.alloc (.cells #[.int .i64 sh, .int .i64 1] 166)).heap.size, 0, none⟩) 0 0) [] := Ow.lit 5 Go.Proofs.YtbdgkikipekmlaaDoor.u8 (wr.alloc (.cells #[.int .i64 sh, .int .i64 1] 166)) [] (by simp [maxLen])
      rw [World.size_alloc] at ho2
      have t0 := f0
      have t1 := f1
      have KS2 : wr.heap.size + 1 + 1 ≤ ((wr.alloc (.cells #[.int .i64 sh, .int .i64 1] 166)).alloc (.cells #[] 5)).heap.size := by rw [← KS]; exact Nat.le_refl _
      have C2 := K1
      have e2 := (Ch.refl No _).drew.cell0 t0
      have e3 := (Ch.refl No _).drew.cell0 t1
      by_cases h2 : 255 < data.length
      · have d2 : decide ((255 : Int) < (data.length : Int)) = true := decide_eq_true (by omega)
        go_wp2_with fail
        go_roundg (gk - 1)
        case measure => omega
        case rel => exact ⟨1, xs, by omega, rfl, by omega, hmay.keep0 (C2), hrT.keep0 (C2), hch.no_no (C2), by omega⟩
      have d2 : decide ((255 : Int) < (data.length : Int)) = false := decide_eq_false (by omega)
      have hnu : IntKind.u64.wrap ((data.length : Int)) = (data.length : Int) := by simp [IntKind.wrap, IntKind.bits, IntKind.signed]; omega
      have HP : Hid (LenD sh lo data (-1) sh (bg ((data.length : Int)) 1 ++ ([] : List Int) ++ data)) := hid (.inl ⟨rfl, by omega, by rw [hlh]; simp; omega, by rw [hlh]; simp⟩)
      clear hlh
      obtain ⟨Z, hZ⟩ : ∃ Z, (bg ((data.length : Int)) 1 ++ ([] : List Int) ++ data) = Z := ⟨_, rfl⟩
      rw [hZ] at HP
      have HZ := hid hZ
      clear hZ
      have hrd := hr.keep0 (hch.no_no C2)
      have hsw := hch.size
      go_wp2_with fail
      go_region_held3 (fun wz => wz.cell? ⟨wr.heap.size, 0, none⟩ = some (.int .i64 sh) ∧ wz.cell? ⟨wr.heap.size, 1, none⟩ = some (.int .i64 1)) (first | exact ⟨e2, e3⟩ | exact ⟨y0, y1⟩ | exact ⟨y2, y3⟩ | exact ⟨y4, y5⟩ | exact ⟨y6, y7⟩ | exact ⟨y8, y9⟩) (first | (go_at_call 105; refine (big_calls ((data.length : Int)) 1 _ (by omega) (by omega) (by omega) (by omega)).mono ?_; rintro e w3 ⟨v3, rfl, ho3, hf3, hch3⟩; have y0 := hch3.cell0 e2; have y1 := hch3.cell0 e3; have b3 : ∀ b, Blk v3 b → wr.heap.size + 1 + 1 ≤ b := fun b hb => Nat.le_trans KS2 (hf3 b hb); have C3 : Ch No wr w3 := (C2.drew).no_no hch3; have ho2' := (ho2.keep0 (Ch.refl No _).drew).keep0 hch3; have hrd3 := (hrd.keep0 (Ch.refl No _).drew).keep0 hch3; have s3 : wr.heap.size + 1 + 1 ≤ w3.heap.size := Nat.le_trans KS2 hch3.size) | (refine step_append rfl (.tmp 59) (.tmp 60) 26 5 (.int .u8 0) 1 rfl Tryd.underlying26 info_u8 rfl (by decide) Go.Proofs.YtbdgkikipekmlaaDoor.u8 (fun _ => rfl) v3 (bg ((data.length : Int)) 1) (([] : List Int)) _ _ _ rfl rfl rfl ho3 ho2'.rd (by rw [bg_len]; omega) ?_; intro v4 w4 ho4 hch4 hat4; have y2 := hch4.cell y0 (fun h => by have := b3 _ h; simp only at this; omega); have y3 := hch4.cell y1 (fun h => by have := b3 _ h; simp only at this; omega); have b4 : ∀ b, Blk v4 b → wr.heap.size + 1 + 1 ≤ b := fun b hb => (hat4 b hb).elim (b3 b) (fun h => by omega); have C4 : Ch No wr w4 := C3.trans hch4 (fun _ h => h) (fun b hb => .inr (by have := b3 b hb; omega)); have hrd4 := hr.keep0 (hch.no_no C4); have s4 : wr.heap.size + 1 + 1 ≤ w4.heap.size := Nat.le_trans s3 hch4.size) | (refine step_append rfl (.tmp 61) (.tmp 62) 26 5 (.int .u8 0) 1 rfl Tryd.underlying26 info_u8 rfl (by decide) Go.Proofs.YtbdgkikipekmlaaDoor.u8 (fun _ => rfl) v4 (bg ((data.length : Int)) 1 ++ ([] : List Int)) data _ _ _ rfl rfl rfl ho4 hrd4 (by rw [List.length_append, bg_len]; (try simp only [List.length_nil]); omega) ?_; intro v5 w5 ho5 hch5 hat5; rw [HZ.out] at ho5; have y4 := hch5.cell y2 (fun h => by have := b4 _ h; simp only at this; omega); have y5 := hch5.cell y3 (fun h => by have := b4 _ h; simp only at this; omega); have b5 : ∀ b, Blk v5 b → wr.heap.size + 1 + 1 ≤ b := fun b hb => (hat5 b hb).elim (b4 b) (fun h => by omega); have C5 : Ch No wr w5 := C4.trans hch5 (fun _ h => h) (fun b hb => .inr (by have := b4 b hb; omega)); obtain ⟨A5, c5, rfl, _, _⟩ := ho5.slice; have y6 := ((Ch.refl No w5).alloc (.cells #[.int .i64 sh, .slice A5 Z.length c5] 116)).cell0 y4; have y7 := ((Ch.refl No w5).alloc (.cells #[.int .i64 sh, .slice A5 Z.length c5] 116)).cell0 y5) | (have hq := (hmay.keep0 C5).keep0 ((Ch.refl No w5).alloc (.cells (pc ((sh, A5, Z.length, c5) : Pce)).toArray 116)); have h1 := PMay.one (w0 := w) (P := LenD sh lo data (-1)) ((sh, A5, Z.length, c5) : Pce) HP.out ho5.by (fun b hb => by have := b5 b hb; omega) (by have := C5.size; omega); refine step_appendM rfl (.tmp 52) (.tmp 65) 113 116 _ 2 32 rfl Tryd.underlying113 info_pc rfl (by decide) (by decide) (by decide) _ xs.length (xs.flatMap pc) ([((sh, A5, Z.length, c5) : Pce)].flatMap pc) _ 1 _ rfl rfl rfl (pcs_one _) hq.1 h1.src (by omega) ?_; intro v6 w6 ho6 hch6 hat6; have M6 := hq.cat h1 (by have := C5.size; simp only [World.size_alloc]; omega) ho6 hch6 hat6; have y8 := hch6.cell y6 (fun h => by have := hmay.1.blk_lt _ h; simp only at this; omega); have y9 := hch6.cell y7 (fun h => by have := hmay.1.blk_lt _ h; simp only at this; omega); have C6 : Ch No w w6 := (((hch.no_no C5).alloc _)).trans hch6 (fun _ h => h) (fun b hb => .inr (hmay.2.1 b hb))))
      have R6 := ((hrT.keep0 C5).keep0 ((Ch.refl No w5).alloc (.cells (pc ((sh, A5, Z.length, c5) : Pce)).toArray 116))).keep hch6 (fun h => ((hrT.keep0 C5).keep0 ((Ch.refl No w5).alloc (.cells (pc ((sh, A5, Z.length, c5) : Pce)).toArray 116))).apartK hq.1 (by decide) h)
      go_wp2_with fail
      go_roundg (gk - 1)
      case measure => omega
      case rel => exact ⟨1, xs ++ [((sh, A5, Z.length, c5) : Pce)], by omega, by go_num, by rw [List.length_append]; simp only [List.length_cons, List.length_nil]; omega, M6, R6, C6, by omega⟩
    · subst hi
      have g0 := hrT.cell 2 _ rfl
      have g1 := hrT.cell 3 _ rfl
      have hR := (Row.alloc wr [.int .i64 lo, .int .i64 4] 166).keep0 ((Ch.refl No _).alloc (.cells #[] 5))
      have f0 := hR.cell 0 _ rfl
      have f1 := hR.cell 1 _ rfl
      have e0 := (Ch.refl No _).drew.cell0 f0
      have e1 := (Ch.refl No _).drew.cell0 f1
      have K1 : Ch No wr ((wr.alloc (.cells #[.int .i64 lo, .int .i64 4] 166)).alloc (.cells #[] 5)) := ((Ch.refl No wr).alloc _).alloc _
      have KS := size2 wr (.cells #[.int .i64 lo, .int .i64 4] 166) (.cells #[] 5)
      have hlh : lenh (-1) 4 = ([] : List Int) := rfl
      have ho2 : Ow 5 Go.Proofs.YtbdgkikipekmlaaDoor.u8 ((wr.alloc (.cells #[.int .i64 lo, .int .i64 4] 166)).alloc (.cells #[] 5)) (.slice (some ⟨(wr.alloc (.cells #[.int .i64 lo, .int .i64 4] 166)).heap.size, 0, none⟩) 0 0) [] := Ow.lit 5 Go.Proofs.YtbdgkikipekmlaaDoor.u8 (wr.alloc (.cells #[.int .i64 lo, .int .i64 4] 166)) [] (by simp [maxLen])
      rw [World.size_alloc] at ho2
      have t0 := f0
      have t1 := f1
      have KS2 : wr.heap.size + 1 + 1 ≤ ((wr.alloc (.cells #[.int .i64 lo, .int .i64 4] 166)).alloc (.cells #[] 5)).heap.size := by rw [← KS]; exact Nat.le_refl _
      have C2 := K1
      have e2 := (Ch.refl No _).drew.cell0 t0
      have e3 := (Ch.refl No _).drew.cell0 t1
      have hnu : IntKind.u64.wrap ((data.length : Int)) = (data.length : Int) := by simp [IntKind.wrap, IntKind.bits, IntKind.signed]; omega
      have HP : Hid (LenD sh lo data (-1) lo (bg ((data.length : Int)) 4 ++ ([] : List Int) ++ data)) := hid (.inr ⟨rfl, by rw [hlh]; simp⟩)
      clear hlh
      obtain ⟨Z, hZ⟩ : ∃ Z, (bg ((data.length : Int)) 4 ++ ([] : List Int) ++ data) = Z := ⟨_, rfl⟩
      rw [hZ] at HP
      have HZ := hid hZ
      clear hZ
      have hrd := hr.keep0 (hch.no_no C2)
      have hsw := hch.size
      go_wp2_with fail
      go_region_held3 (fun wz => wz.cell? ⟨wr.heap.size, 0, none⟩ = some (.int .i64 lo) ∧ wz.cell? ⟨wr.heap.size, 1, none⟩ = some (.int .i64 4)) (first | exact ⟨e2, e3⟩ | exact ⟨y0, y1⟩ | exact ⟨y2, y3⟩ | exact ⟨y4, y5⟩ | exact ⟨y6, y7⟩ | exact ⟨y8, y9⟩) (first | (go_at_call 105; refine (big_calls ((data.length : Int)) 4 _ (by omega) (by omega) (by omega) (by omega)).mono ?_; rintro e w3 ⟨v3, rfl, ho3, hf3, hch3⟩; have y0 := hch3.cell0 e2; have y1 := hch3.cell0 e3; have b3 : ∀ b, Blk v3 b → wr.heap.size + 1 + 1 ≤ b := fun b hb => Nat.le_trans KS2 (hf3 b hb); have C3 : Ch No wr w3 := (C2.drew).no_no hch3; have ho2' := (ho2.keep0 (Ch.refl No _).drew).keep0 hch3; have hrd3 := (hrd.keep0 (Ch.refl No _).drew).keep0 hch3; have s3 : wr.heap.size + 1 + 1 ≤ w3.heap.size := Nat.le_trans KS2 hch3.size) | (refine step_append rfl (.tmp 59) (.tmp 60) 26 5 (.int .u8 0) 1 rfl Tryd.underlying26 info_u8 rfl (by decide) Go.Proofs.YtbdgkikipekmlaaDoor.u8 (fun _ => rfl) v3 (bg ((data.length : Int)) 4) (([] : List Int)) _ _ _ rfl rfl rfl ho3 ho2'.rd (by rw [bg_len]; omega) ?_; intro v4 w4 ho4 hch4 hat4; have y2 := hch4.cell y0 (fun h => by have := b3 _ h; simp only at this; omega); have y3 := hch4.cell y1 (fun h => by have := b3 _ h; simp only at this; omega); have b4 : ∀ b, Blk v4 b → wr.heap.size + 1 + 1 ≤ b := fun b hb => (hat4 b hb).elim (b3 b) (fun h => by omega); have C4 : Ch No wr w4 := C3.trans hch4 (fun _ h => h) (fun b hb => .inr (by have := b3 b hb; omega)); have hrd4 := hr.keep0 (hch.no_no C4); have s4 : wr.heap.size + 1 + 1 ≤ w4.heap.size := Nat.le_trans s3 hch4.size) | (refine step_append rfl (.tmp 61) (.tmp 62) 26 5 (.int .u8 0) 1 rfl Tryd.underlying26 info_u8 rfl (by decide) Go.Proofs.YtbdgkikipekmlaaDoor.u8 (fun _ => rfl) v4 (bg ((data.length : Int)) 4 ++ ([] : List Int)) data _ _ _ rfl rfl rfl ho4 hrd4 (by rw [List.length_append, bg_len]; (try simp only [List.length_nil]); omega) ?_; intro v5 w5 ho5 hch5 hat5; rw [HZ.out] at ho5; have y4 := hch5.cell y2 (fun h => by have := b4 _ h; simp only at this; omega); have y5 := hch5.cell y3 (fun h => by have := b4 _ h; simp only at this; omega); have b5 : ∀ b, Blk v5 b → wr.heap.size + 1 + 1 ≤ b := fun b hb => (hat5 b hb).elim (b4 b) (fun h => by omega); have C5 : Ch No wr w5 := C4.trans hch5 (fun _ h => h) (fun b hb => .inr (by have := b4 b hb; omega)); obtain ⟨A5, c5, rfl, _, _⟩ := ho5.slice; have y6 := ((Ch.refl No w5).alloc (.cells #[.int .i64 lo, .slice A5 Z.length c5] 116)).cell0 y4; have y7 := ((Ch.refl No w5).alloc (.cells #[.int .i64 lo, .slice A5 Z.length c5] 116)).cell0 y5) | (have hq := (hmay.keep0 C5).keep0 ((Ch.refl No w5).alloc (.cells (pc ((lo, A5, Z.length, c5) : Pce)).toArray 116)); have h1 := PMay.one (w0 := w) (P := LenD sh lo data (-1)) ((lo, A5, Z.length, c5) : Pce) HP.out ho5.by (fun b hb => by have := b5 b hb; omega) (by have := C5.size; omega); refine step_appendM rfl (.tmp 52) (.tmp 65) 113 116 _ 2 32 rfl Tryd.underlying113 info_pc rfl (by decide) (by decide) (by decide) _ xs.length (xs.flatMap pc) ([((lo, A5, Z.length, c5) : Pce)].flatMap pc) _ 1 _ rfl rfl rfl (pcs_one _) hq.1 h1.src (by omega) ?_; intro v6 w6 ho6 hch6 hat6; have M6 := hq.cat h1 (by have := C5.size; simp only [World.size_alloc]; omega) ho6 hch6 hat6; have y8 := hch6.cell y6 (fun h => by have := hmay.1.blk_lt _ h; simp only at this; omega); have y9 := hch6.cell y7 (fun h => by have := hmay.1.blk_lt _ h; simp only at this; omega); have C6 : Ch No w w6 := (((hch.no_no C5).alloc _)).trans hch6 (fun _ h => h) (fun b hb => .inr (hmay.2.1 b hb))))
      have R6 := ((hrT.keep0 C5).keep0 ((Ch.refl No w5).alloc (.cells (pc ((lo, A5, Z.length, c5) : Pce)).toArray 116))).keep hch6 (fun h => ((hrT.keep0 C5).keep0 ((Ch.refl No w5).alloc (.cells (pc ((lo, A5, Z.length, c5) : Pce)).toArray 116))).apartK hq.1 (by decide) h)
      go_wp2_with fail
      go_roundg (gk - 1)
      case measure => omega
      case rel => exact ⟨2, xs ++ [((lo, A5, Z.length, c5) : Pce)], by omega, by go_num, by rw [List.length_append]; simp only [List.length_cons, List.length_nil]; omega, M6, R6, C6, fun _ => ⟨((lo, A5, Z.length, c5) : Pce), by simp, rfl⟩⟩
    · subst hi
      go_wp2_with fail
      go_ret
      exact ⟨_, xs, rfl, hmay, by omega, hpos (by trivial), hch⟩

end Go.Proofs.YtbdgkikipekmlaaDoor
