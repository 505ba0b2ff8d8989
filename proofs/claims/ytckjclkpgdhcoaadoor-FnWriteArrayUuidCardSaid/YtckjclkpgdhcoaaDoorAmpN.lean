/- The walks of the reference's reader of AMQP over the kinds of numbers. No condition. -/
import Derived.Test.YtckjclkpgdhcoaaDoorAmpT
namespace Go.Proofs.YtckjclkpgdhcoaaDoor
set_option linter.unusedVariables false
set_option linter.unusedSimpArgs false
open Go.RowKit

theorem sh16n (U : Int) (h0 : 32768 ≤ U) (h1 : U < 65536) : wrap64 (U * 281474976710656) / 281474976710656 = U - 65536 := by unfold wrap64; omega
theorem sh16p (U : Int) (h0 : 0 ≤ U) (h1 : U < 32768) : wrap64 (U * 281474976710656) / 281474976710656 = U := by unfold wrap64; omega

set_option maxRecDepth 100000 in
set_option maxHeartbeats 2000000 in
theorem take_114 (A : Option Addr) (c : Nat) (l : List Int) (lv : Int) (w : World) (hr : Rd u8 w A l) (hb : Byt l) (hc : l.length ≤ c) (hn : 4 ≤ l.length)  :
    Calls Tryd.prog 34 #[cons 114, .slice A l.length c, .int .i64 lv] w (AOk w A l 4 c (av 10 (beN (l.take 4)) ⟨#[]⟩ (.slice none 0 0))) := by
  unfold cons
  obtain ⟨hu0, hu1⟩ := beN_lt8 (l := l.take 4) (by rw [List.length_take]; omega) (hb.take 4)
  have hR0 : Row (((w.alloc (.cells #[.slice none 0 0, .int .i64 114] 78)).alloc AZ).alloc AZ) (w.heap.size + 1) 30 AZL := by
    have h := (Row.alloc (w.alloc (.cells #[.slice none 0 0, .int .i64 114] 78)) AZL 30).keep0 ((Ch.refl No _).alloc AZ)
    simpa [avc] using h
  have hB0 : Row (((w.alloc (.cells #[.slice none 0 0, .int .i64 114] 78)).alloc AZ).alloc AZ) w.heap.size 78 [.slice none 0 0, .int .i64 114] := ((Row.alloc w _ _).keep0 ((Ch.refl No _).alloc _)).keep0 ((Ch.refl No _).alloc _)
  go_enter Tryd.func34, Tryd.ntmps34
  go_wp2_with (first | (go_at_call 45; refine (kindOf_114 _).mono ?_; rintro e w1 ⟨rfl, HC1⟩; have k0 : w1.cell? ⟨w.heap.size, 0, none⟩ = some (.slice none 0 0) := (hB0.keep0 HC1).cell 0 _ rfl; have k1 : w1.cell? ⟨w.heap.size, 1, none⟩ = some (.int .i64 114) := (hB0.keep0 HC1).cell 1 _ rfl) | (go_at_call 46; refine (takeBig_yes _ _ l _ _ (hr.keep0 (Ch.no_no (by repeat (first | exact Ch.refl _ _ | assumption | apply Ch.alloc | apply Ch.drew | apply Ch.drewN)) (HC1.alloc _))) hb hc (by omega) (by omega) (by omega)).mono ?_; rintro e w2 ⟨A2, rfl, hcut, HC2⟩; have hrow2 : Row w2 w1.heap.size 30 (avc 10 0 ⟨#[]⟩ (.slice none 0 0)) := (Row.alloc w1 (avc 10 0 ⟨#[]⟩ (.slice none 0 0)) 30).keep0 HC2; have k2 : w2.cell? ⟨w.heap.size, 1, none⟩ = some (.int .i64 114) := (((hB0.keep0 HC1).keep0 ((Ch.refl No _).alloc _)).keep0 HC2).cell 1 _ rfl) | ((with_reducible refine gate (.store 27 _ _) rfl ?_); refine wp_store rfl rfl 27 _ _ rfl w1.heap.size 1 30 (avc 10 0 ⟨#[]⟩ (.slice none 0 0)) (.int .u64 (beN (l.take 4))) rfl rfl [.int .u64 (beN (l.take 4))] rfl size_u64 (by simp [Value.oneCell', avc]) (hrow2) (by simp [avc]) ?_; intro w3 hrow3 hch3; obtain ⟨c0, c1, c2, c3, c4, c5⟩ := av_cells (show Row w3 w1.heap.size 30 (avc 10 (beN (l.take 4)) ⟨#[]⟩ (.slice none 0 0)) from hrow3)) | ((with_reducible refine gate (.store 30 _ _) rfl ?_); refine wp_store rfl rfl 30 _ _ rfl (w.heap.size + 1) 0 30 (AZL) (av 10 (beN (l.take 4)) ⟨#[]⟩ (.slice none 0 0)) rfl rfl (avc 10 (beN (l.take 4)) ⟨#[]⟩ (.slice none 0 0)) rfl size_av (by simp [Value.oneCell', avc]) (((((hR0.keep0 (Ch.refl No _)).keep0 HC1).keep0 ((Ch.refl No _).alloc _)).keep0 HC2).keep hch3 (by have := HC1.size; simp only [World.size_alloc] at this; omega)) (by simp [avc]) ?_; intro w4 hrow4 hch4))
  obtain ⟨d0, d1, d2, d3, d4, d5⟩ := av_cells (show Row w4 (w.heap.size + 1) 30 (avc 10 (beN (l.take 4)) ⟨#[]⟩ (.slice none 0 0)) from hrow4)
  refine bodyPost_ret (v := .tuple #[av 10 (beN (l.take 4)) ⟨#[]⟩ (.slice none 0 0), .slice A2 (l.length - 4) (c - 4), .bool true]) ?_ rfl ?_
  · simp [results, Tryd.results34, go_sem, av, d0, d1, d2, d3, d4, d5]
  have hs := HC1.size
  simp only [World.size_alloc] at hs
  exact ⟨((((((((Ch.refl No w).alloc _).alloc _).alloc _).no_no HC1).alloc _).no_no HC2).freshg hch3 (by omega)).freshg hch4 (by omega), A2, rfl, hcut⟩
set_option maxRecDepth 100000 in
set_option maxHeartbeats 2000000 in
theorem take_128 (A : Option Addr) (c : Nat) (l : List Int) (lv : Int) (w : World) (hr : Rd u8 w A l) (hb : Byt l) (hc : l.length ≤ c) (hn : 8 ≤ l.length)  :
    Calls Tryd.prog 34 #[cons 128, .slice A l.length c, .int .i64 lv] w (AOk w A l 8 c (av 5 (beN (l.take 8)) ⟨#[]⟩ (.slice none 0 0))) := by
  unfold cons
  obtain ⟨hu0, hu1⟩ := beN_lt8 (l := l.take 8) (by rw [List.length_take]; omega) (hb.take 8)
  have hR0 : Row (((w.alloc (.cells #[.slice none 0 0, .int .i64 128] 78)).alloc AZ).alloc AZ) (w.heap.size + 1) 30 AZL := by
    have h := (Row.alloc (w.alloc (.cells #[.slice none 0 0, .int .i64 128] 78)) AZL 30).keep0 ((Ch.refl No _).alloc AZ)
    simpa [avc] using h
  have hB0 : Row (((w.alloc (.cells #[.slice none 0 0, .int .i64 128] 78)).alloc AZ).alloc AZ) w.heap.size 78 [.slice none 0 0, .int .i64 128] := ((Row.alloc w _ _).keep0 ((Ch.refl No _).alloc _)).keep0 ((Ch.refl No _).alloc _)
  go_enter Tryd.func34, Tryd.ntmps34
  go_wp2_with (first | (go_at_call 45; refine (kindOf_128 _).mono ?_; rintro e w1 ⟨rfl, HC1⟩; have k0 : w1.cell? ⟨w.heap.size, 0, none⟩ = some (.slice none 0 0) := (hB0.keep0 HC1).cell 0 _ rfl; have k1 : w1.cell? ⟨w.heap.size, 1, none⟩ = some (.int .i64 128) := (hB0.keep0 HC1).cell 1 _ rfl) | (go_at_call 46; refine (takeBig_yes _ _ l _ _ (hr.keep0 (Ch.no_no (by repeat (first | exact Ch.refl _ _ | assumption | apply Ch.alloc | apply Ch.drew | apply Ch.drewN)) (HC1.alloc _))) hb hc (by omega) (by omega) (by omega)).mono ?_; rintro e w2 ⟨A2, rfl, hcut, HC2⟩; have hrow2 : Row w2 w1.heap.size 30 (avc 5 0 ⟨#[]⟩ (.slice none 0 0)) := (Row.alloc w1 (avc 5 0 ⟨#[]⟩ (.slice none 0 0)) 30).keep0 HC2; have k2 : w2.cell? ⟨w.heap.size, 1, none⟩ = some (.int .i64 128) := (((hB0.keep0 HC1).keep0 ((Ch.refl No _).alloc _)).keep0 HC2).cell 1 _ rfl) | ((with_reducible refine gate (.store 27 _ _) rfl ?_); refine wp_store rfl rfl 27 _ _ rfl w1.heap.size 1 30 (avc 5 0 ⟨#[]⟩ (.slice none 0 0)) (.int .u64 (beN (l.take 8))) rfl rfl [.int .u64 (beN (l.take 8))] rfl size_u64 (by simp [Value.oneCell', avc]) (hrow2) (by simp [avc]) ?_; intro w3 hrow3 hch3; obtain ⟨c0, c1, c2, c3, c4, c5⟩ := av_cells (show Row w3 w1.heap.size 30 (avc 5 (beN (l.take 8)) ⟨#[]⟩ (.slice none 0 0)) from hrow3)) | ((with_reducible refine gate (.store 30 _ _) rfl ?_); refine wp_store rfl rfl 30 _ _ rfl (w.heap.size + 1) 0 30 (AZL) (av 5 (beN (l.take 8)) ⟨#[]⟩ (.slice none 0 0)) rfl rfl (avc 5 (beN (l.take 8)) ⟨#[]⟩ (.slice none 0 0)) rfl size_av (by simp [Value.oneCell', avc]) (((((hR0.keep0 (Ch.refl No _)).keep0 HC1).keep0 ((Ch.refl No _).alloc _)).keep0 HC2).keep hch3 (by have := HC1.size; simp only [World.size_alloc] at this; omega)) (by simp [avc]) ?_; intro w4 hrow4 hch4))
  obtain ⟨d0, d1, d2, d3, d4, d5⟩ := av_cells (show Row w4 (w.heap.size + 1) 30 (avc 5 (beN (l.take 8)) ⟨#[]⟩ (.slice none 0 0)) from hrow4)
  refine bodyPost_ret (v := .tuple #[av 5 (beN (l.take 8)) ⟨#[]⟩ (.slice none 0 0), .slice A2 (l.length - 8) (c - 8), .bool true]) ?_ rfl ?_
  · simp [results, Tryd.results34, go_sem, av, d0, d1, d2, d3, d4, d5]
  have hs := HC1.size
  simp only [World.size_alloc] at hs
  exact ⟨((((((((Ch.refl No w).alloc _).alloc _).alloc _).no_no HC1).alloc _).no_no HC2).freshg hch3 (by omega)).freshg hch4 (by omega), A2, rfl, hcut⟩
set_option maxRecDepth 100000 in
set_option maxHeartbeats 2000000 in
theorem take_83 (A : Option Addr) (c : Nat) (l : List Int) (lv : Int) (w : World) (hr : Rd u8 w A l) (hb : Byt l) (hc : l.length ≤ c) (hn : 1 ≤ l.length)  :
    Calls Tryd.prog 34 #[cons 83, .slice A l.length c, .int .i64 lv] w (AOk w A l 1 c (av 5 (beN (l.take 1)) ⟨#[]⟩ (.slice none 0 0))) := by
  unfold cons
  obtain ⟨hu0, hu1⟩ := beN_lt8 (l := l.take 1) (by rw [List.length_take]; omega) (hb.take 1)
  have hR0 : Row (((w.alloc (.cells #[.slice none 0 0, .int .i64 83] 78)).alloc AZ).alloc AZ) (w.heap.size + 1) 30 AZL := by
    have h := (Row.alloc (w.alloc (.cells #[.slice none 0 0, .int .i64 83] 78)) AZL 30).keep0 ((Ch.refl No _).alloc AZ)
    simpa [avc] using h
  have hB0 : Row (((w.alloc (.cells #[.slice none 0 0, .int .i64 83] 78)).alloc AZ).alloc AZ) w.heap.size 78 [.slice none 0 0, .int .i64 83] := ((Row.alloc w _ _).keep0 ((Ch.refl No _).alloc _)).keep0 ((Ch.refl No _).alloc _)
  go_enter Tryd.func34, Tryd.ntmps34
  go_wp2_with (first | (go_at_call 45; refine (kindOf_83 _).mono ?_; rintro e w1 ⟨rfl, HC1⟩; have k0 : w1.cell? ⟨w.heap.size, 0, none⟩ = some (.slice none 0 0) := (hB0.keep0 HC1).cell 0 _ rfl; have k1 : w1.cell? ⟨w.heap.size, 1, none⟩ = some (.int .i64 83) := (hB0.keep0 HC1).cell 1 _ rfl) | (go_at_call 46; refine (takeBig_yes _ _ l _ _ (hr.keep0 (Ch.no_no (by repeat (first | exact Ch.refl _ _ | assumption | apply Ch.alloc | apply Ch.drew | apply Ch.drewN)) (HC1.alloc _))) hb hc (by omega) (by omega) (by omega)).mono ?_; rintro e w2 ⟨A2, rfl, hcut, HC2⟩; have hrow2 : Row w2 w1.heap.size 30 (avc 5 0 ⟨#[]⟩ (.slice none 0 0)) := (Row.alloc w1 (avc 5 0 ⟨#[]⟩ (.slice none 0 0)) 30).keep0 HC2; have k2 : w2.cell? ⟨w.heap.size, 1, none⟩ = some (.int .i64 83) := (((hB0.keep0 HC1).keep0 ((Ch.refl No _).alloc _)).keep0 HC2).cell 1 _ rfl) | ((with_reducible refine gate (.store 27 _ _) rfl ?_); refine wp_store rfl rfl 27 _ _ rfl w1.heap.size 1 30 (avc 5 0 ⟨#[]⟩ (.slice none 0 0)) (.int .u64 (beN (l.take 1))) rfl rfl [.int .u64 (beN (l.take 1))] rfl size_u64 (by simp [Value.oneCell', avc]) (hrow2) (by simp [avc]) ?_; intro w3 hrow3 hch3; obtain ⟨c0, c1, c2, c3, c4, c5⟩ := av_cells (show Row w3 w1.heap.size 30 (avc 5 (beN (l.take 1)) ⟨#[]⟩ (.slice none 0 0)) from hrow3)) | ((with_reducible refine gate (.store 30 _ _) rfl ?_); refine wp_store rfl rfl 30 _ _ rfl (w.heap.size + 1) 0 30 (AZL) (av 5 (beN (l.take 1)) ⟨#[]⟩ (.slice none 0 0)) rfl rfl (avc 5 (beN (l.take 1)) ⟨#[]⟩ (.slice none 0 0)) rfl size_av (by simp [Value.oneCell', avc]) (((((hR0.keep0 (Ch.refl No _)).keep0 HC1).keep0 ((Ch.refl No _).alloc _)).keep0 HC2).keep hch3 (by have := HC1.size; simp only [World.size_alloc] at this; omega)) (by simp [avc]) ?_; intro w4 hrow4 hch4))
  obtain ⟨d0, d1, d2, d3, d4, d5⟩ := av_cells (show Row w4 (w.heap.size + 1) 30 (avc 5 (beN (l.take 1)) ⟨#[]⟩ (.slice none 0 0)) from hrow4)
  refine bodyPost_ret (v := .tuple #[av 5 (beN (l.take 1)) ⟨#[]⟩ (.slice none 0 0), .slice A2 (l.length - 1) (c - 1), .bool true]) ?_ rfl ?_
  · simp [results, Tryd.results34, go_sem, av, d0, d1, d2, d3, d4, d5]
  have hs := HC1.size
  simp only [World.size_alloc] at hs
  exact ⟨((((((((Ch.refl No w).alloc _).alloc _).alloc _).no_no HC1).alloc _).no_no HC2).freshg hch3 (by omega)).freshg hch4 (by omega), A2, rfl, hcut⟩
set_option maxRecDepth 100000 in
set_option maxHeartbeats 2000000 in
theorem take_68 (A : Option Addr) (c : Nat) (l : List Int) (lv : Int) (w : World) (hr : Rd u8 w A l) (hb : Byt l) (hc : l.length ≤ c) (hn : 0 ≤ l.length)  :
    Calls Tryd.prog 34 #[cons 68, .slice A l.length c, .int .i64 lv] w (AOk w A l 0 c (av 5 (0) ⟨#[]⟩ (.slice none 0 0))) := by
  unfold cons
  have hR0 : Row (((w.alloc (.cells #[.slice none 0 0, .int .i64 68] 78)).alloc AZ).alloc AZ) (w.heap.size + 1) 30 AZL := by
    have h := (Row.alloc (w.alloc (.cells #[.slice none 0 0, .int .i64 68] 78)) AZL 30).keep0 ((Ch.refl No _).alloc AZ)
    simpa [avc] using h
  have hB0 : Row (((w.alloc (.cells #[.slice none 0 0, .int .i64 68] 78)).alloc AZ).alloc AZ) w.heap.size 78 [.slice none 0 0, .int .i64 68] := ((Row.alloc w _ _).keep0 ((Ch.refl No _).alloc _)).keep0 ((Ch.refl No _).alloc _)
  go_enter Tryd.func34, Tryd.ntmps34
  go_wp2_with (first | (go_at_call 45; refine (kindOf_68 _).mono ?_; rintro e w1 ⟨rfl, HC1⟩; have k0 : w1.cell? ⟨w.heap.size, 0, none⟩ = some (.slice none 0 0) := (hB0.keep0 HC1).cell 0 _ rfl; have k1 : w1.cell? ⟨w.heap.size, 1, none⟩ = some (.int .i64 68) := (hB0.keep0 HC1).cell 1 _ rfl) | (go_at_call 46; refine (takeBig_yes _ _ l _ _ (hr.keep0 (Ch.no_no (by repeat (first | exact Ch.refl _ _ | assumption | apply Ch.alloc | apply Ch.drew | apply Ch.drewN)) (HC1.alloc _))) hb hc (by omega) (by omega) (by omega)).mono ?_; rintro e w2 ⟨A2, rfl, hcut, HC2⟩; have hrow2 : Row w2 w1.heap.size 30 (avc 5 0 ⟨#[]⟩ (.slice none 0 0)) := (Row.alloc w1 (avc 5 0 ⟨#[]⟩ (.slice none 0 0)) 30).keep0 HC2; have k2 : w2.cell? ⟨w.heap.size, 1, none⟩ = some (.int .i64 68) := (((hB0.keep0 HC1).keep0 ((Ch.refl No _).alloc _)).keep0 HC2).cell 1 _ rfl) | fail | ((with_reducible refine gate (.store 27 _ _) rfl ?_); refine wp_store rfl rfl 27 _ _ rfl w1.heap.size 1 30 (avc 5 0 ⟨#[]⟩ (.slice none 0 0)) (.int .u64 (0)) rfl rfl [.int .u64 (0)] rfl size_u64 (by simp [Value.oneCell', avc]) (hrow2) (by simp [avc]) ?_; intro w3 hrow3 hch3; obtain ⟨c0, c1, c2, c3, c4, c5⟩ := av_cells (show Row w3 w1.heap.size 30 (avc 5 (0) ⟨#[]⟩ (.slice none 0 0)) from hrow3)) | ((with_reducible refine gate (.store 30 _ _) rfl ?_); refine wp_store rfl rfl 30 _ _ rfl (w.heap.size + 1) 0 30 (AZL) (av 5 (0) ⟨#[]⟩ (.slice none 0 0)) rfl rfl (avc 5 (0) ⟨#[]⟩ (.slice none 0 0)) rfl size_av (by simp [Value.oneCell', avc]) (((((hR0.keep0 (Ch.refl No _)).keep0 HC1).keep0 ((Ch.refl No _).alloc _)).keep0 HC2).keep hch3 (by have := HC1.size; simp only [World.size_alloc] at this; omega)) (by simp [avc]) ?_; intro w4 hrow4 hch4))
  obtain ⟨d0, d1, d2, d3, d4, d5⟩ := av_cells (show Row w4 (w.heap.size + 1) 30 (avc 5 (0) ⟨#[]⟩ (.slice none 0 0)) from hrow4)
  refine bodyPost_ret (v := .tuple #[av 5 (0) ⟨#[]⟩ (.slice none 0 0), .slice A2 (l.length - 0) (c - 0), .bool true]) ?_ rfl ?_
  · simp [results, Tryd.results34, go_sem, av, d0, d1, d2, d3, d4, d5]
  have hs := HC1.size
  simp only [World.size_alloc] at hs
  exact ⟨((((((((Ch.refl No w).alloc _).alloc _).alloc _).no_no HC1).alloc _).no_no HC2).freshg hch3 (by omega)).freshg hch4 (by omega), A2, rfl, hcut⟩
set_option maxRecDepth 100000 in
set_option maxHeartbeats 2000000 in
theorem take_80 (A : Option Addr) (c : Nat) (l : List Int) (lv : Int) (w : World) (hr : Rd u8 w A l) (hb : Byt l) (hc : l.length ≤ c) (hn : 1 ≤ l.length)  :
    Calls Tryd.prog 34 #[cons 80, .slice A l.length c, .int .i64 lv] w (AOk w A l 1 c (av 2 (beN (l.take 1)) ⟨#[]⟩ (.slice none 0 0))) := by
  unfold cons
  obtain ⟨hu0, hu1⟩ := beN_lt8 (l := l.take 1) (by rw [List.length_take]; omega) (hb.take 1)
  have hR0 : Row (((w.alloc (.cells #[.slice none 0 0, .int .i64 80] 78)).alloc AZ).alloc AZ) (w.heap.size + 1) 30 AZL := by
    have h := (Row.alloc (w.alloc (.cells #[.slice none 0 0, .int .i64 80] 78)) AZL 30).keep0 ((Ch.refl No _).alloc AZ)
    simpa [avc] using h
  have hB0 : Row (((w.alloc (.cells #[.slice none 0 0, .int .i64 80] 78)).alloc AZ).alloc AZ) w.heap.size 78 [.slice none 0 0, .int .i64 80] := ((Row.alloc w _ _).keep0 ((Ch.refl No _).alloc _)).keep0 ((Ch.refl No _).alloc _)
  go_enter Tryd.func34, Tryd.ntmps34
  go_wp2_with (first | (go_at_call 45; refine (kindOf_80 _).mono ?_; rintro e w1 ⟨rfl, HC1⟩; have k0 : w1.cell? ⟨w.heap.size, 0, none⟩ = some (.slice none 0 0) := (hB0.keep0 HC1).cell 0 _ rfl; have k1 : w1.cell? ⟨w.heap.size, 1, none⟩ = some (.int .i64 80) := (hB0.keep0 HC1).cell 1 _ rfl) | (go_at_call 46; refine (takeBig_yes _ _ l _ _ (hr.keep0 (Ch.no_no (by repeat (first | exact Ch.refl _ _ | assumption | apply Ch.alloc | apply Ch.drew | apply Ch.drewN)) (HC1.alloc _))) hb hc (by omega) (by omega) (by omega)).mono ?_; rintro e w2 ⟨A2, rfl, hcut, HC2⟩; have hrow2 : Row w2 w1.heap.size 30 (avc 2 0 ⟨#[]⟩ (.slice none 0 0)) := (Row.alloc w1 (avc 2 0 ⟨#[]⟩ (.slice none 0 0)) 30).keep0 HC2; have k2 : w2.cell? ⟨w.heap.size, 1, none⟩ = some (.int .i64 80) := (((hB0.keep0 HC1).keep0 ((Ch.refl No _).alloc _)).keep0 HC2).cell 1 _ rfl) | ((with_reducible refine gate (.store 27 _ _) rfl ?_); refine wp_store rfl rfl 27 _ _ rfl w1.heap.size 1 30 (avc 2 0 ⟨#[]⟩ (.slice none 0 0)) (.int .u64 (beN (l.take 1))) rfl rfl [.int .u64 (beN (l.take 1))] rfl size_u64 (by simp [Value.oneCell', avc]) (hrow2) (by simp [avc]) ?_; intro w3 hrow3 hch3; obtain ⟨c0, c1, c2, c3, c4, c5⟩ := av_cells (show Row w3 w1.heap.size 30 (avc 2 (beN (l.take 1)) ⟨#[]⟩ (.slice none 0 0)) from hrow3)) | ((with_reducible refine gate (.store 30 _ _) rfl ?_); refine wp_store rfl rfl 30 _ _ rfl (w.heap.size + 1) 0 30 (AZL) (av 2 (beN (l.take 1)) ⟨#[]⟩ (.slice none 0 0)) rfl rfl (avc 2 (beN (l.take 1)) ⟨#[]⟩ (.slice none 0 0)) rfl size_av (by simp [Value.oneCell', avc]) (((((hR0.keep0 (Ch.refl No _)).keep0 HC1).keep0 ((Ch.refl No _).alloc _)).keep0 HC2).keep hch3 (by have := HC1.size; simp only [World.size_alloc] at this; omega)) (by simp [avc]) ?_; intro w4 hrow4 hch4))
  obtain ⟨d0, d1, d2, d3, d4, d5⟩ := av_cells (show Row w4 (w.heap.size + 1) 30 (avc 2 (beN (l.take 1)) ⟨#[]⟩ (.slice none 0 0)) from hrow4)
  refine bodyPost_ret (v := .tuple #[av 2 (beN (l.take 1)) ⟨#[]⟩ (.slice none 0 0), .slice A2 (l.length - 1) (c - 1), .bool true]) ?_ rfl ?_
  · simp [results, Tryd.results34, go_sem, av, d0, d1, d2, d3, d4, d5]
  have hs := HC1.size
  simp only [World.size_alloc] at hs
  exact ⟨((((((((Ch.refl No w).alloc _).alloc _).alloc _).no_no HC1).alloc _).no_no HC2).freshg hch3 (by omega)).freshg hch4 (by omega), A2, rfl, hcut⟩
set_option maxRecDepth 100000 in
set_option maxHeartbeats 2000000 in
theorem take_131 (A : Option Addr) (c : Nat) (l : List Int) (lv : Int) (w : World) (hr : Rd u8 w A l) (hb : Byt l) (hc : l.length ≤ c) (hn : 8 ≤ l.length)  :
    Calls Tryd.prog 34 #[cons 131, .slice A l.length c, .int .i64 lv] w (AOk w A l 8 c (av 16 (beN (l.take 8)) ⟨#[]⟩ (.slice none 0 0))) := by
  unfold cons
  obtain ⟨hu0, hu1⟩ := beN_lt8 (l := l.take 8) (by rw [List.length_take]; omega) (hb.take 8)
  have hR0 : Row (((w.alloc (.cells #[.slice none 0 0, .int .i64 131] 78)).alloc AZ).alloc AZ) (w.heap.size + 1) 30 AZL := by
    have h := (Row.alloc (w.alloc (.cells #[.slice none 0 0, .int .i64 131] 78)) AZL 30).keep0 ((Ch.refl No _).alloc AZ)
    simpa [avc] using h
  have hB0 : Row (((w.alloc (.cells #[.slice none 0 0, .int .i64 131] 78)).alloc AZ).alloc AZ) w.heap.size 78 [.slice none 0 0, .int .i64 131] := ((Row.alloc w _ _).keep0 ((Ch.refl No _).alloc _)).keep0 ((Ch.refl No _).alloc _)
  go_enter Tryd.func34, Tryd.ntmps34
  go_wp2_with (first | (go_at_call 45; refine (kindOf_131 _).mono ?_; rintro e w1 ⟨rfl, HC1⟩; have k0 : w1.cell? ⟨w.heap.size, 0, none⟩ = some (.slice none 0 0) := (hB0.keep0 HC1).cell 0 _ rfl; have k1 : w1.cell? ⟨w.heap.size, 1, none⟩ = some (.int .i64 131) := (hB0.keep0 HC1).cell 1 _ rfl) | (go_at_call 46; refine (takeBig_yes _ _ l _ _ (hr.keep0 (Ch.no_no (by repeat (first | exact Ch.refl _ _ | assumption | apply Ch.alloc | apply Ch.drew | apply Ch.drewN)) (HC1.alloc _))) hb hc (by omega) (by omega) (by omega)).mono ?_; rintro e w2 ⟨A2, rfl, hcut, HC2⟩; have hrow2 : Row w2 w1.heap.size 30 (avc 16 0 ⟨#[]⟩ (.slice none 0 0)) := (Row.alloc w1 (avc 16 0 ⟨#[]⟩ (.slice none 0 0)) 30).keep0 HC2; have k2 : w2.cell? ⟨w.heap.size, 1, none⟩ = some (.int .i64 131) := (((hB0.keep0 HC1).keep0 ((Ch.refl No _).alloc _)).keep0 HC2).cell 1 _ rfl) | ((with_reducible refine gate (.store 27 _ _) rfl ?_); refine wp_store rfl rfl 27 _ _ rfl w1.heap.size 1 30 (avc 16 0 ⟨#[]⟩ (.slice none 0 0)) (.int .u64 (beN (l.take 8))) rfl rfl [.int .u64 (beN (l.take 8))] rfl size_u64 (by simp [Value.oneCell', avc]) (hrow2) (by simp [avc]) ?_; intro w3 hrow3 hch3; obtain ⟨c0, c1, c2, c3, c4, c5⟩ := av_cells (show Row w3 w1.heap.size 30 (avc 16 (beN (l.take 8)) ⟨#[]⟩ (.slice none 0 0)) from hrow3)) | ((with_reducible refine gate (.store 30 _ _) rfl ?_); refine wp_store rfl rfl 30 _ _ rfl (w.heap.size + 1) 0 30 (AZL) (av 16 (beN (l.take 8)) ⟨#[]⟩ (.slice none 0 0)) rfl rfl (avc 16 (beN (l.take 8)) ⟨#[]⟩ (.slice none 0 0)) rfl size_av (by simp [Value.oneCell', avc]) (((((hR0.keep0 (Ch.refl No _)).keep0 HC1).keep0 ((Ch.refl No _).alloc _)).keep0 HC2).keep hch3 (by have := HC1.size; simp only [World.size_alloc] at this; omega)) (by simp [avc]) ?_; intro w4 hrow4 hch4))
  obtain ⟨d0, d1, d2, d3, d4, d5⟩ := av_cells (show Row w4 (w.heap.size + 1) 30 (avc 16 (beN (l.take 8)) ⟨#[]⟩ (.slice none 0 0)) from hrow4)
  refine bodyPost_ret (v := .tuple #[av 16 (beN (l.take 8)) ⟨#[]⟩ (.slice none 0 0), .slice A2 (l.length - 8) (c - 8), .bool true]) ?_ rfl ?_
  · simp [results, Tryd.results34, go_sem, av, d0, d1, d2, d3, d4, d5]
  have hs := HC1.size
  simp only [World.size_alloc] at hs
  exact ⟨((((((((Ch.refl No w).alloc _).alloc _).alloc _).no_no HC1).alloc _).no_no HC2).freshg hch3 (by omega)).freshg hch4 (by omega), A2, rfl, hcut⟩
set_option maxRecDepth 100000 in
set_option maxHeartbeats 2000000 in
theorem take_97n (A : Option Addr) (c : Nat) (l : List Int) (lv : Int) (w : World) (hr : Rd u8 w A l) (hb : Byt l) (hc : l.length ≤ c) (hn : 2 ≤ l.length) (hg : 32768 ≤ beN (l.take 2)) (hg1 : beN (l.take 2) < 65536) :
    Calls Tryd.prog 34 #[cons 97, .slice A l.length c, .int .i64 lv] w (AOk w A l 2 c (av 7 (IntKind.u64.wrap (beN (l.take 2) - 65536)) ⟨#[]⟩ (.slice none 0 0))) := by
  unfold cons
  obtain ⟨hu0, hu1⟩ := beN_lt8 (l := l.take 2) (by rw [List.length_take]; omega) (hb.take 2)
  have hsh := sh16n _ hg hg1
  have hR0 : Row (((w.alloc (.cells #[.slice none 0 0, .int .i64 97] 78)).alloc AZ).alloc AZ) (w.heap.size + 1) 30 AZL := by
    have h := (Row.alloc (w.alloc (.cells #[.slice none 0 0, .int .i64 97] 78)) AZL 30).keep0 ((Ch.refl No _).alloc AZ)
    simpa [avc] using h
  have hB0 : Row (((w.alloc (.cells #[.slice none 0 0, .int .i64 97] 78)).alloc AZ).alloc AZ) w.heap.size 78 [.slice none 0 0, .int .i64 97] := ((Row.alloc w _ _).keep0 ((Ch.refl No _).alloc _)).keep0 ((Ch.refl No _).alloc _)
  go_enter Tryd.func34, Tryd.ntmps34
  go_wp2_with (first | (go_at_call 45; refine (kindOf_97 _).mono ?_; rintro e w1 ⟨rfl, HC1⟩; have k0 : w1.cell? ⟨w.heap.size, 0, none⟩ = some (.slice none 0 0) := (hB0.keep0 HC1).cell 0 _ rfl; have k1 : w1.cell? ⟨w.heap.size, 1, none⟩ = some (.int .i64 97) := (hB0.keep0 HC1).cell 1 _ rfl) | (go_at_call 46; refine (takeBig_yes _ _ l _ _ (hr.keep0 (Ch.no_no (by repeat (first | exact Ch.refl _ _ | assumption | apply Ch.alloc | apply Ch.drew | apply Ch.drewN)) (HC1.alloc _))) hb hc (by omega) (by omega) (by omega)).mono ?_; rintro e w2 ⟨A2, rfl, hcut, HC2⟩; have hrow2 : Row w2 w1.heap.size 30 (avc 7 0 ⟨#[]⟩ (.slice none 0 0)) := (Row.alloc w1 (avc 7 0 ⟨#[]⟩ (.slice none 0 0)) 30).keep0 HC2; have k2 : w2.cell? ⟨w.heap.size, 1, none⟩ = some (.int .i64 97) := (((hB0.keep0 HC1).keep0 ((Ch.refl No _).alloc _)).keep0 HC2).cell 1 _ rfl) | ((with_reducible refine gate (.store 27 _ _) rfl ?_); refine wp_store rfl rfl 27 _ _ rfl w1.heap.size 1 30 (avc 7 0 ⟨#[]⟩ (.slice none 0 0)) (.int .u64 (IntKind.u64.wrap (beN (l.take 2) - 65536))) rfl rfl [.int .u64 (IntKind.u64.wrap (beN (l.take 2) - 65536))] rfl size_u64 (by simp [Value.oneCell', avc]) (hrow2) (by simp [avc]) ?_; intro w3 hrow3 hch3; obtain ⟨c0, c1, c2, c3, c4, c5⟩ := av_cells (show Row w3 w1.heap.size 30 (avc 7 (IntKind.u64.wrap (beN (l.take 2) - 65536)) ⟨#[]⟩ (.slice none 0 0)) from hrow3)) | ((with_reducible refine gate (.store 30 _ _) rfl ?_); refine wp_store rfl rfl 30 _ _ rfl (w.heap.size + 1) 0 30 (AZL) (av 7 (IntKind.u64.wrap (beN (l.take 2) - 65536)) ⟨#[]⟩ (.slice none 0 0)) rfl rfl (avc 7 (IntKind.u64.wrap (beN (l.take 2) - 65536)) ⟨#[]⟩ (.slice none 0 0)) rfl size_av (by simp [Value.oneCell', avc]) (((((hR0.keep0 (Ch.refl No _)).keep0 HC1).keep0 ((Ch.refl No _).alloc _)).keep0 HC2).keep hch3 (by have := HC1.size; simp only [World.size_alloc] at this; omega)) (by simp [avc]) ?_; intro w4 hrow4 hch4))
  obtain ⟨d0, d1, d2, d3, d4, d5⟩ := av_cells (show Row w4 (w.heap.size + 1) 30 (avc 7 (IntKind.u64.wrap (beN (l.take 2) - 65536)) ⟨#[]⟩ (.slice none 0 0)) from hrow4)
  refine bodyPost_ret (v := .tuple #[av 7 (IntKind.u64.wrap (beN (l.take 2) - 65536)) ⟨#[]⟩ (.slice none 0 0), .slice A2 (l.length - 2) (c - 2), .bool true]) ?_ rfl ?_
  · simp [results, Tryd.results34, go_sem, av, d0, d1, d2, d3, d4, d5]
  have hs := HC1.size
  simp only [World.size_alloc] at hs
  exact ⟨((((((((Ch.refl No w).alloc _).alloc _).alloc _).no_no HC1).alloc _).no_no HC2).freshg hch3 (by omega)).freshg hch4 (by omega), A2, rfl, hcut⟩
set_option maxRecDepth 100000 in
set_option maxHeartbeats 2000000 in
theorem take_97p (A : Option Addr) (c : Nat) (l : List Int) (lv : Int) (w : World) (hr : Rd u8 w A l) (hb : Byt l) (hc : l.length ≤ c) (hn : 2 ≤ l.length) (hg1 : beN (l.take 2) < 32768) :
    Calls Tryd.prog 34 #[cons 97, .slice A l.length c, .int .i64 lv] w (AOk w A l 2 c (av 7 (beN (l.take 2)) ⟨#[]⟩ (.slice none 0 0))) := by
  unfold cons
  obtain ⟨hu0, hu1⟩ := beN_lt8 (l := l.take 2) (by rw [List.length_take]; omega) (hb.take 2)
  have hsh := sh16p _ hu0 hg1
  have hR0 : Row (((w.alloc (.cells #[.slice none 0 0, .int .i64 97] 78)).alloc AZ).alloc AZ) (w.heap.size + 1) 30 AZL := by
    have h := (Row.alloc (w.alloc (.cells #[.slice none 0 0, .int .i64 97] 78)) AZL 30).keep0 ((Ch.refl No _).alloc AZ)
    simpa [avc] using h
  have hB0 : Row (((w.alloc (.cells #[.slice none 0 0, .int .i64 97] 78)).alloc AZ).alloc AZ) w.heap.size 78 [.slice none 0 0, .int .i64 97] := ((Row.alloc w _ _).keep0 ((Ch.refl No _).alloc _)).keep0 ((Ch.refl No _).alloc _)
  go_enter Tryd.func34, Tryd.ntmps34
  go_wp2_with (first | (go_at_call 45; refine (kindOf_97 _).mono ?_; rintro e w1 ⟨rfl, HC1⟩; have k0 : w1.cell? ⟨w.heap.size, 0, none⟩ = some (.slice none 0 0) := (hB0.keep0 HC1).cell 0 _ rfl; have k1 : w1.cell? ⟨w.heap.size, 1, none⟩ = some (.int .i64 97) := (hB0.keep0 HC1).cell 1 _ rfl) | (go_at_call 46; refine (takeBig_yes _ _ l _ _ (hr.keep0 (Ch.no_no (by repeat (first | exact Ch.refl _ _ | assumption | apply Ch.alloc | apply Ch.drew | apply Ch.drewN)) (HC1.alloc _))) hb hc (by omega) (by omega) (by omega)).mono ?_; rintro e w2 ⟨A2, rfl, hcut, HC2⟩; have hrow2 : Row w2 w1.heap.size 30 (avc 7 0 ⟨#[]⟩ (.slice none 0 0)) := (Row.alloc w1 (avc 7 0 ⟨#[]⟩ (.slice none 0 0)) 30).keep0 HC2; have k2 : w2.cell? ⟨w.heap.size, 1, none⟩ = some (.int .i64 97) := (((hB0.keep0 HC1).keep0 ((Ch.refl No _).alloc _)).keep0 HC2).cell 1 _ rfl) | ((with_reducible refine gate (.store 27 _ _) rfl ?_); refine wp_store rfl rfl 27 _ _ rfl w1.heap.size 1 30 (avc 7 0 ⟨#[]⟩ (.slice none 0 0)) (.int .u64 (beN (l.take 2))) rfl rfl [.int .u64 (beN (l.take 2))] rfl size_u64 (by simp [Value.oneCell', avc]) (hrow2) (by simp [avc]) ?_; intro w3 hrow3 hch3; obtain ⟨c0, c1, c2, c3, c4, c5⟩ := av_cells (show Row w3 w1.heap.size 30 (avc 7 (beN (l.take 2)) ⟨#[]⟩ (.slice none 0 0)) from hrow3)) | ((with_reducible refine gate (.store 30 _ _) rfl ?_); refine wp_store rfl rfl 30 _ _ rfl (w.heap.size + 1) 0 30 (AZL) (av 7 (beN (l.take 2)) ⟨#[]⟩ (.slice none 0 0)) rfl rfl (avc 7 (beN (l.take 2)) ⟨#[]⟩ (.slice none 0 0)) rfl size_av (by simp [Value.oneCell', avc]) (((((hR0.keep0 (Ch.refl No _)).keep0 HC1).keep0 ((Ch.refl No _).alloc _)).keep0 HC2).keep hch3 (by have := HC1.size; simp only [World.size_alloc] at this; omega)) (by simp [avc]) ?_; intro w4 hrow4 hch4))
  obtain ⟨d0, d1, d2, d3, d4, d5⟩ := av_cells (show Row w4 (w.heap.size + 1) 30 (avc 7 (beN (l.take 2)) ⟨#[]⟩ (.slice none 0 0)) from hrow4)
  refine bodyPost_ret (v := .tuple #[av 7 (beN (l.take 2)) ⟨#[]⟩ (.slice none 0 0), .slice A2 (l.length - 2) (c - 2), .bool true]) ?_ rfl ?_
  · simp [results, Tryd.results34, go_sem, av, d0, d1, d2, d3, d4, d5]
  have hs := HC1.size
  simp only [World.size_alloc] at hs
  exact ⟨((((((((Ch.refl No w).alloc _).alloc _).alloc _).no_no HC1).alloc _).no_no HC2).freshg hch3 (by omega)).freshg hch4 (by omega), A2, rfl, hcut⟩

end Go.Proofs.YtckjclkpgdhcoaaDoor
