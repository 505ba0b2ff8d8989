/- FnNumberInt: a number is told as an integer of 64 bits with a sign, if it is one. No condition. -/
import Derived.Test.YtfhbpbmhafijgaaDoorNi6
namespace Go.Proofs.YtfhbpbmhafijgaaDoor
set_option linter.unusedVariables false
set_option linter.unusedSimpArgs false
open Go.RowKit

def YesTo (w : World) (e : Ending) (w' : World) : Prop := e = .returned (.bool true) ∧ Ch No w w'
theorem wrap5 : wrap64 5 = 5 := by unfold wrap64; rfl
set_option maxRecDepth 100000 in
set_option maxHeartbeats 1000000 in
theorem lawNeg (k z : Int) (w : World) (hk : k < 0) : Calls Tryd.prog 3 #[.int .i64 k, .int .u64 z] w (YesTo w) := by
  go_enter Tryd.func3, Tryd.ntmps3
  go_wp2_with fail
  refine (ni01 5 _ (by omega) (by omega)).mono ?_
  rintro e w1 ⟨rfl, hch1⟩
  rw [wrap5]
  go_wp2_with fail
  refine (numberOfneg k z _ hk).mono ?_
  rintro e w2 ⟨v0, v1, v2, v3, v4, rfl, ho, hch2⟩
  have HO := hid ho
  clear ho
  go_wp2_with (((with_reducible refine gate (.store 27 (.tmp 8) _) rfl ?_); refine wp_store rfl rfl 27 _ _ rfl w2.heap.size 0 27 ZL (.agg #[v0, v1, v2, v3, v4]) rfl rfl [v0, v1, v2, v3, v4] rfl size_pk HO.out (Row.alloc w2 ZL 27) (by simp) ?_; intro w3 hrow hch3))
  go_ret
  exact ⟨rfl, ((hch1.no_no hch2).alloc _).freshg hch3 (hch1.no_no hch2).size⟩
set_option maxRecDepth 100000 in
set_option maxHeartbeats 1000000 in
theorem lawBig (k z : Int) (w : World) (hk : 3 < k) : Calls Tryd.prog 3 #[.int .i64 k, .int .u64 z] w (YesTo w) := by
  go_enter Tryd.func3, Tryd.ntmps3
  go_wp2_with fail
  refine (ni01 5 _ (by omega) (by omega)).mono ?_
  rintro e w1 ⟨rfl, hch1⟩
  rw [wrap5]
  go_wp2_with fail
  refine (numberOfbig k z _ hk).mono ?_
  rintro e w2 ⟨v0, v1, v2, v3, v4, rfl, ho, hch2⟩
  have HO := hid ho
  clear ho
  go_wp2_with (((with_reducible refine gate (.store 27 (.tmp 8) _) rfl ?_); refine wp_store rfl rfl 27 _ _ rfl w2.heap.size 0 27 ZL (.agg #[v0, v1, v2, v3, v4]) rfl rfl [v0, v1, v2, v3, v4] rfl size_pk HO.out (Row.alloc w2 ZL 27) (by simp) ?_; intro w3 hrow hch3))
  go_ret
  exact ⟨rfl, ((hch1.no_no hch2).alloc _).freshg hch3 (hch1.no_no hch2).size⟩
set_option maxRecDepth 100000 in
set_option maxHeartbeats 1000000 in
theorem lawNo (z : Int) (w : World) (h0 : 4294967296 ≤ z) (h1 : z < 18446744073709551616) : Calls Tryd.prog 3 #[.int .i64 2, .int .u64 z] w (YesTo w) := by
  go_enter Tryd.func3, Tryd.ntmps3
  go_wp2_with fail
  refine (ni01 5 _ (by omega) (by omega)).mono ?_
  rintro e w1 ⟨rfl, hch1⟩
  rw [wrap5]
  go_wp2_with fail
  refine (numberOf2no z _ h0 h1).mono ?_
  rintro e w2 ⟨v0, v1, v2, v3, v4, rfl, ho, hch2⟩
  have HO := hid ho
  clear ho
  go_wp2_with (((with_reducible refine gate (.store 27 (.tmp 8) _) rfl ?_); refine wp_store rfl rfl 27 _ _ rfl w2.heap.size 0 27 ZL (.agg #[v0, v1, v2, v3, v4]) rfl rfl [v0, v1, v2, v3, v4] rfl size_pk HO.out (Row.alloc w2 ZL 27) (by simp) ?_; intro w3 hrow hch3))
  go_ret
  exact ⟨rfl, ((hch1.no_no hch2).alloc _).freshg hch3 (hch1.no_no hch2).size⟩
set_option maxRecDepth 100000 in
set_option maxHeartbeats 1000000 in
theorem law00  (w : World)  : Calls Tryd.prog 3 #[.int .i64 0, .int .u64 0] w (YesTo w) := by
  go_enter Tryd.func3, Tryd.ntmps3
  go_wp2_with fail
  refine (ni01 5 _ (by omega) (by omega)).mono ?_
  rintro e w1 ⟨rfl, hch1⟩
  rw [wrap5]
  go_wp2_with fail
  refine (numberOf0 0 _).mono ?_
  rintro e w2 ⟨v0, v1, v2, v3, v4, rfl, ho, hch2⟩
  have HO := hid ho
  clear ho
  go_wp2_with (((with_reducible refine gate (.store 27 (.tmp 8) _) rfl ?_); refine wp_store rfl rfl 27 _ _ rfl w2.heap.size 0 27 ZL (.agg #[v0, v1, v2, v3, v4]) rfl rfl [v0, v1, v2, v3, v4] rfl size_pk HO.out (Row.alloc w2 ZL 27) (by simp) ?_; intro w3 hrow hch3))
  have hC := ((hch1.no_no hch2).alloc _).freshg hch3 (hch1.no_no hch2).size
  refine (ni00 _).mono ?_
  rintro e w4 ⟨rfl, hch4⟩
  go_wp2_with (go_quiet (fail))
  go_ret
  exact ⟨rfl, hC.no_no hch4⟩
set_option maxRecDepth 100000 in
set_option maxHeartbeats 1000000 in
theorem law01 (z : Int) (w : World) (h0 : 0 < z) (h1 : z < 18446744073709551616) : Calls Tryd.prog 3 #[.int .i64 0, .int .u64 z] w (YesTo w) := by
  go_enter Tryd.func3, Tryd.ntmps3
  go_wp2_with fail
  refine (ni01 5 _ (by omega) (by omega)).mono ?_
  rintro e w1 ⟨rfl, hch1⟩
  rw [wrap5]
  go_wp2_with fail
  refine (numberOf0 z _).mono ?_
  rintro e w2 ⟨v0, v1, v2, v3, v4, rfl, ho, hch2⟩
  have HO := hid ho
  clear ho
  go_wp2_with (((with_reducible refine gate (.store 27 (.tmp 8) _) rfl ?_); refine wp_store rfl rfl 27 _ _ rfl w2.heap.size 0 27 ZL (.agg #[v0, v1, v2, v3, v4]) rfl rfl [v0, v1, v2, v3, v4] rfl size_pk HO.out (Row.alloc w2 ZL 27) (by simp) ?_; intro w3 hrow hch3))
  have hC := ((hch1.no_no hch2).alloc _).freshg hch3 (hch1.no_no hch2).size
  refine (ni01 z _ h0 h1).mono ?_
  rintro e w4 ⟨rfl, hch4⟩
  go_wp2_with (go_quiet (fail))
  go_ret
  exact ⟨rfl, hC.no_no hch4⟩
set_option maxRecDepth 100000 in
set_option maxHeartbeats 1000000 in
theorem law1 (z : Int) (w : World) (h0 : 0 ≤ z) (h1 : z < 18446744073709551616) : Calls Tryd.prog 3 #[.int .i64 1, .int .u64 z] w (YesTo w) := by
  have hge : decide (0 ≤ wrap64 z) = decide (z ≤ 9223372036854775807) := by unfold wrap64; apply decide_eq_decide.2; omega
  obtain ⟨t, ht⟩ : ∃ t, decide (z ≤ 9223372036854775807) = t := ⟨_, rfl⟩
  rw [ht] at hge
  go_enter Tryd.func3, Tryd.ntmps3
  go_wp2_with fail
  refine (ni01 5 _ (by omega) (by omega)).mono ?_
  rintro e w1 ⟨rfl, hch1⟩
  rw [wrap5]
  go_wp2_with fail
  refine (numberOf1 z _).mono ?_
  rintro e w2 ⟨v0, v1, v2, v3, v4, rfl, ho, hch2⟩
  have HO := hid ho
  clear ho
  go_wp2_with (((with_reducible refine gate (.store 27 (.tmp 8) _) rfl ?_); refine wp_store rfl rfl 27 _ _ rfl w2.heap.size 0 27 ZL (.agg #[v0, v1, v2, v3, v4]) rfl rfl [v0, v1, v2, v3, v4] rfl size_pk HO.out (Row.alloc w2 ZL 27) (by simp) ?_; intro w3 hrow hch3))
  have hC := ((hch1.no_no hch2).alloc _).freshg hch3 (hch1.no_no hch2).size
  refine (ni1 z _ h0 h1).mono ?_
  rintro e w4 ⟨rfl, hch4⟩
  rw [ht]
  cases t
  all_goals
    go_wp2_with (go_quiet (fail))
    go_ret
    exact ⟨rfl, hC.no_no hch4⟩
set_option maxRecDepth 100000 in
set_option maxHeartbeats 1000000 in
theorem law3 (b : Nat) (w : World) (hb : b < 2 ^ 64) (hT : TabZ w) : Calls Tryd.prog 3 #[.int .i64 3, .int .u64 b] w (YesTo w) := by
  have HT := hid (told64 b hb)
  go_enter Tryd.func3, Tryd.ntmps3
  go_wp2_with fail
  refine (ni01 5 _ (by omega) (by omega)).mono ?_
  rintro e w1 ⟨rfl, hch1⟩
  rw [wrap5]
  go_wp2_with fail
  refine (numberOf3 b _).mono ?_
  rintro e w2 ⟨v0, v1, v2, v3, v4, rfl, ho, hch2⟩
  have HO := hid ho
  clear ho
  go_wp2_with (((with_reducible refine gate (.store 27 (.tmp 8) _) rfl ?_); refine wp_store rfl rfl 27 _ _ rfl w2.heap.size 0 27 ZL (.agg #[v0, v1, v2, v3, v4]) rfl rfl [v0, v1, v2, v3, v4] rfl size_pk HO.out (Row.alloc w2 ZL 27) (by simp) ?_; intro w3 hrow hch3))
  have hC := ((hch1.no_no hch2).alloc _).freshg hch3 (hch1.no_no hch2).size
  refine (ni3 b _ hb (hT.keep0 hC)).mono ?_
  rintro e w4 ⟨n, t, rfl, hch4, hA, hB⟩
  have HA := hid (And.intro hA hB)
  clear hA hB
  go_wp2_with fail
  refine (value3 b _).mono ?_
  rintro e w5 ⟨rfl, hch5⟩
  have hC6 := (hC.no_no hch4).no_no hch5
  go_wp2_with fail
  refine (whole62_calls b _ _ _ HT.out).mono ?_
  rintro e w6 hw6
  obtain ⟨n2, is, edge, rfl, hch6, hw⟩ := hw6
  have HW := hid hw
  clear hw
  cases edge
  · rcases HW.out with h | ⟨_, h1, h2⟩
    · cases h
    · cases is
      · obtain rfl : t = false := HA.out.1 (fun hW => Bool.false_ne_true (h1.2 hW))
        go_wp2_with (go_quiet (fail))
        go_ret
        exact ⟨rfl, hC6.no_no hch6⟩
      · obtain ⟨hv, hq⟩ := h2 (h1.1 rfl)
        obtain ⟨rfl, rfl⟩ := HA.out.2 (h1.1 rfl) n2 hv hq.1 hq.2
        clear h1 h2 hv hq HW
        go_wp2_with (go_quiet (fail))
        go_ret
        exact ⟨rfl, hC6.no_no hch6⟩
  · go_wp2_with (go_quiet (fail))
    go_ret
    exact ⟨rfl, hC6.no_no hch6⟩
set_option maxRecDepth 100000 in
set_option maxHeartbeats 1000000 in
theorem law2 (b : Nat) (w : World) (hb : b < 2 ^ 32) (hT : TabZ w) : Calls Tryd.prog 3 #[.int .i64 2, .int .u64 b] w (YesTo w) := by
  have HT := hid (told32 b hb)
  have hb1 : (b : Int) < 4294967296 := by have : b < 4294967296 := hb; omega
  go_enter Tryd.func3, Tryd.ntmps3
  go_wp2_with fail
  refine (ni01 5 _ (by omega) (by omega)).mono ?_
  rintro e w1 ⟨rfl, hch1⟩
  rw [wrap5]
  go_wp2_with fail
  refine (numberOf2 b _ (by omega) hb1).mono ?_
  rintro e w2 ⟨v0, v1, v2, v3, v4, rfl, ho, hch2⟩
  have HO := hid ho
  clear ho
  go_wp2_with (((with_reducible refine gate (.store 27 (.tmp 8) _) rfl ?_); refine wp_store rfl rfl 27 _ _ rfl w2.heap.size 0 27 ZL (.agg #[v0, v1, v2, v3, v4]) rfl rfl [v0, v1, v2, v3, v4] rfl size_pk HO.out (Row.alloc w2 ZL 27) (by simp) ?_; intro w3 hrow hch3))
  have hC := ((hch1.no_no hch2).alloc _).freshg hch3 (hch1.no_no hch2).size
  refine (ni2 b _ hb (hT.keep0 hC)).mono ?_
  rintro e w4 ⟨n, t, rfl, hch4, hA, hB⟩
  have HA := hid (And.intro hA hB)
  clear hA hB
  go_wp2_with fail
  refine (value2 b hb _).mono ?_
  rintro e w5 ⟨r, rfl, hch5, hr1, hr2⟩
  have hC6 := (hC.no_no hch4).no_no hch5
  have HT2 : Hid (Told r (wholeB 127 23 (b / 2 ^ 23 % 256) (b % 2 ^ 23)) fun n => floatToIntVal .f32 b .i64 = some n ∧ Ieee.single.order b 1593835520 = some .lt ∧ Ieee.single.order b 3741319168 = some .gt) := by
    rcases HT.out with ⟨h1, _, _, h4⟩ | ⟨x, h1, h2⟩
    · exact .inl ⟨hr2 h1, h4⟩
    · rw [hr1 x h1]; exact h2
  clear hr1 hr2
  go_wp2_with fail
  refine (whole62_calls r _ _ _ HT2.out).mono ?_
  rintro e w6 hw6
  obtain ⟨n2, is, edge, rfl, hch6, hw⟩ := hw6
  have HW := hid hw
  clear hw
  cases edge
  · rcases HW.out with h | ⟨_, h1, h2⟩
    · cases h
    · cases is
      · obtain rfl : t = false := HA.out.1 (fun hW => Bool.false_ne_true (h1.2 hW))
        go_wp2_with (go_quiet (fail))
        go_ret
        exact ⟨rfl, hC6.no_no hch6⟩
      · obtain ⟨hv, hq⟩ := h2 (h1.1 rfl)
        obtain ⟨rfl, rfl⟩ := HA.out.2 (h1.1 rfl) n2 hq.1 hq.2.1 hq.2.2
        clear h1 h2 hv hq HW
        go_wp2_with (go_quiet (fail))
        go_ret
        exact ⟨rfl, hC6.no_no hch6⟩
  · go_wp2_with (go_quiet (fail))
    go_ret
    exact ⟨rfl, hC6.no_no hch6⟩

/-- FnNumberInt, whatever its arguments. -/
theorem FnNumberIntLaw (k z : Int) (w : World) (hT : TabZ w) (h0 : 0 ≤ z) (h1 : z < 18446744073709551616) : Calls Tryd.prog 3 #[.int .i64 k, .int .u64 z] w (YesTo w) := by
  by_cases k1 : k < 0
  · exact lawNeg k z w k1
  by_cases k2 : 3 < k
  · exact lawBig k z w k2
  have hk : k = 0 ∨ k = 1 ∨ k = 2 ∨ k = 3 := by omega
  obtain ⟨b, hb⟩ := Int.eq_ofNat_of_zero_le h0
  rcases hk with rfl | rfl | rfl | rfl
  · by_cases hz : z = 0
    · subst hz; exact law00 w
    · exact law01 z w (by omega) h1
  · exact law1 z w h0 h1
  · by_cases hz : z < 4294967296
    · subst hb; exact law2 b w (by show b < 4294967296; omega) hT
    · exact lawNo z w (by omega) h1
  · subst hb; exact law3 b w (by show b < 18446744073709551616; omega) hT
end Go.Proofs.YtfhbpbmhafijgaaDoor
