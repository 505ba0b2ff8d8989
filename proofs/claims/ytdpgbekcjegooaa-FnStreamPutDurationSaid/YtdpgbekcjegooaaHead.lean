/- The walk of the reference's reader of heads (arrays, maps, bytes, texts). No condition. -/
import Derived.Test.YtdpgbekcjegooaaReads
import Derived.StillTailTactics
import Derived.Deep.RegionWith
namespace Go.Proofs.Ytdpgbekcjegooaa
set_option linter.unusedVariables false
set_option linter.unusedSimpArgs false
open Go.RowKit

/-- A head is read: its kind, how many, and what stands behind k bytes. -/
def HOk (w : World) (A : Option Addr) (l : List Int) (k c : Nat) (kind num : Int) (e : Ending) (w' : World) : Prop :=
  Ch No w w' ∧ ∃ A', e = .returned (.tuple #[.int .i64 kind, .int .u64 num, .slice A' (l.length - k) (c - k), .bool true]) ∧ Cut A l.length c k l.length A'
theorem Rd.head {w : World} {bk off : Nat} {b : Int} {r : List Int} (hr : Rd u8 w (some ⟨bk, off, none⟩) (b :: r)) : w.cell? ⟨bk, off, none⟩ = some (.int .u8 b) := by
  obtain ⟨b', o', he, hc'⟩ := hr.at_ 0 (by simp)
  injection he with he
  injection he with he1 he2
  subst he1; subst he2
  exact hc'
theorem and_i64_15 {b : Int} (h0 : 0 ≤ b) (h1 : b < 256) : bits .and .i64 b 15 = b % 16 := bits_mask .i64 63 (by decide) (fun n h0 h1 => by simp [IntKind.wrap, IntKind.bits, IntKind.signed]; omega) 4 (by decide) b h0 (by omega)
theorem and_i64_31 {b : Int} (h0 : 0 ≤ b) (h1 : b < 256) : bits .and .i64 b 31 = b % 32 := bits_mask .i64 63 (by decide) (fun n h0 h1 => by simp [IntKind.wrap, IntKind.bits, IntKind.signed]; omega) 5 (by decide) b h0 (by omega)

theorem zero_2int (w : World) : (zeroValue 87).run Try.prog w = .ok (.agg #[.int .i64 0, .int .i64 0]) w := by kernel_rfl
theorem cell2_0 (w : World) (x y : Int) : ((w.alloc (.cells #[.int .i64 x, .int .i64 y] 87)).drew).cell? ⟨w.heap.size, 0, none⟩ = some (.int .i64 x) := (Row.alloc w [.int .i64 x, .int .i64 y] 87).cell 0 _ rfl
theorem cell2_1 (w : World) (x y : Int) : ((w.alloc (.cells #[.int .i64 x, .int .i64 y] 87)).drew).cell? ⟨w.heap.size, 1, none⟩ = some (.int .i64 y) := (Row.alloc w [.int .i64 x, .int .i64 y] 87).cell 1 _ rfl
set_option maxRecDepth 100000 in
set_option maxHeartbeats 2000000 in
theorem head_map (bk off : Nat) (c : Nat) (b : Int) (r : List Int) (w : World) (hr : Rd u8 w (some ⟨bk, off, none⟩) (b :: r)) (hb : Byt (b :: r)) (hc : r.length + 1 ≤ c) (h0 : 128 ≤ b) (h1 : b < 144) :
    Calls Try.prog 25 #[.slice (some ⟨bk, off, none⟩) (r.length + 1) c] w (HOk w (some ⟨bk, off, none⟩) (b :: r) 1 c 9 (b - 128)) := by
  obtain ⟨hb0, hb1⟩ := hb b (by simp)
  have hbr : Byt r := fun x hx => hb x (by simp [hx])
  have hcell := hr.head
  obtain ⟨A', hk2, hk3, hcut⟩ := Cut.ahead_l 23 5 Try.underlying23 size_u8 (some ⟨bk, off, none⟩) (r.length + 1) c 1 1 rfl .i64 (by omega)
  simp only [Nat.add_sub_cancel] at hk2 hk3
  have hrd : Rd u8 w A' r := hcut.drop hr (by simp) hc
  have hm := and_i64_15 hb0 hb1
  rw [show b % 16 = b - 128 by omega] at hm
  go_enter Try.func25, Try.ntmps25
  go_wp2_with fail
  go_region
  all_goals
    go_wp2
    refine bodyPost_ret (v := .tuple #[.int .i64 9, .int .u64 (b - 128), .slice A' r.length (c - 1), .bool true]) ?_ rfl ?_
    · simp [results, Try.results25, go_sem]
    · exact ⟨(by repeat (first | exact Ch.refl _ _ | assumption | apply Ch.alloc | apply Ch.drew | apply Ch.drewN)), A', by simp, hcut⟩
set_option maxRecDepth 100000 in
set_option maxHeartbeats 2000000 in
theorem head_arr (bk off : Nat) (c : Nat) (b : Int) (r : List Int) (w : World) (hr : Rd u8 w (some ⟨bk, off, none⟩) (b :: r)) (hb : Byt (b :: r)) (hc : r.length + 1 ≤ c) (h0 : 144 ≤ b) (h1 : b < 160) :
    Calls Try.prog 25 #[.slice (some ⟨bk, off, none⟩) (r.length + 1) c] w (HOk w (some ⟨bk, off, none⟩) (b :: r) 1 c 8 (b - 144)) := by
  obtain ⟨hb0, hb1⟩ := hb b (by simp)
  have hbr : Byt r := fun x hx => hb x (by simp [hx])
  have hcell := hr.head
  obtain ⟨A', hk2, hk3, hcut⟩ := Cut.ahead_l 23 5 Try.underlying23 size_u8 (some ⟨bk, off, none⟩) (r.length + 1) c 1 1 rfl .i64 (by omega)
  simp only [Nat.add_sub_cancel] at hk2 hk3
  have hrd : Rd u8 w A' r := hcut.drop hr (by simp) hc
  have hm := and_i64_15 hb0 hb1
  rw [show b % 16 = b - 144 by omega] at hm
  go_enter Try.func25, Try.ntmps25
  go_wp2_with fail
  go_region
  all_goals
    go_wp2
    refine bodyPost_ret (v := .tuple #[.int .i64 8, .int .u64 (b - 144), .slice A' r.length (c - 1), .bool true]) ?_ rfl ?_
    · simp [results, Try.results25, go_sem]
    · exact ⟨(by repeat (first | exact Ch.refl _ _ | assumption | apply Ch.alloc | apply Ch.drew | apply Ch.drewN)), A', by simp, hcut⟩
set_option maxRecDepth 100000 in
set_option maxHeartbeats 2000000 in
theorem head_str (bk off : Nat) (c : Nat) (b : Int) (r : List Int) (w : World) (hr : Rd u8 w (some ⟨bk, off, none⟩) (b :: r)) (hb : Byt (b :: r)) (hc : r.length + 1 ≤ c) (h0 : 160 ≤ b) (h1 : b < 192) :
    Calls Try.prog 25 #[.slice (some ⟨bk, off, none⟩) (r.length + 1) c] w (HOk w (some ⟨bk, off, none⟩) (b :: r) 1 c 6 (b - 160)) := by
  obtain ⟨hb0, hb1⟩ := hb b (by simp)
  have hbr : Byt r := fun x hx => hb x (by simp [hx])
  have hcell := hr.head
  obtain ⟨A', hk2, hk3, hcut⟩ := Cut.ahead_l 23 5 Try.underlying23 size_u8 (some ⟨bk, off, none⟩) (r.length + 1) c 1 1 rfl .i64 (by omega)
  simp only [Nat.add_sub_cancel] at hk2 hk3
  have hrd : Rd u8 w A' r := hcut.drop hr (by simp) hc
  have hm := and_i64_31 hb0 hb1
  rw [show b % 32 = b - 160 by omega] at hm
  go_enter Try.func25, Try.ntmps25
  go_wp2_with fail
  go_region
  all_goals
    go_wp2
    refine bodyPost_ret (v := .tuple #[.int .i64 6, .int .u64 (b - 160), .slice A' r.length (c - 1), .bool true]) ?_ rfl ?_
    · simp [results, Try.results25, go_sem]
    · exact ⟨(by repeat (first | exact Ch.refl _ _ | assumption | apply Ch.alloc | apply Ch.drew | apply Ch.drewN)), A', by simp, hcut⟩
set_option maxRecDepth 100000 in
set_option maxHeartbeats 2000000 in
theorem head_220 (bk off : Nat) (c : Nat) (b : Int) (r : List Int) (w : World) (hr : Rd u8 w (some ⟨bk, off, none⟩) (b :: r)) (hb : Byt (b :: r)) (hc : r.length + 1 ≤ c) (hbe : b = 220) (hn : 2 ≤ r.length) :
    Calls Try.prog 25 #[.slice (some ⟨bk, off, none⟩) (r.length + 1) c] w (HOk w (some ⟨bk, off, none⟩) (b :: r) (1 + 2) c 8 (beN (r.take 2))) := by
  obtain ⟨hb0, hb1⟩ := hb b (by simp)
  have hbr : Byt r := fun x hx => hb x (by simp [hx])
  have hcell := hr.head
  obtain ⟨A', hk2, hk3, hcut⟩ := Cut.ahead_l 23 5 Try.underlying23 size_u8 (some ⟨bk, off, none⟩) (r.length + 1) c 1 1 rfl .i64 (by omega)
  simp only [Nat.add_sub_cancel] at hk2 hk3
  have hrd : Rd u8 w A' r := hcut.drop hr (by simp) hc
  subst hbe
  obtain ⟨hu0, hu1⟩ := beN_lt8 (l := r.take 2) (by rw [List.length_take]; omega) (hbr.take 2)
  go_enter Try.func25, Try.ntmps25
  go_wp2_with (first | ((with_reducible refine gate (.makeMap 88 none) rfl ?_); refine wp_makeMap rfl _ rfl .i64 ?_; intro wm m hm HM HC) | ((with_reducible refine gate (.insert 88 _ _ _) rfl ?_); refine wp_insert rfl rfl 88 3 87 _ _ _ rfl .i64 Try.underlying88 Try.underlying3 _ _ _ _ rfl rfl rfl HM (by simp [look]) HC hm ?_; clear HM HC; intro wm HM HC) | ((with_reducible refine gate (.lookup 88 _ _ true) rfl ?_); refine wp_look_ok rfl 88 3 87 _ _ rfl .i64 Try.underlying88 Try.underlying3 (.agg #[.int .i64 0, .int .i64 0]) zero_2int _ _ _ rfl rfl HM (.agg #[.int .i64 8, .int .i64 2]) true (by first | (simp [look]; done) | (simp [look]; rfl)) (by simp [look]) ?_; clear HM hm))
  go_region_with ((go_at_call 46; refine (takeBig_yes A' (c - 1) r 2 _ (hrd.keep0 (by repeat (first | exact Ch.refl _ _ | assumption | apply Ch.alloc | apply Ch.drew | apply Ch.drewN))) hbr (by omega) (by omega) (by omega) (by omega)).mono ?_; rintro e w2 ⟨A2, rfl, hcut2, hch2⟩; have d0 := hch2.cell0 (cell2_0 wm 8 2); have d1 := hch2.cell0 (cell2_1 wm 8 2)))
  all_goals
   go_wp2
   refine bodyPost_ret (v := .tuple #[.int .i64 8, .int .u64 (beN (r.take 2)), .slice A2 (r.length - 2) (c - 1 - 2), .bool true]) ?_ rfl ?_
   · simp [results, Try.results25, go_sem]
   · exact ⟨Ch.no_no (by repeat (first | exact Ch.refl _ _ | assumption | apply Ch.alloc | apply Ch.drew | apply Ch.drewN)) hch2, A2, by simp [Nat.sub_sub, Nat.add_comm], hcut.trans hcut2 (by omega)⟩
set_option maxRecDepth 100000 in
set_option maxHeartbeats 2000000 in
theorem head_221 (bk off : Nat) (c : Nat) (b : Int) (r : List Int) (w : World) (hr : Rd u8 w (some ⟨bk, off, none⟩) (b :: r)) (hb : Byt (b :: r)) (hc : r.length + 1 ≤ c) (hbe : b = 221) (hn : 4 ≤ r.length) :
    Calls Try.prog 25 #[.slice (some ⟨bk, off, none⟩) (r.length + 1) c] w (HOk w (some ⟨bk, off, none⟩) (b :: r) (1 + 4) c 8 (beN (r.take 4))) := by
  obtain ⟨hb0, hb1⟩ := hb b (by simp)
  have hbr : Byt r := fun x hx => hb x (by simp [hx])
  have hcell := hr.head
  obtain ⟨A', hk2, hk3, hcut⟩ := Cut.ahead_l 23 5 Try.underlying23 size_u8 (some ⟨bk, off, none⟩) (r.length + 1) c 1 1 rfl .i64 (by omega)
  simp only [Nat.add_sub_cancel] at hk2 hk3
  have hrd : Rd u8 w A' r := hcut.drop hr (by simp) hc
  subst hbe
  obtain ⟨hu0, hu1⟩ := beN_lt8 (l := r.take 4) (by rw [List.length_take]; omega) (hbr.take 4)
  go_enter Try.func25, Try.ntmps25
  go_wp2_with (first | ((with_reducible refine gate (.makeMap 88 none) rfl ?_); refine wp_makeMap rfl _ rfl .i64 ?_; intro wm m hm HM HC) | ((with_reducible refine gate (.insert 88 _ _ _) rfl ?_); refine wp_insert rfl rfl 88 3 87 _ _ _ rfl .i64 Try.underlying88 Try.underlying3 _ _ _ _ rfl rfl rfl HM (by simp [look]) HC hm ?_; clear HM HC; intro wm HM HC) | ((with_reducible refine gate (.lookup 88 _ _ true) rfl ?_); refine wp_look_ok rfl 88 3 87 _ _ rfl .i64 Try.underlying88 Try.underlying3 (.agg #[.int .i64 0, .int .i64 0]) zero_2int _ _ _ rfl rfl HM (.agg #[.int .i64 8, .int .i64 4]) true (by first | (simp [look]; done) | (simp [look]; rfl)) (by simp [look]) ?_; clear HM hm))
  go_region_with ((go_at_call 46; refine (takeBig_yes A' (c - 1) r 4 _ (hrd.keep0 (by repeat (first | exact Ch.refl _ _ | assumption | apply Ch.alloc | apply Ch.drew | apply Ch.drewN))) hbr (by omega) (by omega) (by omega) (by omega)).mono ?_; rintro e w2 ⟨A2, rfl, hcut2, hch2⟩; have d0 := hch2.cell0 (cell2_0 wm 8 4); have d1 := hch2.cell0 (cell2_1 wm 8 4)))
  all_goals
   go_wp2
   refine bodyPost_ret (v := .tuple #[.int .i64 8, .int .u64 (beN (r.take 4)), .slice A2 (r.length - 4) (c - 1 - 4), .bool true]) ?_ rfl ?_
   · simp [results, Try.results25, go_sem]
   · exact ⟨Ch.no_no (by repeat (first | exact Ch.refl _ _ | assumption | apply Ch.alloc | apply Ch.drew | apply Ch.drewN)) hch2, A2, by simp [Nat.sub_sub, Nat.add_comm], hcut.trans hcut2 (by omega)⟩

end Go.Proofs.Ytdpgbekcjegooaa
