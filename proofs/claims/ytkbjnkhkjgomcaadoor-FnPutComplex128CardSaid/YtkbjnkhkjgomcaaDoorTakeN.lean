/- The reference's reader of MessagePack at the codes of numbers. No condition. -/
import Derived.Test.YtkbjnkhkjgomcaaDoorTake
namespace Go.Proofs.YtkbjnkhkjgomcaaDoor
set_option linter.unusedVariables false
set_option linter.unusedSimpArgs false
open Go.RowKit
set_option maxRecDepth 100000 in
set_option maxHeartbeats 2000000 in
theorem coded_202 (A : Option Addr) (c : Nat) (l : List Int) (lv : Int) (w : World) (hr : Rd u8 w A l) (hb : Byt l) (hc : l.length ≤ c) (hn : 4 ≤ l.length)  :
    Calls Tryd.prog 13 #[.int .i64 202, .slice A l.length c, .int .i64 lv] w (TOk w A l 4 c 4 (beN (l.take 4)) (⟨#[]⟩) (0)) := by
  obtain ⟨hu0, hu1⟩ := beN_lt8 (l := l.take 4) (by rw [List.length_take]; omega) (hb.take 4)
  have hR0 : Row ((w.alloc ZP).alloc ZP) w.heap.size 28 ZL := (Row.alloc w ZL 28).keep0 ((Ch.refl _ _).alloc _)
  go_enter Tryd.func13, Tryd.ntmps13
  go_wp2_with (first | ((with_reducible refine gate (.makeMap 53 none) rfl ?_); refine wp_makeMap rfl _ rfl .i64 ?_; intro wm m hm HM HC) | ((with_reducible refine gate (.insert 53 _ _ _) rfl ?_); refine wp_insert rfl rfl 53 3 3 _ _ _ rfl .i64 Tryd.underlying53 Tryd.underlying3 _ _ _ _ rfl rfl rfl HM (by simp [look]) HC hm ?_; clear HM HC; intro wm HM HC) | ((with_reducible refine gate (.lookup 53 _ _ false) rfl ?_); refine wp_look rfl 53 3 3 _ _ rfl .i64 Tryd.underlying53 Tryd.underlying3 (.int .i64 0) zero_int _ _ _ rfl rfl HM (.int .i64 4) (by first | (simp [look]; done) | (simp [look]; rfl)) ?_; clear HM hm) | (go_at_call 18; refine (takeBig_yes _ _ l _ _ (hr.keep0 (Ch.no_no (by repeat (first | exact Ch.refl _ _ | assumption | apply Ch.alloc | apply Ch.drew | apply Ch.drewN)) HC)) hb hc (by omega) (by omega) (by omega)).mono ?_; rintro e w2 ⟨A2, rfl, hcut, hch2⟩; have HC2 := Ch.no_no HC hch2; clear HC hch2) | ((with_reducible refine gate (.store 28 (.tmp 6) _) rfl ?_); refine wp_store rfl rfl 28 _ _ rfl _ 0 28 ZL (pk 4 (beN (l.take 4)) (⟨#[]⟩) (0)) rfl rfl [.int .i64 4, .int .u64 (beN (l.take 4)), .string (⟨#[]⟩), .int .i64 (0), .slice none 0 0] rfl size_pk (by simp [Value.oneCell']) (hR0.keep0 HC2) (by simp) ?_; intro w3 hrow hch3))
  have c0 : w3.cell? ⟨w.heap.size, 0, none⟩ = some (.int .i64 4) := hrow.cell 0 _ rfl
  have c1 : w3.cell? ⟨w.heap.size, 1, none⟩ = some (.int .u64 (beN (l.take 4))) := hrow.cell 1 _ rfl
  have c2 : w3.cell? ⟨w.heap.size, 2, none⟩ = some (.string (⟨#[]⟩)) := hrow.cell 2 _ rfl
  have c3 : w3.cell? ⟨w.heap.size, 3, none⟩ = some (.int .i64 (0)) := hrow.cell 3 _ rfl
  have c4 : w3.cell? ⟨w.heap.size, 4, none⟩ = some (.slice none 0 0) := hrow.cell 4 _ rfl
  refine bodyPost_ret (v := .tuple #[pk 4 (beN (l.take 4)) (⟨#[]⟩) (0), .slice A2 (l.length - 4) (c - 4), .bool true]) ?_ rfl ?_
  · simp [results, Tryd.results13, go_sem, pk, c0, c1, c2, c3, c4]
  have hC : Ch No w w3 := (Ch.no_no (by repeat (first | exact Ch.refl _ _ | assumption | apply Ch.alloc | apply Ch.drew | apply Ch.drewN)) HC2).freshg hch3 (Nat.le_refl _)
  exact ⟨hC, A2, rfl, hcut⟩
set_option maxRecDepth 100000 in
set_option maxHeartbeats 2000000 in
theorem coded_203 (A : Option Addr) (c : Nat) (l : List Int) (lv : Int) (w : World) (hr : Rd u8 w A l) (hb : Byt l) (hc : l.length ≤ c) (hn : 8 ≤ l.length)  :
    Calls Tryd.prog 13 #[.int .i64 203, .slice A l.length c, .int .i64 lv] w (TOk w A l 8 c 5 (beN (l.take 8)) (⟨#[]⟩) (0)) := by
  obtain ⟨hu0, hu1⟩ := beN_lt8 (l := l.take 8) (by rw [List.length_take]; omega) (hb.take 8)
  have hR0 : Row ((w.alloc ZP).alloc ZP) w.heap.size 28 ZL := (Row.alloc w ZL 28).keep0 ((Ch.refl _ _).alloc _)
  go_enter Tryd.func13, Tryd.ntmps13
  go_wp2_with (first | ((with_reducible refine gate (.makeMap 53 none) rfl ?_); refine wp_makeMap rfl _ rfl .i64 ?_; intro wm m hm HM HC) | ((with_reducible refine gate (.insert 53 _ _ _) rfl ?_); refine wp_insert rfl rfl 53 3 3 _ _ _ rfl .i64 Tryd.underlying53 Tryd.underlying3 _ _ _ _ rfl rfl rfl HM (by simp [look]) HC hm ?_; clear HM HC; intro wm HM HC) | ((with_reducible refine gate (.lookup 53 _ _ false) rfl ?_); refine wp_look rfl 53 3 3 _ _ rfl .i64 Tryd.underlying53 Tryd.underlying3 (.int .i64 0) zero_int _ _ _ rfl rfl HM (.int .i64 8) (by first | (simp [look]; done) | (simp [look]; rfl)) ?_; clear HM hm) | (go_at_call 18; refine (takeBig_yes _ _ l _ _ (hr.keep0 (Ch.no_no (by repeat (first | exact Ch.refl _ _ | assumption | apply Ch.alloc | apply Ch.drew | apply Ch.drewN)) HC)) hb hc (by omega) (by omega) (by omega)).mono ?_; rintro e w2 ⟨A2, rfl, hcut, hch2⟩; have HC2 := Ch.no_no HC hch2; clear HC hch2) | ((with_reducible refine gate (.store 28 (.tmp 6) _) rfl ?_); refine wp_store rfl rfl 28 _ _ rfl _ 0 28 ZL (pk 5 (beN (l.take 8)) (⟨#[]⟩) (0)) rfl rfl [.int .i64 5, .int .u64 (beN (l.take 8)), .string (⟨#[]⟩), .int .i64 (0), .slice none 0 0] rfl size_pk (by simp [Value.oneCell']) (hR0.keep0 HC2) (by simp) ?_; intro w3 hrow hch3))
  have c0 : w3.cell? ⟨w.heap.size, 0, none⟩ = some (.int .i64 5) := hrow.cell 0 _ rfl
  have c1 : w3.cell? ⟨w.heap.size, 1, none⟩ = some (.int .u64 (beN (l.take 8))) := hrow.cell 1 _ rfl
  have c2 : w3.cell? ⟨w.heap.size, 2, none⟩ = some (.string (⟨#[]⟩)) := hrow.cell 2 _ rfl
  have c3 : w3.cell? ⟨w.heap.size, 3, none⟩ = some (.int .i64 (0)) := hrow.cell 3 _ rfl
  have c4 : w3.cell? ⟨w.heap.size, 4, none⟩ = some (.slice none 0 0) := hrow.cell 4 _ rfl
  refine bodyPost_ret (v := .tuple #[pk 5 (beN (l.take 8)) (⟨#[]⟩) (0), .slice A2 (l.length - 8) (c - 8), .bool true]) ?_ rfl ?_
  · simp [results, Tryd.results13, go_sem, pk, c0, c1, c2, c3, c4]
  have hC : Ch No w w3 := (Ch.no_no (by repeat (first | exact Ch.refl _ _ | assumption | apply Ch.alloc | apply Ch.drew | apply Ch.drewN)) HC2).freshg hch3 (Nat.le_refl _)
  exact ⟨hC, A2, rfl, hcut⟩
set_option maxRecDepth 100000 in
set_option maxHeartbeats 2000000 in
theorem coded_204 (A : Option Addr) (c : Nat) (l : List Int) (lv : Int) (w : World) (hr : Rd u8 w A l) (hb : Byt l) (hc : l.length ≤ c) (hn : 1 ≤ l.length)  :
    Calls Tryd.prog 13 #[.int .i64 204, .slice A l.length c, .int .i64 lv] w (TOk w A l 1 c 3 (beN (l.take 1)) (⟨#[]⟩) (0)) := by
  obtain ⟨hu0, hu1⟩ := beN_lt8 (l := l.take 1) (by rw [List.length_take]; omega) (hb.take 1)
  have hR0 : Row ((w.alloc ZP).alloc ZP) w.heap.size 28 ZL := (Row.alloc w ZL 28).keep0 ((Ch.refl _ _).alloc _)
  go_enter Tryd.func13, Tryd.ntmps13
  go_wp2_with (first | ((with_reducible refine gate (.makeMap 53 none) rfl ?_); refine wp_makeMap rfl _ rfl .i64 ?_; intro wm m hm HM HC) | ((with_reducible refine gate (.insert 53 _ _ _) rfl ?_); refine wp_insert rfl rfl 53 3 3 _ _ _ rfl .i64 Tryd.underlying53 Tryd.underlying3 _ _ _ _ rfl rfl rfl HM (by simp [look]) HC hm ?_; clear HM HC; intro wm HM HC) | ((with_reducible refine gate (.lookup 53 _ _ false) rfl ?_); refine wp_look rfl 53 3 3 _ _ rfl .i64 Tryd.underlying53 Tryd.underlying3 (.int .i64 0) zero_int _ _ _ rfl rfl HM (.int .i64 1) (by first | (simp [look]; done) | (simp [look]; rfl)) ?_; clear HM hm) | (go_at_call 18; refine (takeBig_yes _ _ l _ _ (hr.keep0 (Ch.no_no (by repeat (first | exact Ch.refl _ _ | assumption | apply Ch.alloc | apply Ch.drew | apply Ch.drewN)) HC)) hb hc (by omega) (by omega) (by omega)).mono ?_; rintro e w2 ⟨A2, rfl, hcut, hch2⟩; have HC2 := Ch.no_no HC hch2; clear HC hch2) | ((with_reducible refine gate (.store 28 (.tmp 6) _) rfl ?_); refine wp_store rfl rfl 28 _ _ rfl _ 0 28 ZL (pk 3 (beN (l.take 1)) (⟨#[]⟩) (0)) rfl rfl [.int .i64 3, .int .u64 (beN (l.take 1)), .string (⟨#[]⟩), .int .i64 (0), .slice none 0 0] rfl size_pk (by simp [Value.oneCell']) (hR0.keep0 HC2) (by simp) ?_; intro w3 hrow hch3))
  have c0 : w3.cell? ⟨w.heap.size, 0, none⟩ = some (.int .i64 3) := hrow.cell 0 _ rfl
  have c1 : w3.cell? ⟨w.heap.size, 1, none⟩ = some (.int .u64 (beN (l.take 1))) := hrow.cell 1 _ rfl
  have c2 : w3.cell? ⟨w.heap.size, 2, none⟩ = some (.string (⟨#[]⟩)) := hrow.cell 2 _ rfl
  have c3 : w3.cell? ⟨w.heap.size, 3, none⟩ = some (.int .i64 (0)) := hrow.cell 3 _ rfl
  have c4 : w3.cell? ⟨w.heap.size, 4, none⟩ = some (.slice none 0 0) := hrow.cell 4 _ rfl
  refine bodyPost_ret (v := .tuple #[pk 3 (beN (l.take 1)) (⟨#[]⟩) (0), .slice A2 (l.length - 1) (c - 1), .bool true]) ?_ rfl ?_
  · simp [results, Tryd.results13, go_sem, pk, c0, c1, c2, c3, c4]
  have hC : Ch No w w3 := (Ch.no_no (by repeat (first | exact Ch.refl _ _ | assumption | apply Ch.alloc | apply Ch.drew | apply Ch.drewN)) HC2).freshg hch3 (Nat.le_refl _)
  exact ⟨hC, A2, rfl, hcut⟩
set_option maxRecDepth 100000 in
set_option maxHeartbeats 2000000 in
theorem coded_205 (A : Option Addr) (c : Nat) (l : List Int) (lv : Int) (w : World) (hr : Rd u8 w A l) (hb : Byt l) (hc : l.length ≤ c) (hn : 2 ≤ l.length)  :
    Calls Tryd.prog 13 #[.int .i64 205, .slice A l.length c, .int .i64 lv] w (TOk w A l 2 c 3 (beN (l.take 2)) (⟨#[]⟩) (0)) := by
  obtain ⟨hu0, hu1⟩ := beN_lt8 (l := l.take 2) (by rw [List.length_take]; omega) (hb.take 2)
  have hR0 : Row ((w.alloc ZP).alloc ZP) w.heap.size 28 ZL := (Row.alloc w ZL 28).keep0 ((Ch.refl _ _).alloc _)
  go_enter Tryd.func13, Tryd.ntmps13
  go_wp2_with (first | ((with_reducible refine gate (.makeMap 53 none) rfl ?_); refine wp_makeMap rfl _ rfl .i64 ?_; intro wm m hm HM HC) | ((with_reducible refine gate (.insert 53 _ _ _) rfl ?_); refine wp_insert rfl rfl 53 3 3 _ _ _ rfl .i64 Tryd.underlying53 Tryd.underlying3 _ _ _ _ rfl rfl rfl HM (by simp [look]) HC hm ?_; clear HM HC; intro wm HM HC) | ((with_reducible refine gate (.lookup 53 _ _ false) rfl ?_); refine wp_look rfl 53 3 3 _ _ rfl .i64 Tryd.underlying53 Tryd.underlying3 (.int .i64 0) zero_int _ _ _ rfl rfl HM (.int .i64 2) (by first | (simp [look]; done) | (simp [look]; rfl)) ?_; clear HM hm) | (go_at_call 18; refine (takeBig_yes _ _ l _ _ (hr.keep0 (Ch.no_no (by repeat (first | exact Ch.refl _ _ | assumption | apply Ch.alloc | apply Ch.drew | apply Ch.drewN)) HC)) hb hc (by omega) (by omega) (by omega)).mono ?_; rintro e w2 ⟨A2, rfl, hcut, hch2⟩; have HC2 := Ch.no_no HC hch2; clear HC hch2) | ((with_reducible refine gate (.store 28 (.tmp 6) _) rfl ?_); refine wp_store rfl rfl 28 _ _ rfl _ 0 28 ZL (pk 3 (beN (l.take 2)) (⟨#[]⟩) (0)) rfl rfl [.int .i64 3, .int .u64 (beN (l.take 2)), .string (⟨#[]⟩), .int .i64 (0), .slice none 0 0] rfl size_pk (by simp [Value.oneCell']) (hR0.keep0 HC2) (by simp) ?_; intro w3 hrow hch3))
  have c0 : w3.cell? ⟨w.heap.size, 0, none⟩ = some (.int .i64 3) := hrow.cell 0 _ rfl
  have c1 : w3.cell? ⟨w.heap.size, 1, none⟩ = some (.int .u64 (beN (l.take 2))) := hrow.cell 1 _ rfl
  have c2 : w3.cell? ⟨w.heap.size, 2, none⟩ = some (.string (⟨#[]⟩)) := hrow.cell 2 _ rfl
  have c3 : w3.cell? ⟨w.heap.size, 3, none⟩ = some (.int .i64 (0)) := hrow.cell 3 _ rfl
  have c4 : w3.cell? ⟨w.heap.size, 4, none⟩ = some (.slice none 0 0) := hrow.cell 4 _ rfl
  refine bodyPost_ret (v := .tuple #[pk 3 (beN (l.take 2)) (⟨#[]⟩) (0), .slice A2 (l.length - 2) (c - 2), .bool true]) ?_ rfl ?_
  · simp [results, Tryd.results13, go_sem, pk, c0, c1, c2, c3, c4]
  have hC : Ch No w w3 := (Ch.no_no (by repeat (first | exact Ch.refl _ _ | assumption | apply Ch.alloc | apply Ch.drew | apply Ch.drewN)) HC2).freshg hch3 (Nat.le_refl _)
  exact ⟨hC, A2, rfl, hcut⟩
set_option maxRecDepth 100000 in
set_option maxHeartbeats 2000000 in
theorem coded_206 (A : Option Addr) (c : Nat) (l : List Int) (lv : Int) (w : World) (hr : Rd u8 w A l) (hb : Byt l) (hc : l.length ≤ c) (hn : 4 ≤ l.length)  :
    Calls Tryd.prog 13 #[.int .i64 206, .slice A l.length c, .int .i64 lv] w (TOk w A l 4 c 3 (beN (l.take 4)) (⟨#[]⟩) (0)) := by
  obtain ⟨hu0, hu1⟩ := beN_lt8 (l := l.take 4) (by rw [List.length_take]; omega) (hb.take 4)
  have hR0 : Row ((w.alloc ZP).alloc ZP) w.heap.size 28 ZL := (Row.alloc w ZL 28).keep0 ((Ch.refl _ _).alloc _)
  go_enter Tryd.func13, Tryd.ntmps13
  go_wp2_with (first | ((with_reducible refine gate (.makeMap 53 none) rfl ?_); refine wp_makeMap rfl _ rfl .i64 ?_; intro wm m hm HM HC) | ((with_reducible refine gate (.insert 53 _ _ _) rfl ?_); refine wp_insert rfl rfl 53 3 3 _ _ _ rfl .i64 Tryd.underlying53 Tryd.underlying3 _ _ _ _ rfl rfl rfl HM (by simp [look]) HC hm ?_; clear HM HC; intro wm HM HC) | ((with_reducible refine gate (.lookup 53 _ _ false) rfl ?_); refine wp_look rfl 53 3 3 _ _ rfl .i64 Tryd.underlying53 Tryd.underlying3 (.int .i64 0) zero_int _ _ _ rfl rfl HM (.int .i64 4) (by first | (simp [look]; done) | (simp [look]; rfl)) ?_; clear HM hm) | (go_at_call 18; refine (takeBig_yes _ _ l _ _ (hr.keep0 (Ch.no_no (by repeat (first | exact Ch.refl _ _ | assumption | apply Ch.alloc | apply Ch.drew | apply Ch.drewN)) HC)) hb hc (by omega) (by omega) (by omega)).mono ?_; rintro e w2 ⟨A2, rfl, hcut, hch2⟩; have HC2 := Ch.no_no HC hch2; clear HC hch2) | ((with_reducible refine gate (.store 28 (.tmp 6) _) rfl ?_); refine wp_store rfl rfl 28 _ _ rfl _ 0 28 ZL (pk 3 (beN (l.take 4)) (⟨#[]⟩) (0)) rfl rfl [.int .i64 3, .int .u64 (beN (l.take 4)), .string (⟨#[]⟩), .int .i64 (0), .slice none 0 0] rfl size_pk (by simp [Value.oneCell']) (hR0.keep0 HC2) (by simp) ?_; intro w3 hrow hch3))
  have c0 : w3.cell? ⟨w.heap.size, 0, none⟩ = some (.int .i64 3) := hrow.cell 0 _ rfl
  have c1 : w3.cell? ⟨w.heap.size, 1, none⟩ = some (.int .u64 (beN (l.take 4))) := hrow.cell 1 _ rfl
  have c2 : w3.cell? ⟨w.heap.size, 2, none⟩ = some (.string (⟨#[]⟩)) := hrow.cell 2 _ rfl
  have c3 : w3.cell? ⟨w.heap.size, 3, none⟩ = some (.int .i64 (0)) := hrow.cell 3 _ rfl
  have c4 : w3.cell? ⟨w.heap.size, 4, none⟩ = some (.slice none 0 0) := hrow.cell 4 _ rfl
  refine bodyPost_ret (v := .tuple #[pk 3 (beN (l.take 4)) (⟨#[]⟩) (0), .slice A2 (l.length - 4) (c - 4), .bool true]) ?_ rfl ?_
  · simp [results, Tryd.results13, go_sem, pk, c0, c1, c2, c3, c4]
  have hC : Ch No w w3 := (Ch.no_no (by repeat (first | exact Ch.refl _ _ | assumption | apply Ch.alloc | apply Ch.drew | apply Ch.drewN)) HC2).freshg hch3 (Nat.le_refl _)
  exact ⟨hC, A2, rfl, hcut⟩
set_option maxRecDepth 100000 in
set_option maxHeartbeats 2000000 in
theorem coded_207 (A : Option Addr) (c : Nat) (l : List Int) (lv : Int) (w : World) (hr : Rd u8 w A l) (hb : Byt l) (hc : l.length ≤ c) (hn : 8 ≤ l.length)  :
    Calls Tryd.prog 13 #[.int .i64 207, .slice A l.length c, .int .i64 lv] w (TOk w A l 8 c 3 (beN (l.take 8)) (⟨#[]⟩) (0)) := by
  obtain ⟨hu0, hu1⟩ := beN_lt8 (l := l.take 8) (by rw [List.length_take]; omega) (hb.take 8)
  have hR0 : Row ((w.alloc ZP).alloc ZP) w.heap.size 28 ZL := (Row.alloc w ZL 28).keep0 ((Ch.refl _ _).alloc _)
  go_enter Tryd.func13, Tryd.ntmps13
  go_wp2_with (first | ((with_reducible refine gate (.makeMap 53 none) rfl ?_); refine wp_makeMap rfl _ rfl .i64 ?_; intro wm m hm HM HC) | ((with_reducible refine gate (.insert 53 _ _ _) rfl ?_); refine wp_insert rfl rfl 53 3 3 _ _ _ rfl .i64 Tryd.underlying53 Tryd.underlying3 _ _ _ _ rfl rfl rfl HM (by simp [look]) HC hm ?_; clear HM HC; intro wm HM HC) | ((with_reducible refine gate (.lookup 53 _ _ false) rfl ?_); refine wp_look rfl 53 3 3 _ _ rfl .i64 Tryd.underlying53 Tryd.underlying3 (.int .i64 0) zero_int _ _ _ rfl rfl HM (.int .i64 8) (by first | (simp [look]; done) | (simp [look]; rfl)) ?_; clear HM hm) | (go_at_call 18; refine (takeBig_yes _ _ l _ _ (hr.keep0 (Ch.no_no (by repeat (first | exact Ch.refl _ _ | assumption | apply Ch.alloc | apply Ch.drew | apply Ch.drewN)) HC)) hb hc (by omega) (by omega) (by omega)).mono ?_; rintro e w2 ⟨A2, rfl, hcut, hch2⟩; have HC2 := Ch.no_no HC hch2; clear HC hch2) | ((with_reducible refine gate (.store 28 (.tmp 6) _) rfl ?_); refine wp_store rfl rfl 28 _ _ rfl _ 0 28 ZL (pk 3 (beN (l.take 8)) (⟨#[]⟩) (0)) rfl rfl [.int .i64 3, .int .u64 (beN (l.take 8)), .string (⟨#[]⟩), .int .i64 (0), .slice none 0 0] rfl size_pk (by simp [Value.oneCell']) (hR0.keep0 HC2) (by simp) ?_; intro w3 hrow hch3))
  have c0 : w3.cell? ⟨w.heap.size, 0, none⟩ = some (.int .i64 3) := hrow.cell 0 _ rfl
  have c1 : w3.cell? ⟨w.heap.size, 1, none⟩ = some (.int .u64 (beN (l.take 8))) := hrow.cell 1 _ rfl
  have c2 : w3.cell? ⟨w.heap.size, 2, none⟩ = some (.string (⟨#[]⟩)) := hrow.cell 2 _ rfl
  have c3 : w3.cell? ⟨w.heap.size, 3, none⟩ = some (.int .i64 (0)) := hrow.cell 3 _ rfl
  have c4 : w3.cell? ⟨w.heap.size, 4, none⟩ = some (.slice none 0 0) := hrow.cell 4 _ rfl
  refine bodyPost_ret (v := .tuple #[pk 3 (beN (l.take 8)) (⟨#[]⟩) (0), .slice A2 (l.length - 8) (c - 8), .bool true]) ?_ rfl ?_
  · simp [results, Tryd.results13, go_sem, pk, c0, c1, c2, c3, c4]
  have hC : Ch No w w3 := (Ch.no_no (by repeat (first | exact Ch.refl _ _ | assumption | apply Ch.alloc | apply Ch.drew | apply Ch.drewN)) HC2).freshg hch3 (Nat.le_refl _)
  exact ⟨hC, A2, rfl, hcut⟩

theorem sh_neg1 (U : Int) (h0 : 128 ≤ U) (h1 : U < 256) : wrap64 (U * 72057594037927936) / 72057594037927936 = U - 256 := by unfold wrap64; omega
theorem sh_neg2 (U : Int) (h0 : 32768 ≤ U) (h1 : U < 65536) : wrap64 (U * 281474976710656) / 281474976710656 = U - 65536 := by unfold wrap64; omega
theorem sh_neg4 (U : Int) (h0 : 2147483648 ≤ U) (h1 : U < 4294967296) : wrap64 (U * 4294967296) / 4294967296 = U - 4294967296 := by unfold wrap64; omega
theorem sh_pos2 (U : Int) (h0 : 0 ≤ U) (h1 : U < 32768) : wrap64 (U * 281474976710656) / 281474976710656 = U := by unfold wrap64; omega
theorem sh_pos4 (U : Int) (h0 : 0 ≤ U) (h1 : U < 2147483648) : wrap64 (U * 4294967296) / 4294967296 = U := by unfold wrap64; omega
set_option maxRecDepth 100000 in
set_option maxHeartbeats 2000000 in
theorem coded_208 (A : Option Addr) (c : Nat) (l : List Int) (lv : Int) (w : World) (hr : Rd u8 w A l) (hb : Byt l) (hc : l.length ≤ c) (hn : 1 ≤ l.length) (hg : 128 ≤ beN (l.take 1)) (hg1 : beN (l.take 1) < 256) :
    Calls Tryd.prog 13 #[.int .i64 208, .slice A l.length c, .int .i64 lv] w (TOk w A l 1 c 2 (IntKind.u64.wrap (beN (l.take 1) - 256)) (⟨#[]⟩) (0)) := by
  obtain ⟨hu0, hu1⟩ := beN_lt8 (l := l.take 1) (by rw [List.length_take]; omega) (hb.take 1)
  have hsh := sh_neg1 _ hg hg1

  have hR0 : Row ((w.alloc ZP).alloc ZP) w.heap.size 28 ZL := (Row.alloc w ZL 28).keep0 ((Ch.refl _ _).alloc _)
  go_enter Tryd.func13, Tryd.ntmps13
  go_wp2_with (first | ((with_reducible refine gate (.makeMap 53 none) rfl ?_); refine wp_makeMap rfl _ rfl .i64 ?_; intro wm m hm HM HC) | ((with_reducible refine gate (.insert 53 _ _ _) rfl ?_); refine wp_insert rfl rfl 53 3 3 _ _ _ rfl .i64 Tryd.underlying53 Tryd.underlying3 _ _ _ _ rfl rfl rfl HM (by simp [look]) HC hm ?_; clear HM HC; intro wm HM HC) | ((with_reducible refine gate (.lookup 53 _ _ false) rfl ?_); refine wp_look rfl 53 3 3 _ _ rfl .i64 Tryd.underlying53 Tryd.underlying3 (.int .i64 0) zero_int _ _ _ rfl rfl HM (.int .i64 1) (by first | (simp [look]; done) | (simp [look]; rfl)) ?_; clear HM hm) | (go_at_call 18; refine (takeBig_yes _ _ l _ _ (hr.keep0 (Ch.no_no (by repeat (first | exact Ch.refl _ _ | assumption | apply Ch.alloc | apply Ch.drew | apply Ch.drewN)) HC)) hb hc (by omega) (by omega) (by omega)).mono ?_; rintro e w2 ⟨A2, rfl, hcut, hch2⟩; have HC2 := Ch.no_no HC hch2; clear HC hch2) | ((with_reducible refine gate (.store 28 (.tmp 6) _) rfl ?_); refine wp_store rfl rfl 28 _ _ rfl _ 0 28 ZL (pk 2 (IntKind.u64.wrap (beN (l.take 1) - 256)) (⟨#[]⟩) (0)) rfl rfl [.int .i64 2, .int .u64 (IntKind.u64.wrap (beN (l.take 1) - 256)), .string (⟨#[]⟩), .int .i64 (0), .slice none 0 0] rfl size_pk (by simp [Value.oneCell']) (hR0.keep0 HC2) (by simp) ?_; intro w3 hrow hch3))
  have c0 : w3.cell? ⟨w.heap.size, 0, none⟩ = some (.int .i64 2) := hrow.cell 0 _ rfl
  have c1 : w3.cell? ⟨w.heap.size, 1, none⟩ = some (.int .u64 (IntKind.u64.wrap (beN (l.take 1) - 256))) := hrow.cell 1 _ rfl
  have c2 : w3.cell? ⟨w.heap.size, 2, none⟩ = some (.string (⟨#[]⟩)) := hrow.cell 2 _ rfl
  have c3 : w3.cell? ⟨w.heap.size, 3, none⟩ = some (.int .i64 (0)) := hrow.cell 3 _ rfl
  have c4 : w3.cell? ⟨w.heap.size, 4, none⟩ = some (.slice none 0 0) := hrow.cell 4 _ rfl
  refine bodyPost_ret (v := .tuple #[pk 2 (IntKind.u64.wrap (beN (l.take 1) - 256)) (⟨#[]⟩) (0), .slice A2 (l.length - 1) (c - 1), .bool true]) ?_ rfl ?_
  · simp [results, Tryd.results13, go_sem, pk, c0, c1, c2, c3, c4]
  have hC : Ch No w w3 := (Ch.no_no (by repeat (first | exact Ch.refl _ _ | assumption | apply Ch.alloc | apply Ch.drew | apply Ch.drewN)) HC2).freshg hch3 (Nat.le_refl _)
  exact ⟨hC, A2, rfl, hcut⟩
set_option maxRecDepth 100000 in
set_option maxHeartbeats 2000000 in
theorem coded_209 (A : Option Addr) (c : Nat) (l : List Int) (lv : Int) (w : World) (hr : Rd u8 w A l) (hb : Byt l) (hc : l.length ≤ c) (hn : 2 ≤ l.length) (hg : 32768 ≤ beN (l.take 2)) (hg1 : beN (l.take 2) < 65536) :
    Calls Tryd.prog 13 #[.int .i64 209, .slice A l.length c, .int .i64 lv] w (TOk w A l 2 c 2 (IntKind.u64.wrap (beN (l.take 2) - 65536)) (⟨#[]⟩) (0)) := by
  obtain ⟨hu0, hu1⟩ := beN_lt8 (l := l.take 2) (by rw [List.length_take]; omega) (hb.take 2)
  have hsh := sh_neg2 _ hg hg1

  have hR0 : Row ((w.alloc ZP).alloc ZP) w.heap.size 28 ZL := (Row.alloc w ZL 28).keep0 ((Ch.refl _ _).alloc _)
  go_enter Tryd.func13, Tryd.ntmps13
  go_wp2_with (first | ((with_reducible refine gate (.makeMap 53 none) rfl ?_); refine wp_makeMap rfl _ rfl .i64 ?_; intro wm m hm HM HC) | ((with_reducible refine gate (.insert 53 _ _ _) rfl ?_); refine wp_insert rfl rfl 53 3 3 _ _ _ rfl .i64 Tryd.underlying53 Tryd.underlying3 _ _ _ _ rfl rfl rfl HM (by simp [look]) HC hm ?_; clear HM HC; intro wm HM HC) | ((with_reducible refine gate (.lookup 53 _ _ false) rfl ?_); refine wp_look rfl 53 3 3 _ _ rfl .i64 Tryd.underlying53 Tryd.underlying3 (.int .i64 0) zero_int _ _ _ rfl rfl HM (.int .i64 2) (by first | (simp [look]; done) | (simp [look]; rfl)) ?_; clear HM hm) | (go_at_call 18; refine (takeBig_yes _ _ l _ _ (hr.keep0 (Ch.no_no (by repeat (first | exact Ch.refl _ _ | assumption | apply Ch.alloc | apply Ch.drew | apply Ch.drewN)) HC)) hb hc (by omega) (by omega) (by omega)).mono ?_; rintro e w2 ⟨A2, rfl, hcut, hch2⟩; have HC2 := Ch.no_no HC hch2; clear HC hch2) | ((with_reducible refine gate (.store 28 (.tmp 6) _) rfl ?_); refine wp_store rfl rfl 28 _ _ rfl _ 0 28 ZL (pk 2 (IntKind.u64.wrap (beN (l.take 2) - 65536)) (⟨#[]⟩) (0)) rfl rfl [.int .i64 2, .int .u64 (IntKind.u64.wrap (beN (l.take 2) - 65536)), .string (⟨#[]⟩), .int .i64 (0), .slice none 0 0] rfl size_pk (by simp [Value.oneCell']) (hR0.keep0 HC2) (by simp) ?_; intro w3 hrow hch3))
  have c0 : w3.cell? ⟨w.heap.size, 0, none⟩ = some (.int .i64 2) := hrow.cell 0 _ rfl
  have c1 : w3.cell? ⟨w.heap.size, 1, none⟩ = some (.int .u64 (IntKind.u64.wrap (beN (l.take 2) - 65536))) := hrow.cell 1 _ rfl
  have c2 : w3.cell? ⟨w.heap.size, 2, none⟩ = some (.string (⟨#[]⟩)) := hrow.cell 2 _ rfl
  have c3 : w3.cell? ⟨w.heap.size, 3, none⟩ = some (.int .i64 (0)) := hrow.cell 3 _ rfl
  have c4 : w3.cell? ⟨w.heap.size, 4, none⟩ = some (.slice none 0 0) := hrow.cell 4 _ rfl
  refine bodyPost_ret (v := .tuple #[pk 2 (IntKind.u64.wrap (beN (l.take 2) - 65536)) (⟨#[]⟩) (0), .slice A2 (l.length - 2) (c - 2), .bool true]) ?_ rfl ?_
  · simp [results, Tryd.results13, go_sem, pk, c0, c1, c2, c3, c4]
  have hC : Ch No w w3 := (Ch.no_no (by repeat (first | exact Ch.refl _ _ | assumption | apply Ch.alloc | apply Ch.drew | apply Ch.drewN)) HC2).freshg hch3 (Nat.le_refl _)
  exact ⟨hC, A2, rfl, hcut⟩
set_option maxRecDepth 100000 in
set_option maxHeartbeats 2000000 in
theorem coded_210 (A : Option Addr) (c : Nat) (l : List Int) (lv : Int) (w : World) (hr : Rd u8 w A l) (hb : Byt l) (hc : l.length ≤ c) (hn : 4 ≤ l.length) (hg : 2147483648 ≤ beN (l.take 4)) (hg1 : beN (l.take 4) < 4294967296) :
    Calls Tryd.prog 13 #[.int .i64 210, .slice A l.length c, .int .i64 lv] w (TOk w A l 4 c 2 (IntKind.u64.wrap (beN (l.take 4) - 4294967296)) (⟨#[]⟩) (0)) := by
  obtain ⟨hu0, hu1⟩ := beN_lt8 (l := l.take 4) (by rw [List.length_take]; omega) (hb.take 4)
  have hsh := sh_neg4 _ hg hg1

  have hR0 : Row ((w.alloc ZP).alloc ZP) w.heap.size 28 ZL := (Row.alloc w ZL 28).keep0 ((Ch.refl _ _).alloc _)
  go_enter Tryd.func13, Tryd.ntmps13
  go_wp2_with (first | ((with_reducible refine gate (.makeMap 53 none) rfl ?_); refine wp_makeMap rfl _ rfl .i64 ?_; intro wm m hm HM HC) | ((with_reducible refine gate (.insert 53 _ _ _) rfl ?_); refine wp_insert rfl rfl 53 3 3 _ _ _ rfl .i64 Tryd.underlying53 Tryd.underlying3 _ _ _ _ rfl rfl rfl HM (by simp [look]) HC hm ?_; clear HM HC; intro wm HM HC) | ((with_reducible refine gate (.lookup 53 _ _ false) rfl ?_); refine wp_look rfl 53 3 3 _ _ rfl .i64 Tryd.underlying53 Tryd.underlying3 (.int .i64 0) zero_int _ _ _ rfl rfl HM (.int .i64 4) (by first | (simp [look]; done) | (simp [look]; rfl)) ?_; clear HM hm) | (go_at_call 18; refine (takeBig_yes _ _ l _ _ (hr.keep0 (Ch.no_no (by repeat (first | exact Ch.refl _ _ | assumption | apply Ch.alloc | apply Ch.drew | apply Ch.drewN)) HC)) hb hc (by omega) (by omega) (by omega)).mono ?_; rintro e w2 ⟨A2, rfl, hcut, hch2⟩; have HC2 := Ch.no_no HC hch2; clear HC hch2) | ((with_reducible refine gate (.store 28 (.tmp 6) _) rfl ?_); refine wp_store rfl rfl 28 _ _ rfl _ 0 28 ZL (pk 2 (IntKind.u64.wrap (beN (l.take 4) - 4294967296)) (⟨#[]⟩) (0)) rfl rfl [.int .i64 2, .int .u64 (IntKind.u64.wrap (beN (l.take 4) - 4294967296)), .string (⟨#[]⟩), .int .i64 (0), .slice none 0 0] rfl size_pk (by simp [Value.oneCell']) (hR0.keep0 HC2) (by simp) ?_; intro w3 hrow hch3))
  have c0 : w3.cell? ⟨w.heap.size, 0, none⟩ = some (.int .i64 2) := hrow.cell 0 _ rfl
  have c1 : w3.cell? ⟨w.heap.size, 1, none⟩ = some (.int .u64 (IntKind.u64.wrap (beN (l.take 4) - 4294967296))) := hrow.cell 1 _ rfl
  have c2 : w3.cell? ⟨w.heap.size, 2, none⟩ = some (.string (⟨#[]⟩)) := hrow.cell 2 _ rfl
  have c3 : w3.cell? ⟨w.heap.size, 3, none⟩ = some (.int .i64 (0)) := hrow.cell 3 _ rfl
  have c4 : w3.cell? ⟨w.heap.size, 4, none⟩ = some (.slice none 0 0) := hrow.cell 4 _ rfl
  refine bodyPost_ret (v := .tuple #[pk 2 (IntKind.u64.wrap (beN (l.take 4) - 4294967296)) (⟨#[]⟩) (0), .slice A2 (l.length - 4) (c - 4), .bool true]) ?_ rfl ?_
  · simp [results, Tryd.results13, go_sem, pk, c0, c1, c2, c3, c4]
  have hC : Ch No w w3 := (Ch.no_no (by repeat (first | exact Ch.refl _ _ | assumption | apply Ch.alloc | apply Ch.drew | apply Ch.drewN)) HC2).freshg hch3 (Nat.le_refl _)
  exact ⟨hC, A2, rfl, hcut⟩
set_option maxRecDepth 100000 in
set_option maxHeartbeats 2000000 in
theorem coded_209p (A : Option Addr) (c : Nat) (l : List Int) (lv : Int) (w : World) (hr : Rd u8 w A l) (hb : Byt l) (hc : l.length ≤ c) (hn : 2 ≤ l.length) (hg1 : beN (l.take 2) < 32768) :
    Calls Tryd.prog 13 #[.int .i64 209, .slice A l.length c, .int .i64 lv] w (TOk w A l 2 c 3 (beN (l.take 2)) (⟨#[]⟩) (0)) := by
  obtain ⟨hu0, hu1⟩ := beN_lt8 (l := l.take 2) (by rw [List.length_take]; omega) (hb.take 2)
  have hsh := sh_pos2 _ hu0 hg1

  have hR0 : Row ((w.alloc ZP).alloc ZP) w.heap.size 28 ZL := (Row.alloc w ZL 28).keep0 ((Ch.refl _ _).alloc _)
  go_enter Tryd.func13, Tryd.ntmps13
  go_wp2_with (first | ((with_reducible refine gate (.makeMap 53 none) rfl ?_); refine wp_makeMap rfl _ rfl .i64 ?_; intro wm m hm HM HC) | ((with_reducible refine gate (.insert 53 _ _ _) rfl ?_); refine wp_insert rfl rfl 53 3 3 _ _ _ rfl .i64 Tryd.underlying53 Tryd.underlying3 _ _ _ _ rfl rfl rfl HM (by simp [look]) HC hm ?_; clear HM HC; intro wm HM HC) | ((with_reducible refine gate (.lookup 53 _ _ false) rfl ?_); refine wp_look rfl 53 3 3 _ _ rfl .i64 Tryd.underlying53 Tryd.underlying3 (.int .i64 0) zero_int _ _ _ rfl rfl HM (.int .i64 2) (by first | (simp [look]; done) | (simp [look]; rfl)) ?_; clear HM hm) | (go_at_call 18; refine (takeBig_yes _ _ l _ _ (hr.keep0 (Ch.no_no (by repeat (first | exact Ch.refl _ _ | assumption | apply Ch.alloc | apply Ch.drew | apply Ch.drewN)) HC)) hb hc (by omega) (by omega) (by omega)).mono ?_; rintro e w2 ⟨A2, rfl, hcut, hch2⟩; have HC2 := Ch.no_no HC hch2; clear HC hch2) | ((with_reducible refine gate (.store 28 (.tmp 6) _) rfl ?_); refine wp_store rfl rfl 28 _ _ rfl _ 0 28 ZL (pk 3 (beN (l.take 2)) (⟨#[]⟩) (0)) rfl rfl [.int .i64 3, .int .u64 (beN (l.take 2)), .string (⟨#[]⟩), .int .i64 (0), .slice none 0 0] rfl size_pk (by simp [Value.oneCell']) (hR0.keep0 HC2) (by simp) ?_; intro w3 hrow hch3))
  have c0 : w3.cell? ⟨w.heap.size, 0, none⟩ = some (.int .i64 3) := hrow.cell 0 _ rfl
  have c1 : w3.cell? ⟨w.heap.size, 1, none⟩ = some (.int .u64 (beN (l.take 2))) := hrow.cell 1 _ rfl
  have c2 : w3.cell? ⟨w.heap.size, 2, none⟩ = some (.string (⟨#[]⟩)) := hrow.cell 2 _ rfl
  have c3 : w3.cell? ⟨w.heap.size, 3, none⟩ = some (.int .i64 (0)) := hrow.cell 3 _ rfl
  have c4 : w3.cell? ⟨w.heap.size, 4, none⟩ = some (.slice none 0 0) := hrow.cell 4 _ rfl
  refine bodyPost_ret (v := .tuple #[pk 3 (beN (l.take 2)) (⟨#[]⟩) (0), .slice A2 (l.length - 2) (c - 2), .bool true]) ?_ rfl ?_
  · simp [results, Tryd.results13, go_sem, pk, c0, c1, c2, c3, c4]
  have hC : Ch No w w3 := (Ch.no_no (by repeat (first | exact Ch.refl _ _ | assumption | apply Ch.alloc | apply Ch.drew | apply Ch.drewN)) HC2).freshg hch3 (Nat.le_refl _)
  exact ⟨hC, A2, rfl, hcut⟩
set_option maxRecDepth 100000 in
set_option maxHeartbeats 2000000 in
theorem coded_210p (A : Option Addr) (c : Nat) (l : List Int) (lv : Int) (w : World) (hr : Rd u8 w A l) (hb : Byt l) (hc : l.length ≤ c) (hn : 4 ≤ l.length) (hg1 : beN (l.take 4) < 2147483648) :
    Calls Tryd.prog 13 #[.int .i64 210, .slice A l.length c, .int .i64 lv] w (TOk w A l 4 c 3 (beN (l.take 4)) (⟨#[]⟩) (0)) := by
  obtain ⟨hu0, hu1⟩ := beN_lt8 (l := l.take 4) (by rw [List.length_take]; omega) (hb.take 4)
  have hsh := sh_pos4 _ hu0 hg1

  have hR0 : Row ((w.alloc ZP).alloc ZP) w.heap.size 28 ZL := (Row.alloc w ZL 28).keep0 ((Ch.refl _ _).alloc _)
  go_enter Tryd.func13, Tryd.ntmps13
  go_wp2_with (first | ((with_reducible refine gate (.makeMap 53 none) rfl ?_); refine wp_makeMap rfl _ rfl .i64 ?_; intro wm m hm HM HC) | ((with_reducible refine gate (.insert 53 _ _ _) rfl ?_); refine wp_insert rfl rfl 53 3 3 _ _ _ rfl .i64 Tryd.underlying53 Tryd.underlying3 _ _ _ _ rfl rfl rfl HM (by simp [look]) HC hm ?_; clear HM HC; intro wm HM HC) | ((with_reducible refine gate (.lookup 53 _ _ false) rfl ?_); refine wp_look rfl 53 3 3 _ _ rfl .i64 Tryd.underlying53 Tryd.underlying3 (.int .i64 0) zero_int _ _ _ rfl rfl HM (.int .i64 4) (by first | (simp [look]; done) | (simp [look]; rfl)) ?_; clear HM hm) | (go_at_call 18; refine (takeBig_yes _ _ l _ _ (hr.keep0 (Ch.no_no (by repeat (first | exact Ch.refl _ _ | assumption | apply Ch.alloc | apply Ch.drew | apply Ch.drewN)) HC)) hb hc (by omega) (by omega) (by omega)).mono ?_; rintro e w2 ⟨A2, rfl, hcut, hch2⟩; have HC2 := Ch.no_no HC hch2; clear HC hch2) | ((with_reducible refine gate (.store 28 (.tmp 6) _) rfl ?_); refine wp_store rfl rfl 28 _ _ rfl _ 0 28 ZL (pk 3 (beN (l.take 4)) (⟨#[]⟩) (0)) rfl rfl [.int .i64 3, .int .u64 (beN (l.take 4)), .string (⟨#[]⟩), .int .i64 (0), .slice none 0 0] rfl size_pk (by simp [Value.oneCell']) (hR0.keep0 HC2) (by simp) ?_; intro w3 hrow hch3))
  have c0 : w3.cell? ⟨w.heap.size, 0, none⟩ = some (.int .i64 3) := hrow.cell 0 _ rfl
  have c1 : w3.cell? ⟨w.heap.size, 1, none⟩ = some (.int .u64 (beN (l.take 4))) := hrow.cell 1 _ rfl
  have c2 : w3.cell? ⟨w.heap.size, 2, none⟩ = some (.string (⟨#[]⟩)) := hrow.cell 2 _ rfl
  have c3 : w3.cell? ⟨w.heap.size, 3, none⟩ = some (.int .i64 (0)) := hrow.cell 3 _ rfl
  have c4 : w3.cell? ⟨w.heap.size, 4, none⟩ = some (.slice none 0 0) := hrow.cell 4 _ rfl
  refine bodyPost_ret (v := .tuple #[pk 3 (beN (l.take 4)) (⟨#[]⟩) (0), .slice A2 (l.length - 4) (c - 4), .bool true]) ?_ rfl ?_
  · simp [results, Tryd.results13, go_sem, pk, c0, c1, c2, c3, c4]
  have hC : Ch No w w3 := (Ch.no_no (by repeat (first | exact Ch.refl _ _ | assumption | apply Ch.alloc | apply Ch.drew | apply Ch.drewN)) HC2).freshg hch3 (Nat.le_refl _)
  exact ⟨hC, A2, rfl, hcut⟩
set_option maxRecDepth 100000 in
set_option maxHeartbeats 2000000 in
theorem coded_211p (A : Option Addr) (c : Nat) (l : List Int) (lv : Int) (w : World) (hr : Rd u8 w A l) (hb : Byt l) (hc : l.length ≤ c) (hn : 8 ≤ l.length) (hg1 : beN (l.take 8) < 9223372036854775808) :
    Calls Tryd.prog 13 #[.int .i64 211, .slice A l.length c, .int .i64 lv] w (TOk w A l 8 c 3 (beN (l.take 8)) (⟨#[]⟩) (0)) := by
  obtain ⟨hu0, hu1⟩ := beN_lt8 (l := l.take 8) (by rw [List.length_take]; omega) (hb.take 8)
  have hR0 : Row ((w.alloc ZP).alloc ZP) w.heap.size 28 ZL := (Row.alloc w ZL 28).keep0 ((Ch.refl _ _).alloc _)
  go_enter Tryd.func13, Tryd.ntmps13
  go_wp2_with (first | ((with_reducible refine gate (.makeMap 53 none) rfl ?_); refine wp_makeMap rfl _ rfl .i64 ?_; intro wm m hm HM HC) | ((with_reducible refine gate (.insert 53 _ _ _) rfl ?_); refine wp_insert rfl rfl 53 3 3 _ _ _ rfl .i64 Tryd.underlying53 Tryd.underlying3 _ _ _ _ rfl rfl rfl HM (by simp [look]) HC hm ?_; clear HM HC; intro wm HM HC) | ((with_reducible refine gate (.lookup 53 _ _ false) rfl ?_); refine wp_look rfl 53 3 3 _ _ rfl .i64 Tryd.underlying53 Tryd.underlying3 (.int .i64 0) zero_int _ _ _ rfl rfl HM (.int .i64 8) (by first | (simp [look]; done) | (simp [look]; rfl)) ?_; clear HM hm) | (go_at_call 18; refine (takeBig_yes _ _ l _ _ (hr.keep0 (Ch.no_no (by repeat (first | exact Ch.refl _ _ | assumption | apply Ch.alloc | apply Ch.drew | apply Ch.drewN)) HC)) hb hc (by omega) (by omega) (by omega)).mono ?_; rintro e w2 ⟨A2, rfl, hcut, hch2⟩; have HC2 := Ch.no_no HC hch2; clear HC hch2) | ((with_reducible refine gate (.store 28 (.tmp 6) _) rfl ?_); refine wp_store rfl rfl 28 _ _ rfl _ 0 28 ZL (pk 3 (beN (l.take 8)) (⟨#[]⟩) (0)) rfl rfl [.int .i64 3, .int .u64 (beN (l.take 8)), .string (⟨#[]⟩), .int .i64 (0), .slice none 0 0] rfl size_pk (by simp [Value.oneCell']) (hR0.keep0 HC2) (by simp) ?_; intro w3 hrow hch3))
  have c0 : w3.cell? ⟨w.heap.size, 0, none⟩ = some (.int .i64 3) := hrow.cell 0 _ rfl
  have c1 : w3.cell? ⟨w.heap.size, 1, none⟩ = some (.int .u64 (beN (l.take 8))) := hrow.cell 1 _ rfl
  have c2 : w3.cell? ⟨w.heap.size, 2, none⟩ = some (.string (⟨#[]⟩)) := hrow.cell 2 _ rfl
  have c3 : w3.cell? ⟨w.heap.size, 3, none⟩ = some (.int .i64 (0)) := hrow.cell 3 _ rfl
  have c4 : w3.cell? ⟨w.heap.size, 4, none⟩ = some (.slice none 0 0) := hrow.cell 4 _ rfl
  refine bodyPost_ret (v := .tuple #[pk 3 (beN (l.take 8)) (⟨#[]⟩) (0), .slice A2 (l.length - 8) (c - 8), .bool true]) ?_ rfl ?_
  · simp [results, Tryd.results13, go_sem, pk, c0, c1, c2, c3, c4]
  have hC : Ch No w w3 := (Ch.no_no (by repeat (first | exact Ch.refl _ _ | assumption | apply Ch.alloc | apply Ch.drew | apply Ch.drewN)) HC2).freshg hch3 (Nat.le_refl _)
  exact ⟨hC, A2, rfl, hcut⟩

end Go.Proofs.YtkbjnkhkjgomcaaDoor
