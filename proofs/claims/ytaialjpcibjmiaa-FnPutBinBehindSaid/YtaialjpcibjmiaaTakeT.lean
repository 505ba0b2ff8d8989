/- The reference's reader of MessagePack at the codes of bytes and texts. No condition. -/
import Derived.Test.YtaialjpcibjmiaaReads
namespace Go.Proofs.Ytaialjpcibjmiaa
set_option linter.unusedVariables false
set_option linter.unusedSimpArgs false
open Go.RowKit
set_option maxRecDepth 100000 in
set_option maxHeartbeats 2000000 in
theorem coded_196 (A : Option Addr) (c : Nat) (l : List Int) (lv : Int) (w : World) (N : Nat) (hr : Rd u8 w A l) (hb : Byt l) (hc : l.length ≤ c) (hn : 1 + N ≤ l.length) (hll : l.length ≤ 35184372088832) (hN : beN (l.take 1) = (N : Int)) :
    Calls Try.prog 31 #[.int .i64 196, .slice A l.length c, .int .i64 lv] w (TOk w A l (1 + N) c 7 0 (strOfNums ((l.drop 1).take N)) 0) := by
  have hR0 : Row ((w.alloc ZP).alloc ZP) w.heap.size 29 ZL := (Row.alloc w ZL 29).keep0 ((Ch.refl _ _).alloc _)
  have htt : ∀ (A2 : Option Addr) (w' : World), Rd u8 w' A2 (l.drop 1) → Calls Try.prog 30 #[.int .i64 7, .int .u64 N, .slice A2 (l.length - 1) (c - 1)] w' (fun e w'' => Ch No w' w'' ∧ ∃ A3, e = .returned (.tuple #[pk 7 0 (strOfNums ((l.drop 1).take N)) 0, .slice A3 (l.length - 1 - N) (c - 1 - N), .bool true]) ∧ Cut A2 (l.length - 1) (c - 1) N (l.length - 1) A3) := fun A2 w' hr' => by
    have h := takeText_calls A2 (c - 1) (l.drop 1) 7 N w' hr' (by rw [List.length_drop]; omega) (by rw [List.length_drop]; omega) (by rw [List.length_drop]; omega)
    unfold TOk at h
    rwa [List.length_drop] at h
  generalize hS : strOfNums ((l.drop 1).take N) = S at htt ⊢
  clear hS
  have HN := hid hN
  clear hN
  go_enter Try.func31, Try.ntmps31
  go_wp2_with (first | ((with_reducible refine gate (.makeMap 70 none) rfl ?_); refine wp_makeMap rfl _ rfl .i64 ?_; intro wm m hm HM HC) | ((with_reducible refine gate (.insert 70 _ _ _) rfl ?_); refine wp_insert rfl rfl 70 3 3 _ _ _ rfl .i64 Try.underlying70 Try.underlying3 _ _ _ _ rfl rfl rfl HM (by simp [look]) HC hm ?_; clear HM HC; intro wm HM HC) | ((with_reducible refine gate (.lookup 70 _ _ false) rfl ?_); refine wp_look rfl 70 3 3 _ _ rfl .i64 Try.underlying70 Try.underlying3 (.int .i64 0) zero_int _ _ _ rfl rfl HM (.int .i64 1) (by first | (simp [look]; done) | (simp [look]; rfl)) ?_; clear HM hm) | (go_at_call 23; refine (takeBig_yes _ _ l 1 _ (hr.keep0 (Ch.no_no (by repeat (first | exact Ch.refl _ _ | assumption | apply Ch.alloc | apply Ch.drew | apply Ch.drewN)) HC)) hb hc (by omega) (by omega) (by omega)).mono ?_; rintro e w2 ⟨A2, rfl, hcut, hch2⟩; simp only [Int.reduceToNat] at hcut ⊢; rw [HN.out]; have HC2 := Ch.no_no HC hch2; clear HC hch2) | (go_at_call 30; refine (htt A2 _ (hcut.drop (hr.keep0 (Ch.no_no (by repeat (first | exact Ch.refl _ _ | assumption | apply Ch.alloc | apply Ch.drew | apply Ch.drewN)) HC2)) rfl hc)).mono ?_; rintro e w4 ⟨hch4, A3, rfl, hcut3⟩; unfold pk; have HC4 := Ch.no_no HC2 hch4; clear HC2 hch4) | ((with_reducible refine gate (.store 29 (.tmp 6) _) rfl ?_); refine wp_store rfl rfl 29 _ _ rfl _ 0 29 ZL (pk 7 0 S 0) rfl rfl [.int .i64 7, .int .u64 0, .string S, .int .i64 0, .slice none 0 0] rfl size_pk (by simp [Value.oneCell']) (hR0.keep0 HC4) (by simp) ?_; intro w3 hrow hch3))
  obtain ⟨c0, c1, c2, c3, c4⟩ := pk_cells hrow
  refine bodyPost_ret (v := .tuple #[pk 7 0 S 0, .slice A3 (l.length - 1 - N) (c - 1 - N), .bool true]) ?_ rfl ?_
  · simp [results, Try.results31, go_sem, pk, c0, c1, c2, c3, c4]
  have hC : Ch No w w3 := (Ch.no_no (by repeat (first | exact Ch.refl _ _ | assumption | apply Ch.alloc | apply Ch.drew | apply Ch.drewN)) HC4).freshg hch3 (Nat.le_refl _)
  exact ⟨hC, A3, by rw [Nat.sub_sub, Nat.sub_sub], hcut.trans hcut3 (by omega)⟩
set_option maxRecDepth 100000 in
set_option maxHeartbeats 2000000 in
theorem coded_197 (A : Option Addr) (c : Nat) (l : List Int) (lv : Int) (w : World) (N : Nat) (hr : Rd u8 w A l) (hb : Byt l) (hc : l.length ≤ c) (hn : 2 + N ≤ l.length) (hll : l.length ≤ 35184372088832) (hN : beN (l.take 2) = (N : Int)) :
    Calls Try.prog 31 #[.int .i64 197, .slice A l.length c, .int .i64 lv] w (TOk w A l (2 + N) c 7 0 (strOfNums ((l.drop 2).take N)) 0) := by
  have hR0 : Row ((w.alloc ZP).alloc ZP) w.heap.size 29 ZL := (Row.alloc w ZL 29).keep0 ((Ch.refl _ _).alloc _)
  have htt : ∀ (A2 : Option Addr) (w' : World), Rd u8 w' A2 (l.drop 2) → Calls Try.prog 30 #[.int .i64 7, .int .u64 N, .slice A2 (l.length - 2) (c - 2)] w' (fun e w'' => Ch No w' w'' ∧ ∃ A3, e = .returned (.tuple #[pk 7 0 (strOfNums ((l.drop 2).take N)) 0, .slice A3 (l.length - 2 - N) (c - 2 - N), .bool true]) ∧ Cut A2 (l.length - 2) (c - 2) N (l.length - 2) A3) := fun A2 w' hr' => by
    have h := takeText_calls A2 (c - 2) (l.drop 2) 7 N w' hr' (by rw [List.length_drop]; omega) (by rw [List.length_drop]; omega) (by rw [List.length_drop]; omega)
    unfold TOk at h
    rwa [List.length_drop] at h
  generalize hS : strOfNums ((l.drop 2).take N) = S at htt ⊢
  clear hS
  have HN := hid hN
  clear hN
  go_enter Try.func31, Try.ntmps31
  go_wp2_with (first | ((with_reducible refine gate (.makeMap 70 none) rfl ?_); refine wp_makeMap rfl _ rfl .i64 ?_; intro wm m hm HM HC) | ((with_reducible refine gate (.insert 70 _ _ _) rfl ?_); refine wp_insert rfl rfl 70 3 3 _ _ _ rfl .i64 Try.underlying70 Try.underlying3 _ _ _ _ rfl rfl rfl HM (by simp [look]) HC hm ?_; clear HM HC; intro wm HM HC) | ((with_reducible refine gate (.lookup 70 _ _ false) rfl ?_); refine wp_look rfl 70 3 3 _ _ rfl .i64 Try.underlying70 Try.underlying3 (.int .i64 0) zero_int _ _ _ rfl rfl HM (.int .i64 2) (by first | (simp [look]; done) | (simp [look]; rfl)) ?_; clear HM hm) | (go_at_call 23; refine (takeBig_yes _ _ l 2 _ (hr.keep0 (Ch.no_no (by repeat (first | exact Ch.refl _ _ | assumption | apply Ch.alloc | apply Ch.drew | apply Ch.drewN)) HC)) hb hc (by omega) (by omega) (by omega)).mono ?_; rintro e w2 ⟨A2, rfl, hcut, hch2⟩; simp only [Int.reduceToNat] at hcut ⊢; rw [HN.out]; have HC2 := Ch.no_no HC hch2; clear HC hch2) | (go_at_call 30; refine (htt A2 _ (hcut.drop (hr.keep0 (Ch.no_no (by repeat (first | exact Ch.refl _ _ | assumption | apply Ch.alloc | apply Ch.drew | apply Ch.drewN)) HC2)) rfl hc)).mono ?_; rintro e w4 ⟨hch4, A3, rfl, hcut3⟩; unfold pk; have HC4 := Ch.no_no HC2 hch4; clear HC2 hch4) | ((with_reducible refine gate (.store 29 (.tmp 6) _) rfl ?_); refine wp_store rfl rfl 29 _ _ rfl _ 0 29 ZL (pk 7 0 S 0) rfl rfl [.int .i64 7, .int .u64 0, .string S, .int .i64 0, .slice none 0 0] rfl size_pk (by simp [Value.oneCell']) (hR0.keep0 HC4) (by simp) ?_; intro w3 hrow hch3))
  obtain ⟨c0, c1, c2, c3, c4⟩ := pk_cells hrow
  refine bodyPost_ret (v := .tuple #[pk 7 0 S 0, .slice A3 (l.length - 2 - N) (c - 2 - N), .bool true]) ?_ rfl ?_
  · simp [results, Try.results31, go_sem, pk, c0, c1, c2, c3, c4]
  have hC : Ch No w w3 := (Ch.no_no (by repeat (first | exact Ch.refl _ _ | assumption | apply Ch.alloc | apply Ch.drew | apply Ch.drewN)) HC4).freshg hch3 (Nat.le_refl _)
  exact ⟨hC, A3, by rw [Nat.sub_sub, Nat.sub_sub], hcut.trans hcut3 (by omega)⟩
set_option maxRecDepth 100000 in
set_option maxHeartbeats 2000000 in
theorem coded_198 (A : Option Addr) (c : Nat) (l : List Int) (lv : Int) (w : World) (N : Nat) (hr : Rd u8 w A l) (hb : Byt l) (hc : l.length ≤ c) (hn : 4 + N ≤ l.length) (hll : l.length ≤ 35184372088832) (hN : beN (l.take 4) = (N : Int)) :
    Calls Try.prog 31 #[.int .i64 198, .slice A l.length c, .int .i64 lv] w (TOk w A l (4 + N) c 7 0 (strOfNums ((l.drop 4).take N)) 0) := by
  have hR0 : Row ((w.alloc ZP).alloc ZP) w.heap.size 29 ZL := (Row.alloc w ZL 29).keep0 ((Ch.refl _ _).alloc _)
  have htt : ∀ (A2 : Option Addr) (w' : World), Rd u8 w' A2 (l.drop 4) → Calls Try.prog 30 #[.int .i64 7, .int .u64 N, .slice A2 (l.length - 4) (c - 4)] w' (fun e w'' => Ch No w' w'' ∧ ∃ A3, e = .returned (.tuple #[pk 7 0 (strOfNums ((l.drop 4).take N)) 0, .slice A3 (l.length - 4 - N) (c - 4 - N), .bool true]) ∧ Cut A2 (l.length - 4) (c - 4) N (l.length - 4) A3) := fun A2 w' hr' => by
    have h := takeText_calls A2 (c - 4) (l.drop 4) 7 N w' hr' (by rw [List.length_drop]; omega) (by rw [List.length_drop]; omega) (by rw [List.length_drop]; omega)
    unfold TOk at h
    rwa [List.length_drop] at h
  generalize hS : strOfNums ((l.drop 4).take N) = S at htt ⊢
  clear hS
  have HN := hid hN
  clear hN
  go_enter Try.func31, Try.ntmps31
  go_wp2_with (first | ((with_reducible refine gate (.makeMap 70 none) rfl ?_); refine wp_makeMap rfl _ rfl .i64 ?_; intro wm m hm HM HC) | ((with_reducible refine gate (.insert 70 _ _ _) rfl ?_); refine wp_insert rfl rfl 70 3 3 _ _ _ rfl .i64 Try.underlying70 Try.underlying3 _ _ _ _ rfl rfl rfl HM (by simp [look]) HC hm ?_; clear HM HC; intro wm HM HC) | ((with_reducible refine gate (.lookup 70 _ _ false) rfl ?_); refine wp_look rfl 70 3 3 _ _ rfl .i64 Try.underlying70 Try.underlying3 (.int .i64 0) zero_int _ _ _ rfl rfl HM (.int .i64 4) (by first | (simp [look]; done) | (simp [look]; rfl)) ?_; clear HM hm) | (go_at_call 23; refine (takeBig_yes _ _ l 4 _ (hr.keep0 (Ch.no_no (by repeat (first | exact Ch.refl _ _ | assumption | apply Ch.alloc | apply Ch.drew | apply Ch.drewN)) HC)) hb hc (by omega) (by omega) (by omega)).mono ?_; rintro e w2 ⟨A2, rfl, hcut, hch2⟩; simp only [Int.reduceToNat] at hcut ⊢; rw [HN.out]; have HC2 := Ch.no_no HC hch2; clear HC hch2) | (go_at_call 30; refine (htt A2 _ (hcut.drop (hr.keep0 (Ch.no_no (by repeat (first | exact Ch.refl _ _ | assumption | apply Ch.alloc | apply Ch.drew | apply Ch.drewN)) HC2)) rfl hc)).mono ?_; rintro e w4 ⟨hch4, A3, rfl, hcut3⟩; unfold pk; have HC4 := Ch.no_no HC2 hch4; clear HC2 hch4) | ((with_reducible refine gate (.store 29 (.tmp 6) _) rfl ?_); refine wp_store rfl rfl 29 _ _ rfl _ 0 29 ZL (pk 7 0 S 0) rfl rfl [.int .i64 7, .int .u64 0, .string S, .int .i64 0, .slice none 0 0] rfl size_pk (by simp [Value.oneCell']) (hR0.keep0 HC4) (by simp) ?_; intro w3 hrow hch3))
  obtain ⟨c0, c1, c2, c3, c4⟩ := pk_cells hrow
  refine bodyPost_ret (v := .tuple #[pk 7 0 S 0, .slice A3 (l.length - 4 - N) (c - 4 - N), .bool true]) ?_ rfl ?_
  · simp [results, Try.results31, go_sem, pk, c0, c1, c2, c3, c4]
  have hC : Ch No w w3 := (Ch.no_no (by repeat (first | exact Ch.refl _ _ | assumption | apply Ch.alloc | apply Ch.drew | apply Ch.drewN)) HC4).freshg hch3 (Nat.le_refl _)
  exact ⟨hC, A3, by rw [Nat.sub_sub, Nat.sub_sub], hcut.trans hcut3 (by omega)⟩

end Go.Proofs.Ytaialjpcibjmiaa
