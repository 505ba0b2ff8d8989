/- The reference's reader of MessagePack at the code of extensions of 16 bytes. No condition. -/
import Derived.Test.YtkbjnkhkjgomcaaDoorCxG
namespace Go.Proofs.YtkbjnkhkjgomcaaDoor
set_option linter.unusedVariables false
set_option linter.unusedSimpArgs false
open Go.RowKit
set_option maxRecDepth 100000 in
set_option maxHeartbeats 2000000 in
theorem coded_216 (A : Option Addr) (c : Nat) (t : Int) (d l : List Int) (lv : Int) (w : World) (hd : d.length = 16) (hr : Rd u8 w A (t :: d ++ l)) (hb : Byt (t :: d ++ l)) (hc : (t :: d ++ l).length ≤ c) (ht : 0 ≤ t) (ht1 : t < 128) (hll : (t :: d ++ l).length ≤ 35184372088832) :
    Calls Tryd.prog 13 #[.int .i64 216, .slice A (t :: d ++ l).length c, .int .i64 lv] w (TOk w A (t :: d ++ l) 17 c 10 0 (strOfNums d) t) := by
  have hR0 : Row ((w.alloc ZP).alloc ZP) w.heap.size 28 ZL := (Row.alloc w ZL 28).keep0 ((Ch.refl _ _).alloc _)
  obtain ⟨L, hL⟩ : ∃ L, t :: d ++ l = L := ⟨_, rfl⟩
  have hM17 : 17 ≤ (t :: d ++ l).length := by rw [List.length_append, List.length_cons, hd]; omega
  have htt : ∀ (A2 : Option Addr) (w' : World), Rd u8 w' A2 L → Calls Tryd.prog 19 #[.int .u64 16, .slice A2 L.length c] w' (fun e w'' => Ch No w' w'' ∧ ∃ A3, e = .returned (.tuple #[pk 10 0 (strOfNums d) t, .slice A3 (L.length - 17) (c - 17), .bool true]) ∧ Cut A2 L.length c 17 L.length A3) := fun A2 w' hr' => by
    subst hL
    exact takeExt_16 A2 c t d l w' hd hr' hc ht ht1 hll
  rw [hL] at hr hb hc hll hM17 ⊢
  clear hL hd
  generalize hS : strOfNums d = S at htt ⊢
  clear hS
  have hz : beN (L.take 0) = 0 := rfl
  go_enter Tryd.func13, Tryd.ntmps13
  go_wp2_with (first | ((with_reducible refine gate (.makeMap 53 none) rfl ?_); refine wp_makeMap rfl _ rfl .i64 ?_; intro wm m hm HM HC) | ((with_reducible refine gate (.insert 53 _ _ _) rfl ?_); refine wp_insert rfl rfl 53 3 3 _ _ _ rfl .i64 Tryd.underlying53 Tryd.underlying3 _ _ _ _ rfl rfl rfl HM (by simp [look]) HC hm ?_; clear HM HC; intro wm HM HC) | ((with_reducible refine gate (.lookup 53 _ _ false) rfl ?_); refine wp_look rfl 53 3 3 _ _ rfl .i64 Tryd.underlying53 Tryd.underlying3 (.int .i64 0) zero_int _ _ _ rfl rfl HM (.int .i64 0) (by first | (simp [look]; done) | (simp [look]; rfl)) ?_; clear HM hm) | (go_at_call 18; refine (takeBig_yes _ _ L 0 _ (hr.keep0 (Ch.no_no (by repeat (first | exact Ch.refl _ _ | assumption | apply Ch.alloc | apply Ch.drew | apply Ch.drewN)) HC)) hb hc (by omega) (by omega) (by omega)).mono ?_; rintro e w2 ⟨A2, rfl, hcut, hch2⟩; simp only [Int.toNat_zero, Nat.sub_zero, hz] at hcut ⊢; have HC2 := Ch.no_no HC hch2; clear HC hch2) | (go_at_call 19; refine (htt A2 _ (hcut.drop (hr.keep0 (Ch.no_no (by repeat (first | exact Ch.refl _ _ | assumption | apply Ch.alloc | apply Ch.drew | apply Ch.drewN)) HC2)) rfl hc)).mono ?_; rintro e w4 ⟨hch4, A3, rfl, hcut3⟩; unfold pk; have HC4 := Ch.no_no HC2 hch4; clear HC2 hch4) | ((with_reducible refine gate (.store 28 (.tmp 6) _) rfl ?_); refine wp_store rfl rfl 28 _ _ rfl _ 0 28 ZL (pk 10 0 S t) rfl rfl [.int .i64 10, .int .u64 0, .string S, .int .i64 t, .slice none 0 0] rfl size_pk (by simp [Value.oneCell']) (hR0.keep0 HC4) (by simp) ?_; intro w3 hrow hch3))
  obtain ⟨c0, c1, c2, c3, c4⟩ := pk_cells hrow
  refine bodyPost_ret (v := .tuple #[pk 10 0 S t, .slice A3 (L.length - 17) (c - 17), .bool true]) ?_ rfl ?_
  · simp [results, Tryd.results13, go_sem, pk, c0, c1, c2, c3, c4]
  have hC : Ch No w w3 := (Ch.no_no (by repeat (first | exact Ch.refl _ _ | assumption | apply Ch.alloc | apply Ch.drew | apply Ch.drewN)) HC4).freshg hch3 (Nat.le_refl _)
  have h := hcut.trans (M := 17) (by simpa using hcut3) (by omega)
  exact ⟨hC, A3, rfl, by simpa using h⟩

theorem reads_cx {re im : Int} (h0 : 0 ≤ re) (h1 : re < 18446744073709551616) (k0 : 0 ≤ im) (k1 : im < 18446744073709551616) : Reads (encC re im) 10 0 (strOfNums (be8 re ++ be8 im)) 4 := by
  refine reads_coded (b := 216) (bs := 4 :: (be8 re ++ be8 im)) (k := 17) (by omega) (by omega) (((byt_be8 h0 h1).append (byt_be8 k0 k1)).cons (by omega) (by omega)) rfl (fun rest lv A c w hr hb hc hll => ?_)
  exact coded_216 A c 4 (be8 re ++ be8 im) rest lv w rfl hr hb hc (by omega) (by omega) hll
end Go.Proofs.YtkbjnkhkjgomcaaDoor
