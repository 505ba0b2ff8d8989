/- The reference's reader over negative numbers of 16, 32 and 64 bits. No condition. -/
import Derived.Test.YtdpgbekcjegooaaLawS
namespace Go.Proofs.Ytdpgbekcjegooaa
set_option linter.unusedVariables false
set_option linter.unusedSimpArgs false
open Go.RowKit

theorem sh_neg8 (U : Int) (h0 : 9223372036854775808 ≤ U) (h1 : U < 18446744073709551616) : wrap64 U = U - 18446744073709551616 := by unfold wrap64; omega
set_option maxRecDepth 100000 in
set_option maxHeartbeats 2000000 in
theorem coded_211 (A : Option Addr) (c : Nat) (l : List Int) (lv : Int) (w : World) (hr : Rd u8 w A l) (hb : Byt l) (hc : l.length ≤ c) (hn : 8 ≤ l.length) (hg : 9223372036854775808 ≤ beN (l.take 8)) (hg1 : beN (l.take 8) < 18446744073709551616) :
    Calls Try.prog 41 #[.int .i64 211, .slice A l.length c, .int .i64 lv] w (TOk w A l 8 c 2 (IntKind.u64.wrap (beN (l.take 8) - 18446744073709551616)) (⟨#[]⟩) (0)) := by
  obtain ⟨hu0, hu1⟩ := beN_lt8 (l := l.take 8) (by rw [List.length_take]; omega) (hb.take 8)
  have hsh := sh_neg8 _ hg hg1

  have hR0 : Row ((w.alloc ZP).alloc ZP) w.heap.size 30 ZL := (Row.alloc w ZL 30).keep0 ((Ch.refl _ _).alloc _)
  go_enter Try.func41, Try.ntmps41
  go_wp2_with (first | ((with_reducible refine gate (.makeMap 100 none) rfl ?_); refine wp_makeMap rfl _ rfl .i64 ?_; intro wm m hm HM HC) | ((with_reducible refine gate (.insert 100 _ _ _) rfl ?_); refine wp_insert rfl rfl 100 3 3 _ _ _ rfl .i64 Try.underlying100 Try.underlying3 _ _ _ _ rfl rfl rfl HM (by simp [look]) HC hm ?_; clear HM HC; intro wm HM HC) | ((with_reducible refine gate (.lookup 100 _ _ false) rfl ?_); refine wp_look rfl 100 3 3 _ _ rfl .i64 Try.underlying100 Try.underlying3 (.int .i64 0) zero_int _ _ _ rfl rfl HM (.int .i64 8) (by first | (simp [look]; done) | (simp [look]; rfl)) ?_; clear HM hm) | (go_at_call 46; refine (takeBig_yes _ _ l _ _ (hr.keep0 (Ch.no_no (by repeat (first | exact Ch.refl _ _ | assumption | apply Ch.alloc | apply Ch.drew | apply Ch.drewN)) HC)) hb hc (by omega) (by omega) (by omega)).mono ?_; rintro e w2 ⟨A2, rfl, hcut, hch2⟩; have HC2 := Ch.no_no HC hch2; clear HC hch2) | ((with_reducible refine gate (.store 30 (.tmp 6) _) rfl ?_); refine wp_store rfl rfl 30 _ _ rfl _ 0 30 ZL (pk 2 (IntKind.u64.wrap (beN (l.take 8) - 18446744073709551616)) (⟨#[]⟩) (0)) rfl rfl [.int .i64 2, .int .u64 (IntKind.u64.wrap (beN (l.take 8) - 18446744073709551616)), .string (⟨#[]⟩), .int .i64 (0), .slice none 0 0] rfl size_pk (by simp [Value.oneCell']) (hR0.keep0 HC2) (by simp) ?_; intro w3 hrow hch3))
  have c0 : w3.cell? ⟨w.heap.size, 0, none⟩ = some (.int .i64 2) := hrow.cell 0 _ rfl
  have c1 : w3.cell? ⟨w.heap.size, 1, none⟩ = some (.int .u64 (IntKind.u64.wrap (beN (l.take 8) - 18446744073709551616))) := hrow.cell 1 _ rfl
  have c2 : w3.cell? ⟨w.heap.size, 2, none⟩ = some (.string (⟨#[]⟩)) := hrow.cell 2 _ rfl
  have c3 : w3.cell? ⟨w.heap.size, 3, none⟩ = some (.int .i64 (0)) := hrow.cell 3 _ rfl
  have c4 : w3.cell? ⟨w.heap.size, 4, none⟩ = some (.slice none 0 0) := hrow.cell 4 _ rfl
  refine bodyPost_ret (v := .tuple #[pk 2 (IntKind.u64.wrap (beN (l.take 8) - 18446744073709551616)) (⟨#[]⟩) (0), .slice A2 (l.length - 8) (c - 8), .bool true]) ?_ rfl ?_
  · simp [results, Try.results41, go_sem, pk, c0, c1, c2, c3, c4]
  have hC : Ch No w w3 := (Ch.no_no (by repeat (first | exact Ch.refl _ _ | assumption | apply Ch.alloc | apply Ch.drew | apply Ch.drewN)) HC2).freshg hch3 (Nat.le_refl _)
  exact ⟨hC, A2, rfl, hcut⟩

end Go.Proofs.Ytdpgbekcjegooaa
