/- The walks of the laws: what a Writer writes are the values, in order. No condition. -/
import Derived.Test.YtdpgbekcjegooaaInOrd
namespace Go.Proofs.Ytdpgbekcjegooaa
set_option linter.unusedVariables false
set_option linter.unusedSimpArgs false
open Go.RowKit

theorem reads_encU {n : Int} (h0 : 0 ≤ n) (h1 : n < 18446744073709551616) : Reads (encU n) 3 n ⟨#[]⟩ 0 := by
  unfold encU
  split
  · exact reads_fix h0 (by omega)
  · split
    · exact reads_204 h0 (by omega)
    · split
      · exact reads_205 h0 (by omega)
      · split
        · exact reads_206 h0 (by omega)
        · exact reads_207 h0 h1
theorem byt_encU {n : Int} (h0 : 0 ≤ n) (h1 : n < 18446744073709551616) : Byt (encU n) := by
  unfold encU
  split
  · exact Byt.nil.cons h0 (by omega)
  · split
    · exact (Byt.nil.cons h0 (by omega)).cons (by omega) (by omega)
    · split
      · exact (byt_be2 h0 (by omega)).cons (by omega) (by omega)
      · split
        · exact (byt_be4 h0 (by omega)).cons (by omega) (by omega)
        · exact (byt_be8 h0 h1).cons (by omega) (by omega)
theorem encU_len (n : Int) : (encU n).length ≤ 9 := by
  unfold encU
  split
  · simp
  · split
    · simp
    · split
      · simp [be2]
      · split
        · simp [be4]
        · simp [be8]
theorem encF_len (n : Int) : (encF n).length ≤ 9 := by simp [encF, be8]
set_option maxRecDepth 100000 in
set_option maxHeartbeats 1000000 in
theorem lawFnStreamPutUint8 (b : Int) (A : Option Addr) (c : Nat) (l : List Int) (w : World) (hr : Rd (Value.int .u8) w A l) (hx : ∀ x ∈ l, 0 ≤ x ∧ x < 256) :
    Calls Try.prog 5 #[.int .i64 b, .slice A l.length c] w fun e w' => e = .returned (.bool true) ∧ Ch No w w' := by
  by_cases hbig : 2147483647 < l.length
  · have hg : decide ((2147483647 : Int) < l.length) = true := decide_eq_true (by omega)
    go_enter Try.func5, Try.ntmps5
    go_wp2_with fail
    go_ret
    exact ⟨rfl, Ch.refl _ _⟩
  have hg : decide ((2147483647 : Int) < l.length) = false := decide_eq_false (by omega)
  by_cases hb : 18 ≤ b ∧ b ≤ 65536
  · obtain ⟨hb0, hb1⟩ := hb
    by_cases hm : l.length ≤ 100
    · have hg2 : decide ((100 : Int) < l.length) = false := decide_eq_false (by omega)
      go_enter Try.func5, Try.ntmps5
      go_wp2_with (first | (go_at_call 13; refine (streamPutUint8 _ 1 [5] 100 100 _ (Row.alloc w [.int .u8 5] _ |>.rd (l := [5]) rfl) rfl (by omega) (by omega) (by simp) (by simp [encU, be2, be4, be8]) (by simp)).mono ?_; rintro e w1 ⟨v, rfl, ho1, _, hch1⟩; obtain ⟨A1, c1, rfl, _, _⟩ := ho1.slice; obtain ⟨m1, hm1⟩ : ∃ m, (([5] : List Int).flatMap encU).length = m := ⟨_, rfl⟩; rw [hm1]; have hp1 : 0 < m1 := (by rw [← hm1]; decide); clear hm1 ho1; have hr1 := (hr.keep0 ((Ch.refl No w).alloc _)).keep0 hch1; clear hr))
      go_wp2_with (first | (go_at_call 9; refine (buffers_yes _ _ hb0 hb1).mono ?_; rintro e w' ⟨rfl, rfl⟩))
      go_loopg [8, 38] l.length (fun k s8 s38 wr => ∃ i : Nat, k + i = l.length ∧ s38 = .int .i64 i ∧ OwP wr s8 i ((l.take i).flatMap fun x => pkc (3) (x)) ∧ (∀ b, Blk s8 b → w1.heap.size ≤ b) ∧ Ch No w1 wr)
      case atStart => exact ⟨0, by omega, rfl, OwP.nil _, fun b hb => absurd hb Blk_nil, Ch.refl _ _⟩
      case round =>
        obtain ⟨i, hki, rfl, HO, hfr, hch⟩ := hrel
        by_cases hi : i < l.length
        · obtain ⟨bk, off, rfl, hcell⟩ := (hr1.keep0 hch).at_ i hi
          obtain ⟨hx0, hx1⟩ := hx l[i] (List.getElem_mem hi)
          have hi' : (i : Int) < l.length := by omega
          have hi0 : (0 : Int) ≤ i := by omega
          have HT := hid (List.take_succ_eq_append_getElem hi)
          generalize l[i] = x at hcell hx0 hx1 HT ⊢
          go_wp2_with (first | ((with_reducible refine gate (.call { callee := .builtin .append, args := #[.tmp 42, .tmp 46], argTypes := #[28, 28] }) rfl ?_); refine wp_appendP rfl _ _ rfl _ i _ _ 1 (3) (x) rfl rfl (HO.keep0 ((Ch.refl No wr).alloc _)) (Row.alloc wr (pkc (3) (x)) _) (by omega) ?_; intro v1 w2 ho2 hch2 hat2))
          go_roundg (gk - 1)
          case measure => omega
          case rel =>
            refine ⟨i + 1, by omega, by go_num, by rw [HT.out, List.flatMap_append]; simpa using ho2, fun b hb => ?_, (hch.alloc _).trans hch2 (fun _ h => h) (fun b hb => .inr (hfr b hb))⟩
            rcases hat2 b hb with h | h
            · exact hfr b h
            · exact Nat.le_trans (hch.alloc _).size h
        · obtain rfl : i = l.length := by omega
          rw [List.take_length] at HO
          obtain ⟨B, cb, rfl⟩ := HO.slice
          have hfl := flat_len encU_len l
          have hr2 := hr1.keep0 hch
          clear hfr
          go_wp2_with (first | (go_at_call 13; refine (streamPutUint8 A c l b b.toNat _ hr2 (by omega) (by omega) (by omega) (by omega) (by omega) hx).mono ?_; rintro e w3 ⟨v3, rfl, ho3, _, hch3⟩; obtain ⟨A3, c3, rfl, hle3, _⟩ := ho3.slice; have HFL := hid hfl; clear hfl; obtain ⟨m3, hm3⟩ : ∃ m, (l.flatMap encU).length = m := ⟨_, rfl⟩; rw [hm3]; have HM3 := hid hm3; have HL3 := hid hle3; clear hle3 hm3) | (go_at_call 10; have hin := inOrd encU (fun x => 3) (fun x => x) (fun x => 3) (fun x => x) A3 B c3 cb l w3 ho3.rd (HO.keep0 hch3) HL3.out (by omega) (by have := HFL.out; omega) (fun x h => byt_encU (hx x h).1 (by have := (hx x h).2; omega)) (fun x h => reads_encU (hx x h).1 (by have := (hx x h).2; omega)) (fun x h w => same_plain 3 x 0 ⟨#[]⟩ w rfl); rw [HM3.out] at hin; refine hin.mono ?_; rintro e w4 ⟨rfl, hch4⟩))
          go_ret
          exact ⟨rfl, (((Ch.refl No w).alloc _).no_no hch1).no_no (hch.no_no (hch3.no_no hch4))⟩
    · have hg2 : decide ((100 : Int) < l.length) = true := decide_eq_true (by omega)
      go_enter Try.func5, Try.ntmps5
      go_wp2_with (first | (go_at_call 13; refine (streamPutUint8 _ 1 [5] 100 100 _ (Row.alloc w [.int .u8 5] _ |>.rd (l := [5]) rfl) rfl (by omega) (by omega) (by simp) (by simp [encU, be2, be4, be8]) (by simp)).mono ?_; rintro e w1 ⟨v, rfl, ho1, _, hch1⟩; obtain ⟨A1, c1, rfl, _, _⟩ := ho1.slice; obtain ⟨m1, hm1⟩ : ∃ m, (([5] : List Int).flatMap encU).length = m := ⟨_, rfl⟩; rw [hm1]; have hp1 : 0 < m1 := (by rw [← hm1]; decide); clear hm1 ho1; have hr1 := (hr.keep0 ((Ch.refl No w).alloc _)).keep0 hch1; clear hr))
      go_wp2_with (first | (go_at_call 9; refine (buffers_yes _ _ hb0 hb1).mono ?_; rintro e w' ⟨rfl, rfl⟩))
      go_ret
      exact ⟨rfl, ((Ch.refl No w).alloc _).no_no hch1⟩
  · go_enter Try.func5, Try.ntmps5
    go_wp2_with (first | (go_at_call 13; refine (streamPutUint8 _ 1 [5] 100 100 _ (Row.alloc w [.int .u8 5] _ |>.rd (l := [5]) rfl) rfl (by omega) (by omega) (by simp) (by simp [encU, be2, be4, be8]) (by simp)).mono ?_; rintro e w1 ⟨v, rfl, ho1, _, hch1⟩; obtain ⟨A1, c1, rfl, _, _⟩ := ho1.slice; obtain ⟨m1, hm1⟩ : ∃ m, (([5] : List Int).flatMap encU).length = m := ⟨_, rfl⟩; rw [hm1]; have hp1 : 0 < m1 := (by rw [← hm1]; decide); clear hm1 ho1; have hr1 := (hr.keep0 ((Ch.refl No w).alloc _)).keep0 hch1; clear hr))
    go_wp2_with (first | (go_at_call 9; refine (buffers_no _ _ (by omega)).mono ?_; rintro e w' ⟨rfl, rfl⟩))
    go_ret
    exact ⟨rfl, ((Ch.refl No w).alloc _).no_no hch1⟩

end Go.Proofs.Ytdpgbekcjegooaa
