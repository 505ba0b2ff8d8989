/- The walks of the laws: integers that a Writer writes are the values, in order. No condition. -/
import Derived.Test.YtdpgbekcjegooaaTakeM
namespace Go.Proofs.Ytdpgbekcjegooaa
set_option linter.unusedVariables false
set_option linter.unusedSimpArgs false
open Go.RowKit

theorem reads_209n {n : Int} (h0 : -32768 ≤ n) (h1 : n < 0) : Reads (209 :: be2 (n % 65536)) 2 (IntKind.u64.wrap n) ⟨#[]⟩ 0 := by
  obtain ⟨m, hm, hm0, hm1, hmn⟩ : ∃ m, n % 65536 = m ∧ 32768 ≤ m ∧ m < 65536 ∧ m - 65536 = n := ⟨_, rfl, by omega, by omega, by omega⟩
  rw [hm]
  refine reads_coded (k := 2) (by omega) (by omega) (byt_be2 (by omega) hm1) rfl (fun rest lv A c w hr hb hc _ => ?_)
  have h := coded_209 A c (be2 m ++ rest) lv w hr hb hc (by simp [be2, be4, be8]) (by rw [take_pre (be2 m) rest 2 rfl, beN_be2]; omega) (by rw [take_pre (be2 m) rest 2 rfl, beN_be2]; omega)
  rw [take_pre (be2 m) rest 2 rfl, beN_be2, hmn] at h
  exact h
theorem reads_210n {n : Int} (h0 : -2147483648 ≤ n) (h1 : n < 0) : Reads (210 :: be4 (n % 4294967296)) 2 (IntKind.u64.wrap n) ⟨#[]⟩ 0 := by
  obtain ⟨m, hm, hm0, hm1, hmn⟩ : ∃ m, n % 4294967296 = m ∧ 2147483648 ≤ m ∧ m < 4294967296 ∧ m - 4294967296 = n := ⟨_, rfl, by omega, by omega, by omega⟩
  rw [hm]
  refine reads_coded (k := 4) (by omega) (by omega) (byt_be4 (by omega) hm1) rfl (fun rest lv A c w hr hb hc _ => ?_)
  have h := coded_210 A c (be4 m ++ rest) lv w hr hb hc (by simp [be2, be4, be8]) (by rw [take_pre (be4 m) rest 4 rfl, beN_be4]; omega) (by rw [take_pre (be4 m) rest 4 rfl, beN_be4]; omega)
  rw [take_pre (be4 m) rest 4 rfl, beN_be4, hmn] at h
  exact h
theorem reads_211n {n : Int} (h0 : -9223372036854775808 ≤ n) (h1 : n < 0) : Reads (211 :: be8 (n % 18446744073709551616)) 2 (IntKind.u64.wrap n) ⟨#[]⟩ 0 := by
  obtain ⟨m, hm, hm0, hm1, hmn⟩ : ∃ m, n % 18446744073709551616 = m ∧ 9223372036854775808 ≤ m ∧ m < 18446744073709551616 ∧ m - 18446744073709551616 = n := ⟨_, rfl, by omega, by omega, by omega⟩
  rw [hm]
  refine reads_coded (k := 8) (by omega) (by omega) (byt_be8 (by omega) hm1) rfl (fun rest lv A c w hr hb hc _ => ?_)
  have h := coded_211 A c (be8 m ++ rest) lv w hr hb hc (by simp [be2, be4, be8]) (by rw [take_pre (be8 m) rest 8 rfl, beN_be8]; omega) (by rw [take_pre (be8 m) rest 8 rfl, beN_be8]; omega)
  rw [take_pre (be8 m) rest 8 rfl, beN_be8, hmn] at h
  exact h

def krI (n : Int) : Int := if 0 ≤ n then 3 else 2
theorem reads_encI {n : Int} (h0 : -9223372036854775808 ≤ n) (h1 : n < 9223372036854775808) : Reads (encI n) (krI n) (IntKind.u64.wrap n) ⟨#[]⟩ 0 := by
  unfold encI krI
  by_cases hp : 0 ≤ n
  · have hw : IntKind.u64.wrap n = n := by simp [IntKind.wrap, IntKind.bits, IntKind.signed]; omega
    rw [if_pos hp, if_pos hp, hw]
    split
    · exact reads_fix hp (by omega)
    · split
      · exact reads_209 hp (by omega)
      · split
        · exact reads_210 hp (by omega)
        · exact reads_211 hp (by omega)
  · rw [if_neg hp, if_neg hp]
    split
    · have := reads_neg (b := n + 256) (by omega) (by omega)
      rwa [show n + 256 - 256 = n by omega] at this
    · split
      · exact reads_208n (by omega) (by omega)
      · split
        · exact reads_209n (by omega) (by omega)
        · split
          · exact reads_210n (by omega) (by omega)
          · exact reads_211n (by omega) (by omega)
theorem byt_encI {n : Int} (h0 : -9223372036854775808 ≤ n) (h1 : n < 9223372036854775808) : Byt (encI n) := by
  unfold encI
  split
  · split
    · exact Byt.nil.cons (by omega) (by omega)
    · split
      · exact (byt_be2 (by omega) (by omega)).cons (by omega) (by omega)
      · split
        · exact (byt_be4 (by omega) (by omega)).cons (by omega) (by omega)
        · exact (byt_be8 (by omega) (by omega)).cons (by omega) (by omega)
  · split
    · exact Byt.nil.cons (by omega) (by omega)
    · split
      · exact (Byt.nil.cons (by omega) (by omega)).cons (by omega) (by omega)
      · split
        · exact (byt_be2 (by omega) (by omega)).cons (by omega) (by omega)
        · split
          · exact (byt_be4 (by omega) (by omega)).cons (by omega) (by omega)
          · exact (byt_be8 (by omega) (by omega)).cons (by omega) (by omega)
theorem encI_len (n : Int) : (encI n).length ≤ 9 := by
  unfold encI
  repeat' split
  all_goals simp [be2, be4, be8]
theorem same_encI {n : Int} (h0 : -9223372036854775808 ≤ n) (h1 : n < 9223372036854775808) (w : World) :
    Calls Try.prog 21 #[pk 2 (IntKind.u64.wrap n) ⟨#[]⟩ 0, pk (krI n) (IntKind.u64.wrap n) ⟨#[]⟩ 0] w fun e w' => e = .returned (.bool true) ∧ Ch No w w' := by
  unfold krI
  by_cases hp : 0 ≤ n
  · have hw : IntKind.u64.wrap n = n := by simp [IntKind.wrap, IntKind.bits, IntKind.signed]; omega
    rw [if_pos hp, hw]
    exact same_ints n 0 ⟨#[]⟩ w hp h1
  · rw [if_neg hp]
    refine same_neg (IntKind.u64.wrap n) 0 ⟨#[]⟩ w ?_
    simp [IntKind.wrap, IntKind.bits, IntKind.signed, wrap64]
    omega
set_option maxRecDepth 100000 in
set_option maxHeartbeats 1000000 in
theorem lawFnStreamPutInt8 (b : Int) (A : Option Addr) (c : Nat) (l : List Int) (w : World) (hr : Rd (Value.int .i8) w A l) (hx : ∀ x ∈ l, -128 ≤ x ∧ x < 128) :
    Calls Try.prog 6 #[.int .i64 b, .slice A l.length c] w fun e w' => e = .returned (.bool true) ∧ Ch No w w' := by
  by_cases hbig : 2147483647 < l.length
  · have hg : decide ((2147483647 : Int) < l.length) = true := decide_eq_true (by omega)
    go_enter Try.func6, Try.ntmps6
    go_wp2_with fail
    go_ret
    exact ⟨rfl, Ch.refl _ _⟩
  have hg : decide ((2147483647 : Int) < l.length) = false := decide_eq_false (by omega)
  by_cases hb : 18 ≤ b ∧ b ≤ 65536
  · obtain ⟨hb0, hb1⟩ := hb
    by_cases hm : l.length ≤ 100
    · have hg2 : decide ((100 : Int) < l.length) = false := decide_eq_false (by omega)
      go_enter Try.func6, Try.ntmps6
      go_wp2_with (first | (go_at_call 14; refine (streamPutInt8 _ 1 [5] 100 100 _ (Row.alloc w [.int .i8 5] _ |>.rd (l := [5]) rfl) rfl (by omega) (by omega) (by simp) (by simp [encI, be2, be4, be8]) (by simp)).mono ?_; rintro e w1 ⟨v, rfl, ho1, _, hch1⟩; obtain ⟨A1, c1, rfl, _, _⟩ := ho1.slice; obtain ⟨m1, hm1⟩ : ∃ m, (([5] : List Int).flatMap encI).length = m := ⟨_, rfl⟩; rw [hm1]; have hp1 : 0 < m1 := (by rw [← hm1]; decide); clear hm1 ho1; have hr1 := (hr.keep0 ((Ch.refl No w).alloc _)).keep0 hch1; clear hr))
      go_wp2_with (first | (go_at_call 9; refine (buffers_yes _ _ hb0 hb1).mono ?_; rintro e w' ⟨rfl, rfl⟩))
      go_loopg [8, 38] l.length (fun k s8 s38 wr => ∃ i : Nat, k + i = l.length ∧ s38 = .int .i64 i ∧ OwP wr s8 i ((l.take i).flatMap fun x => pkc (2) (IntKind.u64.wrap x)) ∧ (∀ b, Blk s8 b → w1.heap.size ≤ b) ∧ Ch No w1 wr)
      case atStart => exact ⟨0, by omega, rfl, OwP.nil _, fun b hb => absurd hb Blk_nil, Ch.refl _ _⟩
      case round =>
        obtain ⟨i, hki, rfl, HO, hfr, hch⟩ := hrel
        by_cases hi : i < l.length
        · obtain ⟨bk, off, rfl, hcell⟩ := (hr1.keep0 hch).at_ i hi
          obtain ⟨hx0, hx1⟩ := hx l[i] (List.getElem_mem hi)
          have hi' : (i : Int) < l.length := by omega
          have hi0 : (0 : Int) ≤ i := by omega
          have HT := hid (List.take_succ_eq_append_getElem hi)
          generalize l[i] = x at hcell hx0 hx1 HT ⊢
          go_wp2_with (first | ((with_reducible refine gate (.call { callee := .builtin .append, args := #[.tmp 42, .tmp 47], argTypes := #[28, 28] }) rfl ?_); refine wp_appendP rfl _ _ rfl _ i _ _ 1 (2) (IntKind.u64.wrap x) rfl rfl (HO.keep0 ((Ch.refl No wr).alloc _)) (Row.alloc wr (pkc (2) (IntKind.u64.wrap x)) _) (by omega) ?_; intro v1 w2 ho2 hch2 hat2))
          go_roundg (gk - 1)
          case measure => omega
          case rel =>
            refine ⟨i + 1, by omega, by go_num, by rw [HT.out, List.flatMap_append]; simpa using ho2, fun b hb => ?_, (hch.alloc _).trans hch2 (fun _ h => h) (fun b hb => .inr (hfr b hb))⟩
            rcases hat2 b hb with h | h
            · exact hfr b h
            · exact Nat.le_trans (hch.alloc _).size h
        · obtain rfl : i = l.length := by omega
          rw [List.take_length] at HO
          obtain ⟨B, cb, rfl⟩ := HO.slice
          have hfl := flat_len encI_len l
          have hr2 := hr1.keep0 hch
          clear hfr
          go_wp2_with (first | (go_at_call 14; refine (streamPutInt8 A c l b b.toNat _ hr2 (by omega) (by omega) (by omega) (by omega) (by omega) hx).mono ?_; rintro e w3 ⟨v3, rfl, ho3, _, hch3⟩; obtain ⟨A3, c3, rfl, hle3, _⟩ := ho3.slice; have HFL := hid hfl; clear hfl; obtain ⟨m3, hm3⟩ : ∃ m, (l.flatMap encI).length = m := ⟨_, rfl⟩; rw [hm3]; have HM3 := hid hm3; have HL3 := hid hle3; clear hle3 hm3) | (go_at_call 10; have hin := inOrd encI (fun x => 2) (fun x => IntKind.u64.wrap x) (fun x => krI x) (fun x => IntKind.u64.wrap x) A3 B c3 cb l w3 ho3.rd (HO.keep0 hch3) HL3.out (by omega) (by have := HFL.out; omega) (fun x h => byt_encI (by have := (hx x h).1; omega) (by have := (hx x h).2; omega)) (fun x h => reads_encI (by have := (hx x h).1; omega) (by have := (hx x h).2; omega)) (fun x h w => same_encI (by have := (hx x h).1; omega) (by have := (hx x h).2; omega) w); rw [HM3.out] at hin; refine hin.mono ?_; rintro e w4 ⟨rfl, hch4⟩))
          go_ret
          exact ⟨rfl, (((Ch.refl No w).alloc _).no_no hch1).no_no (hch.no_no (hch3.no_no hch4))⟩
    · have hg2 : decide ((100 : Int) < l.length) = true := decide_eq_true (by omega)
      go_enter Try.func6, Try.ntmps6
      go_wp2_with (first | (go_at_call 14; refine (streamPutInt8 _ 1 [5] 100 100 _ (Row.alloc w [.int .i8 5] _ |>.rd (l := [5]) rfl) rfl (by omega) (by omega) (by simp) (by simp [encI, be2, be4, be8]) (by simp)).mono ?_; rintro e w1 ⟨v, rfl, ho1, _, hch1⟩; obtain ⟨A1, c1, rfl, _, _⟩ := ho1.slice; obtain ⟨m1, hm1⟩ : ∃ m, (([5] : List Int).flatMap encI).length = m := ⟨_, rfl⟩; rw [hm1]; have hp1 : 0 < m1 := (by rw [← hm1]; decide); clear hm1 ho1; have hr1 := (hr.keep0 ((Ch.refl No w).alloc _)).keep0 hch1; clear hr))
      go_wp2_with (first | (go_at_call 9; refine (buffers_yes _ _ hb0 hb1).mono ?_; rintro e w' ⟨rfl, rfl⟩))
      go_ret
      exact ⟨rfl, ((Ch.refl No w).alloc _).no_no hch1⟩
  · go_enter Try.func6, Try.ntmps6
    go_wp2_with (first | (go_at_call 14; refine (streamPutInt8 _ 1 [5] 100 100 _ (Row.alloc w [.int .i8 5] _ |>.rd (l := [5]) rfl) rfl (by omega) (by omega) (by simp) (by simp [encI, be2, be4, be8]) (by simp)).mono ?_; rintro e w1 ⟨v, rfl, ho1, _, hch1⟩; obtain ⟨A1, c1, rfl, _, _⟩ := ho1.slice; obtain ⟨m1, hm1⟩ : ∃ m, (([5] : List Int).flatMap encI).length = m := ⟨_, rfl⟩; rw [hm1]; have hp1 : 0 < m1 := (by rw [← hm1]; decide); clear hm1 ho1; have hr1 := (hr.keep0 ((Ch.refl No w).alloc _)).keep0 hch1; clear hr))
    go_wp2_with (first | (go_at_call 9; refine (buffers_no _ _ (by omega)).mono ?_; rintro e w' ⟨rfl, rfl⟩))
    go_ret
    exact ⟨rfl, ((Ch.refl No w).alloc _).no_no hch1⟩
set_option maxRecDepth 100000 in
set_option maxHeartbeats 1000000 in
theorem lawFnStreamPutDuration (b : Int) (A : Option Addr) (c : Nat) (l : List Int) (w : World) (hr : Rd (Value.int .i64) w A l) (hx : ∀ x ∈ l, -9223372036854775808 ≤ x ∧ x < 9223372036854775808) :
    Calls Try.prog 7 #[.int .i64 b, .slice A l.length c] w fun e w' => e = .returned (.bool true) ∧ Ch No w w' := by
  by_cases hbig : 2147483647 < l.length
  · have hg : decide ((2147483647 : Int) < l.length) = true := decide_eq_true (by omega)
    go_enter Try.func7, Try.ntmps7
    go_wp2_with fail
    go_ret
    exact ⟨rfl, Ch.refl _ _⟩
  have hg : decide ((2147483647 : Int) < l.length) = false := decide_eq_false (by omega)
  by_cases hb : 18 ≤ b ∧ b ≤ 65536
  · obtain ⟨hb0, hb1⟩ := hb
    by_cases hm : l.length ≤ 100
    · have hg2 : decide ((100 : Int) < l.length) = false := decide_eq_false (by omega)
      go_enter Try.func7, Try.ntmps7
      go_wp2_with (first | (go_at_call 15; refine (streamPutDuration _ 1 [5] 100 100 _ (Row.alloc w [.int .i64 5] _ |>.rd (l := [5]) rfl) rfl (by omega) (by omega) (by simp) (by simp [encI, be2, be4, be8]) (by simp)).mono ?_; rintro e w1 ⟨v, rfl, ho1, _, hch1⟩; obtain ⟨A1, c1, rfl, _, _⟩ := ho1.slice; obtain ⟨m1, hm1⟩ : ∃ m, (([5] : List Int).flatMap encI).length = m := ⟨_, rfl⟩; rw [hm1]; have hp1 : 0 < m1 := (by rw [← hm1]; decide); clear hm1 ho1; have hr1 := (hr.keep0 ((Ch.refl No w).alloc _)).keep0 hch1; clear hr))
      go_wp2_with (first | (go_at_call 9; refine (buffers_yes _ _ hb0 hb1).mono ?_; rintro e w' ⟨rfl, rfl⟩))
      go_loopg [8, 38] l.length (fun k s8 s38 wr => ∃ i : Nat, k + i = l.length ∧ s38 = .int .i64 i ∧ OwP wr s8 i ((l.take i).flatMap fun x => pkc (2) (IntKind.u64.wrap x)) ∧ (∀ b, Blk s8 b → w1.heap.size ≤ b) ∧ Ch No w1 wr)
      case atStart => exact ⟨0, by omega, rfl, OwP.nil _, fun b hb => absurd hb Blk_nil, Ch.refl _ _⟩
      case round =>
        obtain ⟨i, hki, rfl, HO, hfr, hch⟩ := hrel
        by_cases hi : i < l.length
        · obtain ⟨bk, off, rfl, hcell⟩ := (hr1.keep0 hch).at_ i hi
          obtain ⟨hx0, hx1⟩ := hx l[i] (List.getElem_mem hi)
          have hi' : (i : Int) < l.length := by omega
          have hi0 : (0 : Int) ≤ i := by omega
          have HT := hid (List.take_succ_eq_append_getElem hi)
          generalize l[i] = x at hcell hx0 hx1 HT ⊢
          go_wp2_with (first | ((with_reducible refine gate (.call { callee := .builtin .append, args := #[.tmp 42, .tmp 46], argTypes := #[28, 28] }) rfl ?_); refine wp_appendP rfl _ _ rfl _ i _ _ 1 (2) (IntKind.u64.wrap x) rfl rfl (HO.keep0 ((Ch.refl No wr).alloc _)) (Row.alloc wr (pkc (2) (IntKind.u64.wrap x)) _) (by omega) ?_; intro v1 w2 ho2 hch2 hat2))
          go_roundg (gk - 1)
          case measure => omega
          case rel =>
            refine ⟨i + 1, by omega, by go_num, by rw [HT.out, List.flatMap_append]; simpa using ho2, fun b hb => ?_, (hch.alloc _).trans hch2 (fun _ h => h) (fun b hb => .inr (hfr b hb))⟩
            rcases hat2 b hb with h | h
            · exact hfr b h
            · exact Nat.le_trans (hch.alloc _).size h
        · obtain rfl : i = l.length := by omega
          rw [List.take_length] at HO
          obtain ⟨B, cb, rfl⟩ := HO.slice
          have hfl := flat_len encI_len l
          have hr2 := hr1.keep0 hch
          clear hfr
          go_wp2_with (first | (go_at_call 15; refine (streamPutDuration A c l b b.toNat _ hr2 (by omega) (by omega) (by omega) (by omega) (by omega) hx).mono ?_; rintro e w3 ⟨v3, rfl, ho3, _, hch3⟩; obtain ⟨A3, c3, rfl, hle3, _⟩ := ho3.slice; have HFL := hid hfl; clear hfl; obtain ⟨m3, hm3⟩ : ∃ m, (l.flatMap encI).length = m := ⟨_, rfl⟩; rw [hm3]; have HM3 := hid hm3; have HL3 := hid hle3; clear hle3 hm3) | (go_at_call 10; have hin := inOrd encI (fun x => 2) (fun x => IntKind.u64.wrap x) (fun x => krI x) (fun x => IntKind.u64.wrap x) A3 B c3 cb l w3 ho3.rd (HO.keep0 hch3) HL3.out (by omega) (by have := HFL.out; omega) (fun x h => byt_encI (hx x h).1 (hx x h).2) (fun x h => reads_encI (hx x h).1 (hx x h).2) (fun x h w => same_encI (hx x h).1 (hx x h).2 w); rw [HM3.out] at hin; refine hin.mono ?_; rintro e w4 ⟨rfl, hch4⟩))
          go_ret
          exact ⟨rfl, (((Ch.refl No w).alloc _).no_no hch1).no_no (hch.no_no (hch3.no_no hch4))⟩
    · have hg2 : decide ((100 : Int) < l.length) = true := decide_eq_true (by omega)
      go_enter Try.func7, Try.ntmps7
      go_wp2_with (first | (go_at_call 15; refine (streamPutDuration _ 1 [5] 100 100 _ (Row.alloc w [.int .i64 5] _ |>.rd (l := [5]) rfl) rfl (by omega) (by omega) (by simp) (by simp [encI, be2, be4, be8]) (by simp)).mono ?_; rintro e w1 ⟨v, rfl, ho1, _, hch1⟩; obtain ⟨A1, c1, rfl, _, _⟩ := ho1.slice; obtain ⟨m1, hm1⟩ : ∃ m, (([5] : List Int).flatMap encI).length = m := ⟨_, rfl⟩; rw [hm1]; have hp1 : 0 < m1 := (by rw [← hm1]; decide); clear hm1 ho1; have hr1 := (hr.keep0 ((Ch.refl No w).alloc _)).keep0 hch1; clear hr))
      go_wp2_with (first | (go_at_call 9; refine (buffers_yes _ _ hb0 hb1).mono ?_; rintro e w' ⟨rfl, rfl⟩))
      go_ret
      exact ⟨rfl, ((Ch.refl No w).alloc _).no_no hch1⟩
  · go_enter Try.func7, Try.ntmps7
    go_wp2_with (first | (go_at_call 15; refine (streamPutDuration _ 1 [5] 100 100 _ (Row.alloc w [.int .i64 5] _ |>.rd (l := [5]) rfl) rfl (by omega) (by omega) (by simp) (by simp [encI, be2, be4, be8]) (by simp)).mono ?_; rintro e w1 ⟨v, rfl, ho1, _, hch1⟩; obtain ⟨A1, c1, rfl, _, _⟩ := ho1.slice; obtain ⟨m1, hm1⟩ : ∃ m, (([5] : List Int).flatMap encI).length = m := ⟨_, rfl⟩; rw [hm1]; have hp1 : 0 < m1 := (by rw [← hm1]; decide); clear hm1 ho1; have hr1 := (hr.keep0 ((Ch.refl No w).alloc _)).keep0 hch1; clear hr))
    go_wp2_with (first | (go_at_call 9; refine (buffers_no _ _ (by omega)).mono ?_; rintro e w' ⟨rfl, rfl⟩))
    go_ret
    exact ⟨rfl, ((Ch.refl No w).alloc _).no_no hch1⟩

end Go.Proofs.Ytdpgbekcjegooaa
