/- The walks of laws.buffers and laws.headsInOrder. No condition. -/
import Derived.Test.YtdpgbekcjegooaaHead
import Derived.Test.YtdpgbekcjegooaaWrN
import Derived.Deep.Cut
namespace Go.Proofs.Ytdpgbekcjegooaa
set_option linter.unusedVariables false
set_option linter.unusedSimpArgs false
open Go.RowKit

def HReads (enc : List Int) (kind num : Int) : Prop :=
  ∀ (rest : List Int) (A : Option Addr) (c : Nat) (w : World), Byt rest → Rd u8 w A (enc ++ rest) → (enc ++ rest).length ≤ c →
    Calls Try.prog 25 #[.slice A (enc ++ rest).length c] w (HOk w A (enc ++ rest) enc.length c kind num)
theorem hreads_arr {n : Int} (h0 : 0 ≤ n) (h1 : n < 4294967296) : HReads (encArr n) 8 n := fun rest A c w hb hr hc => by
  unfold encArr at hr hc ⊢
  split at hr
  · rw [if_pos ‹_›] at hc ⊢
    obtain ⟨bk, off, rfl⟩ := hr.some_
    have := head_arr bk off c (n + 144) rest w hr (hb.cons (by omega) (by omega)) hc (by omega) (by omega)
    rwa [show n + 144 - 144 = n by omega] at this
  · rw [if_neg ‹_›] at hc ⊢
    split at hr
    · rw [if_pos ‹_›] at hc ⊢
      obtain ⟨bk, off, rfl⟩ := hr.some_
      have := head_220 bk off c 220 (be2 n ++ rest) w hr (((byt_be2 h0 (by omega)).append hb).cons (by omega) (by omega)) hc rfl (by simp [be2])
      rwa [take_pre (be2 n) rest 2 rfl, beN_be2] at this
    · rw [if_neg ‹_›] at hc ⊢
      obtain ⟨bk, off, rfl⟩ := hr.some_
      have := head_221 bk off c 221 (be4 n ++ rest) w hr (((byt_be4 h0 (by omega)).append hb).cons (by omega) (by omega)) hc rfl (by simp [be4])
      rwa [take_pre (be4 n) rest 4 rfl, beN_be4] at this
theorem encArr_len (n : Int) : 0 < (encArr n).length ∧ (encArr n).length ≤ 5 := by
  unfold encArr
  split
  · simp
  · split
    · simp [be2]
    · simp [be4]
theorem byt_encArr {n : Int} (h0 : 0 ≤ n) (h1 : n < 4294967296) : Byt (encArr n) := by
  unfold encArr
  split
  · exact Byt.nil.cons (by omega) (by omega)
  · split
    · exact (byt_be2 h0 (by omega)).cons (by omega) (by omega)
    · exact (byt_be4 h0 (by omega)).cons (by omega) (by omega)
theorem flat_len {enc : Int → List Int} {m : Nat} (h : ∀ x, (enc x).length ≤ m) (l : List Int) : (l.flatMap enc).length ≤ m * l.length := by
  induction l with
  | nil => simp
  | cons x l ih =>
    rw [List.flatMap_cons, List.length_append, List.length_cons, Nat.mul_add]
    have := h x
    omega
theorem byt_flat {enc : Int → List Int} {l : List Int} (h : ∀ x ∈ l, Byt (enc x)) : Byt (l.flatMap enc) := by
  induction l with
  | nil => exact Byt.nil
  | cons x l ih => exact (h x (by simp)).append (ih fun y hy => h y (by simp [hy]))
theorem buffers_yes (b : Int) (w : World) (h0 : 18 ≤ b) (h1 : b ≤ 65536) : Calls Try.prog 9 #[.int .i64 b, .int .i64 1] w fun e w' => e = .returned (.bool true) ∧ w = w' := by
  go_enter Try.func9, Try.ntmps9
  go_wp2
  go_ret
  exact ⟨rfl, rfl⟩
theorem buffers_no (b : Int) (w : World) (h : b < 18 ∨ 65536 < b) : Calls Try.prog 9 #[.int .i64 b, .int .i64 1] w fun e w' => e = .returned (.bool false) ∧ w = w' := by
  by_cases h0 : b < 18
  · go_enter Try.func9, Try.ntmps9
    go_wp2
    go_ret
    exact ⟨rfl, rfl⟩
  · have h1 : 65536 < b := by omega
    have h0' : 18 ≤ b := by omega
    clear h
    go_enter Try.func9, Try.ntmps9
    go_wp2
    go_ret
    exact ⟨rfl, rfl⟩
set_option maxHeartbeats 1000000 in
theorem headsIn (A B : Option Addr) (c cb : Nat) (l : List Int) (w : World) (hr : Rd u8 w A (l.flatMap encArr)) (hq : Rd (Value.int .u32) w B l) (hc : (l.flatMap encArr).length ≤ c) (hx : ∀ x ∈ l, 0 ≤ x ∧ x < 4294967296) (hll : l.length ≤ 1048576) :
    Calls Try.prog 12 #[.slice A (l.flatMap encArr).length c, .bool true, .int .i64 8, .slice B l.length cb] w fun e w' => e = .returned (.bool true) ∧ Ch No w w' := by
  go_enter Try.func12, Try.ntmps12
  go_wp2_with fail
  go_loopg [0, 17] l.length (fun k s0 s17 wr => ∃ (i : Nat) (A' : Option Addr) (c' : Nat), k + i = l.length ∧ s17 = .int .i64 i ∧ s0 = .slice A' ((l.drop i).flatMap encArr).length c' ∧ ((l.drop i).flatMap encArr).length ≤ c' ∧ Rd u8 wr A' ((l.drop i).flatMap encArr) ∧ Ch No w wr)
  case atStart => exact ⟨0, A, c, by omega, rfl, rfl, hc, hr, Ch.refl _ _⟩
  case round =>
    obtain ⟨i, A', c', hki, rfl, rfl, hc', hr', hch⟩ := hrel
    clear hr hc
    by_cases hi : i < l.length
    · obtain ⟨b, o, rfl, hcell⟩ := (hq.keep0 hch).at_ i hi
      obtain ⟨hx0, hx1⟩ := hx l[i] (List.getElem_mem hi)
      have hb : Byt ((l.drop (i + 1)).flatMap encArr) := byt_flat fun x h => byt_encArr (hx x (List.mem_of_mem_drop h)).1 (hx x (List.mem_of_mem_drop h)).2
      rw [List.drop_eq_getElem_cons hi, List.flatMap_cons] at hr' hc' ⊢
      have hfin : ∀ (w' : World) (A' : Option Addr) (c' : Nat), Ch No w w' → ((l.drop (i + 1)).flatMap encArr).length ≤ c' → Rd Go.Proofs.Ytdpgbekcjegooaa.u8 w' A' ((l.drop (i + 1)).flatMap encArr) → Hid (∃ (i' : Nat) (A'' : Option Addr) (c'' : Nat), gk - 1 + i' = l.length ∧ Value.int .i64 ((i : Int) + 1) = .int .i64 i' ∧ Value.slice A' ((l.drop (i + 1)).flatMap encArr).length c' = .slice A'' ((l.drop i').flatMap encArr).length c'' ∧ ((l.drop i').flatMap encArr).length ≤ c'' ∧ Rd Go.Proofs.Ytdpgbekcjegooaa.u8 w' A'' ((l.drop i').flatMap encArr) ∧ Ch No w w') := fun _ _ _ h1 h2 h3 => ⟨i + 1, _, _, by omega, by go_num, rfl, h2, h3, h1⟩
      have hgk : gk - 1 < gk := by omega
      generalize (l.drop (i + 1)).flatMap encArr = rest at hr' hc' hb hfin ⊢
      generalize l[i] = x at hr' hc' hcell hx0 hx1 ⊢
      have hi' : (i : Int) < l.length := by omega
      have hi0 : (0 : Int) ≤ i := by omega
      have hx' := hreads_arr hx0 hx1 rest A' c' wr hb hr' hc'
      obtain ⟨m, hm⟩ : ∃ m, (encArr x ++ rest).length = m := ⟨_, rfl⟩
      rw [hm] at hx' hc' ⊢
      have HX := hid hx'
      have HM := hid hm
      have HF := hid hfin
      have HG := hid hgk
      have HC := hid hch
      have HR := hid hr'
      have HL := hid hc'
      clear hx' hm hfin hgk hch hr' hc' hki hi hq hx
      go_upto_region 5 with (first | (go_at_call 25; refine HX.out.mono ?_; rintro e w4 ⟨hch4, A4, rfl, hcut⟩; obtain ⟨j, hj⟩ : ∃ j, (encArr x ++ rest).length - (encArr x).length = j := ⟨_, rfl⟩; rw [hj]; have HJ := hid hj; clear hj; have HK := hid hcut; clear hcut))
      go_wp2_with fail
      go_roundg (gk - 1)
      case measure => exact HG.out
      case rel =>
        have hm := HM.out
        have hl := HL.out
        rw [List.length_append] at hm
        obtain rfl : j = rest.length := by have := HJ.out; rw [List.length_append] at this; omega
        have hrd := HK.out.drop HR.out rfl (by rw [HM.out]; exact hl)
        rw [List.drop_left] at hrd
        exact (HF.out w4 A4 (c' - (encArr x).length) (HC.out.no_no hch4) (by omega) (hrd.keep0 hch4)).out
    · obtain rfl : i = l.length := by omega
      clear hq hx hr'
      rw [List.drop_length] at hc' ⊢
      go_wp2_with fail
      go_ret
      exact ⟨rfl, hch⟩
set_option maxRecDepth 100000 in
set_option maxHeartbeats 1000000 in
theorem lawSArr (b : Int) (A : Option Addr) (c : Nat) (l : List Int) (w : World) (hr : Rd (Value.int .u32) w A l) (hx : ∀ x ∈ l, 0 ≤ x ∧ x < 4294967296) :
    Calls Try.prog 4 #[.int .i64 b, .slice A l.length c] w fun e w' => e = .returned (.bool true) ∧ Ch No w w' := by
  by_cases hbig : 2147483647 < l.length
  · have hg : decide ((2147483647 : Int) < l.length) = true := decide_eq_true (by omega)
    go_enter Try.func4, Try.ntmps4
    go_wp2_with fail
    go_ret
    exact ⟨rfl, Ch.refl _ _⟩
  have hg : decide ((2147483647 : Int) < l.length) = false := decide_eq_false (by omega)
  by_cases hb : 18 ≤ b ∧ b ≤ 65536
  · obtain ⟨hb0, hb1⟩ := hb
    by_cases hm : l.length ≤ 100
    · have hg2 : decide ((100 : Int) < l.length) = false := decide_eq_false (by omega)
      go_enter Try.func4, Try.ntmps4
      go_wp2_with (first | (go_at_call 11; refine (streamPutArrayHead _ 1 [5] 100 100 _ (Row.alloc w [.int .u32 5] _ |>.rd (l := [5]) rfl) rfl (by omega) (by omega) (by simp) (by simp [encArr, be2, be4, be8]) (by simp)).mono ?_; rintro e w1 ⟨v, rfl, ho1, _, hch1⟩; obtain ⟨A1, c1, rfl, _, _⟩ := ho1.slice; obtain ⟨m1, hm1⟩ : ∃ m, (([5] : List Int).flatMap encArr).length = m := ⟨_, rfl⟩; rw [hm1]; have hp1 : 0 < m1 := (by rw [← hm1]; decide); clear hm1 ho1; have hr1 := (hr.keep0 ((Ch.refl No w).alloc _)).keep0 hch1; clear hr))
      go_wp2_with (first | (go_at_call 9; refine (buffers_yes _ _ hb0 hb1).mono ?_; rintro e w' ⟨rfl, rfl⟩))

      have hfl := flat_len (fun x => (encArr_len x).2) l
      go_wp2_with (first | (go_at_call 11; refine (streamPutArrayHead A c l b b.toNat _ hr1 (by omega) (by omega) (by omega) (by omega) (by omega) hx).mono ?_; rintro e w3 ⟨v3, rfl, ho3, _, hch3⟩; obtain ⟨A3, c3, rfl, hle3, _⟩ := ho3.slice; clear hfl; obtain ⟨m3, hm3⟩ : ∃ m, (l.flatMap encArr).length = m := ⟨_, rfl⟩; rw [hm3]; have HM3 := hid hm3; have HL3 := hid hle3; clear hle3 hm3) | (go_at_call 12; have hin := headsIn A3 A c3 c l w3 ho3.rd (hr1.keep0 hch3) HL3.out hx (by omega); rw [HM3.out] at hin; refine hin.mono ?_; rintro e w4 ⟨rfl, hch4⟩))

      go_ret
      exact ⟨rfl, (((Ch.refl No w).alloc _).no_no hch1).no_no (hch3.no_no hch4)⟩
    · have hg2 : decide ((100 : Int) < l.length) = true := decide_eq_true (by omega)
      go_enter Try.func4, Try.ntmps4
      go_wp2_with (first | (go_at_call 11; refine (streamPutArrayHead _ 1 [5] 100 100 _ (Row.alloc w [.int .u32 5] _ |>.rd (l := [5]) rfl) rfl (by omega) (by omega) (by simp) (by simp [encArr, be2, be4, be8]) (by simp)).mono ?_; rintro e w1 ⟨v, rfl, ho1, _, hch1⟩; obtain ⟨A1, c1, rfl, _, _⟩ := ho1.slice; obtain ⟨m1, hm1⟩ : ∃ m, (([5] : List Int).flatMap encArr).length = m := ⟨_, rfl⟩; rw [hm1]; have hp1 : 0 < m1 := (by rw [← hm1]; decide); clear hm1 ho1; have hr1 := (hr.keep0 ((Ch.refl No w).alloc _)).keep0 hch1; clear hr))
      go_wp2_with (first | (go_at_call 9; refine (buffers_yes _ _ hb0 hb1).mono ?_; rintro e w' ⟨rfl, rfl⟩))

      go_ret
      exact ⟨rfl, ((Ch.refl No w).alloc _).no_no hch1⟩
  · go_enter Try.func4, Try.ntmps4
    go_wp2_with (first | (go_at_call 11; refine (streamPutArrayHead _ 1 [5] 100 100 _ (Row.alloc w [.int .u32 5] _ |>.rd (l := [5]) rfl) rfl (by omega) (by omega) (by simp) (by simp [encArr, be2, be4, be8]) (by simp)).mono ?_; rintro e w1 ⟨v, rfl, ho1, _, hch1⟩; obtain ⟨A1, c1, rfl, _, _⟩ := ho1.slice; obtain ⟨m1, hm1⟩ : ∃ m, (([5] : List Int).flatMap encArr).length = m := ⟨_, rfl⟩; rw [hm1]; have hp1 : 0 < m1 := (by rw [← hm1]; decide); clear hm1 ho1; have hr1 := (hr.keep0 ((Ch.refl No w).alloc _)).keep0 hch1; clear hr))
    go_wp2_with (first | (go_at_call 9; refine (buffers_no _ _ (by omega)).mono ?_; rintro e w' ⟨rfl, rfl⟩))

    go_ret
    exact ⟨rfl, ((Ch.refl No w).alloc _).no_no hch1⟩
end Go.Proofs.Ytdpgbekcjegooaa
