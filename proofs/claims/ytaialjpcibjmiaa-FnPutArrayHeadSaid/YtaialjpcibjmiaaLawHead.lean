/- The walk of the law: the head of an array, appended to bytes, is one of so many behind them. No condition. -/
import Derived.Test.YtaialjpcibjmiaaHead
import Derived.Test.YtaialjpcibjmiaaLawP
namespace Go.Proofs.Ytaialjpcibjmiaa
set_option linter.unusedVariables false
set_option linter.unusedSimpArgs false
open Go.RowKit

def HReads (enc : List Int) (kind num : Int) : Prop :=
  ∀ (rest : List Int) (A : Option Addr) (c : Nat) (w : World), Byt rest → Rd u8 w A (enc ++ rest) → (enc ++ rest).length ≤ c →
    Calls Try.prog 13 #[.slice A (enc ++ rest).length c] w (HOk w A (enc ++ rest) enc.length c kind num)
def encArr (n : Int) : List Int := if n ≤ 15 then [n + 144] else if n ≤ 65535 then 220 :: be2 n else 221 :: be4 n
theorem hreads_arr {n : Int} (h0 : 0 ≤ n) (h1 : n < 4294967296) : HReads (encArr n) 8 n := fun rest A c w hb hr hc => by
  unfold encArr at hr hc ⊢
  split at hr
  · rw [if_pos ‹_›] at hc ⊢
    obtain ⟨bk, off, rfl⟩ := hr.some_
    have := head_arr bk off c (n + 144) rest w hr (hb.cons (by omega) (by omega)) hc (by omega) (by omega)
    rwa [show n + 144 - 144 = n by omega] at this
  · rw [if_neg ‹_›] at hc ⊢
    split at hr
    · rw [if_pos ‹_›] at hc ⊢
      obtain ⟨bk, off, rfl⟩ := hr.some_
      have := head_220 bk off c 220 (be2 n ++ rest) w hr (((byt_be2 h0 (by omega)).append hb).cons (by omega) (by omega)) hc rfl (by simp [be2])
      rwa [take_pre (be2 n) rest 2 rfl, beN_be2] at this
    · rw [if_neg ‹_›] at hc ⊢
      obtain ⟨bk, off, rfl⟩ := hr.some_
      have := head_221 bk off c 221 (be4 n ++ rest) w hr (((byt_be4 h0 (by omega)).append hb).cons (by omega) (by omega)) hc rfl (by simp [be4])
      rwa [take_pre (be4 n) rest 4 rfl, beN_be4] at this
theorem encArr_len (n : Int) : 0 < (encArr n).length ∧ (encArr n).length ≤ 5 := by
  unfold encArr
  split
  · simp
  · split
    · simp [be2]
    · simp [be4]
theorem appArr (A : Option Addr) (c : Nat) (l : List Int) (n : Int) (w : World) (h : Ow 5 u8 w (.slice A l.length c) l) (hl : l.length ≤ 1099511627776) (h0 : 0 ≤ n) (h1 : n < 4294967296) :
    Calls Try.prog 22 #[.slice A l.length c, .int .u32 n] w (AppTo w (.slice A l.length c) l (encArr n)) := by
  unfold encArr
  split
  · exact appArr_1 A c l n w h hl h0 (by omega)
  · split
    · exact appArr_3 A c l n w h hl (by omega) (by omega)
    · exact appArr_5 A c l n w h hl (by omega) h1
set_option maxHeartbeats 1000000 in
theorem putArr (A : Option Addr) (c : Nat) (l : List Int) (n : Int) (w : World) (hr : Rd u8 w A l) (hl : l.length ≤ 1099511627776) (h0 : 0 ≤ n) (h1 : n < 4294967296) :
    Calls Try.prog 12 #[.slice A l.length c, .int .u32 n] w (PutTo w l (encArr n)) := by
  go_enter Try.func12, Try.ntmps12
  go_wp2_with (first | (go_at_call 17; refine (copied_calls _ _ l _ hr (by omega)).mono ?_; rintro e w1 ⟨v, rfl, ho, hf, hch⟩; obtain ⟨A1, c1, rfl, _, _⟩ := ho.slice) | (go_at_call 22; refine (appArr A1 c1 l n w1 ho hl h0 h1).mono ?_; rintro e w2 happ; obtain ⟨v2, rfl, hrest⟩ := happ; have happ : AppTo w1 _ l (encArr n) (.returned v2) w2 := ⟨v2, rfl, hrest⟩))
  go_ret
  exact put_of hf hch happ

set_option maxRecDepth 100000 in
set_option maxHeartbeats 1000000 in
theorem lawArr (A : Option Addr) (c : Nat) (l : List Int) (n : Int) (w : World) (hr : Rd u8 w A l) (hc : l.length ≤ c) (h0 : 0 ≤ n) (h1 : n < 4294967296) :
    Calls Try.prog 5 #[.slice A l.length c, .int .u32 n] w fun e w' => e = .returned (.bool true) ∧ Ch No w w' := by
  by_cases hbig : 2147483647 < l.length
  · have hg : decide ((2147483647 : Int) < l.length) = true := decide_eq_true (by omega)
    go_enter Try.func5, Try.ntmps5
    go_wp2_with fail
    go_ret
    exact ⟨rfl, Ch.refl _ _⟩
  have hg : decide ((2147483647 : Int) < l.length) = false := decide_eq_false (by omega)
  by_cases hfew : l.length ≤ 200
  · go_enter Try.func5, Try.ntmps5
    go_wp2_with (first | (go_at_call 12; refine (putArr none 0 [] 5 _ (Rd.nil _ _ _) (by simp) (by omega) (by omega)).mono ?_; rintro e w1 ⟨v, rfl, ho1, _, hch1⟩; obtain ⟨A1, c1, rfl, _, _⟩ := ho1.slice; obtain ⟨m1, hm1⟩ : ∃ m, ([] ++ (encArr 5)).length = m := ⟨_, rfl⟩; rw [hm1]; have hp1 : 0 < m1 := (by rw [← hm1]; exact (encArr_len 5).1); clear hm1 ho1; have hr1 := hr.keep0 hch1; clear hr))
    go_wp2_with (first | (go_at_call 9; refine (few_yes _ _ _ _ hfew).mono ?_; rintro e w' ⟨rfl, rfl⟩) | ((with_reducible refine gate (.call { callee := .builtin .append, args := #[.tmp 21, .tmp 22], argTypes := #[22, 22] }) rfl ?_); refine wp_append rfl _ _ 22 5 (.int .u8 0) 1 rfl Try.underlying22 info_u8 rfl (by decide) u8 (fun _ => rfl) _ [] l _ _ _ rfl rfl rfl (Ow.lit 5 u8 _ [] (by simp [maxLen])) (hr1.keep0 ((Ch.refl _ _).alloc _)) (by simp; omega) ?_; intro v2 w2 ho2 hch2 hat2; have hch2 := Ch.fresh ((Ch.refl No w1).alloc (.cells #[] 5)) hch2 (Fr.mk' (Nat.le_refl _)); clear hat2; obtain ⟨A2, c2, rfl, hle2, _⟩ := ho2.slice; simp only [List.nil_append] at ho2) | (go_at_call 12; refine (putArr A2 c2 l n _ ho2.rd (by omega) h0 h1).mono ?_; rintro e w3 ⟨v3, rfl, ho3, _, hch3⟩; obtain ⟨A3, c3, rfl, hle3, _⟩ := ho3.slice; obtain ⟨m3, hm3⟩ : ∃ m, (l ++ encArr n).length = m := ⟨_, rfl⟩; rw [hm3] at ho3 hle3; rw [hm3]; have hm3' : Hid _ := hm3; clear hm3))

    have hml : m3 = l.length + (encArr n).length := by rw [← hm3'.out, List.length_append]
    have hr3 := hr1.keep0 (hch2.no_no hch3)
    have hg1 : decide (m3 < l.length) = false := decide_eq_false (by omega)
    have hg2 : decide ((m3 : Int) < l.length) = false := decide_eq_false (by omega)
    have hcon0 : ∀ nq, (convert 22 9 (.slice A l.length c)).run Try.prog (w3.drewN nq) = .ok (.string (strOfNums l)) (w3.drewN nq) := fun nq => conv_rd hr3 _ ((Ch.refl _ _).drewN _)
    have hcon1 : ∀ nq, (convert 22 9 (.slice A3 l.length c3)).run Try.prog (w3.drewN nq) = .ok (.string (strOfNums l)) (w3.drewN nq) := fun nq => by
      have h := conv_rd (c := c3) (ho3.rd.take l.length) _ ((Ch.refl No w3).drewN nq)
      simpa using h
    obtain ⟨hk1, hk1'⟩ := Cut.ahead_h 22 5 Try.underlying22 size_u8 A3 m3 c3 l.length l.length rfl .i64 (by omega)
    obtain ⟨A', hk2, hk3, hcut⟩ := Cut.ahead_l 22 5 Try.underlying22 size_u8 A3 m3 c3 l.length l.length rfl .i64 (by omega)
    have hrd : Rd u8 w3 A' (encArr n) := by
      have := hcut.drop ho3.rd hm3'.out hle3
      simpa using this
    have he : m3 - l.length = (encArr n).length := by omega
    rw [he] at hk2 hk3
    have htake : ∀ (A : Option Addr) (c : Nat) (w : World), Rd u8 w A (encArr n) → (encArr n).length ≤ c → Calls Try.prog 13 #[.slice A (encArr n).length c] w (HOk w A (encArr n) (encArr n).length c 8 n) := fun A c w hr hc => by
      simpa using hreads_arr h0 h1 [] A c w Byt.nil (by simpa using hr) (by simpa using hc)
    have hlec : (encArr n).length ≤ c3 - l.length := by omega
    clear he hml hcut
    go_quiet (fail)
    go_wp2_with (first | (go_at_call 13; refine (htake _ _ _ (hrd.keep0 (by repeat (first | exact Ch.refl _ _ | assumption | apply Ch.alloc | apply Ch.drew | apply Ch.drewN))) hlec).mono ?_; rintro e w4 ⟨hch4, A4, rfl, _⟩))

    go_ret
    exact ⟨rfl, (hch1.no_no hch2).no_no (hch3.no_no (Ch.no_no (by repeat (first | exact Ch.refl _ _ | apply Ch.drewN | apply Ch.drew)) hch4))⟩
  · go_enter Try.func5, Try.ntmps5
    go_wp2_with (first | (go_at_call 12; refine (putArr none 0 [] 5 _ (Rd.nil _ _ _) (by simp) (by omega) (by omega)).mono ?_; rintro e w1 ⟨v, rfl, ho1, _, hch1⟩; obtain ⟨A1, c1, rfl, _, _⟩ := ho1.slice; obtain ⟨m1, hm1⟩ : ∃ m, ([] ++ (encArr 5)).length = m := ⟨_, rfl⟩; rw [hm1]; have hp1 : 0 < m1 := (by rw [← hm1]; exact (encArr_len 5).1); clear hm1 ho1; have hr1 := hr.keep0 hch1; clear hr))

    go_wp2_with (first | (go_at_call 9; refine (few_no _ _ _ _ (by omega)).mono ?_; rintro e w' ⟨rfl, rfl⟩))
    go_ret
    exact ⟨rfl, hch1⟩
end Go.Proofs.Ytaialjpcibjmiaa
