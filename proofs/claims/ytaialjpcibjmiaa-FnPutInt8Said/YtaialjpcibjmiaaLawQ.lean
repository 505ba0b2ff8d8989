/- The laws' walks: a number, appended to bytes, is a value of MessagePack behind them. No condition. -/
import Derived.Test.YtaialjpcibjmiaaLawP
namespace Go.Proofs.Ytaialjpcibjmiaa
set_option linter.unusedVariables false
set_option linter.unusedSimpArgs false
open Go.RowKit

theorem encU_len2 {n : Int} (h : n < 256) : ((encU n).length : Int) ≤ 2 := by
  unfold encU
  split
  · simp
  · rw [if_pos (by omega)]
    simp
theorem wrap_neg {n : Int} (h0 : -128 ≤ n) (h1 : n < 0) : decide (0 ≤ wrap64 (IntKind.u64.wrap n)) = false := by
  simp [IntKind.wrap, IntKind.bits, IntKind.signed, wrap64]
  omega
set_option maxRecDepth 100000 in
set_option maxHeartbeats 1000000 in
theorem lawF64 (A : Option Addr) (c : Nat) (l : List Int) (n : Int) (w : World) (hr : Rd u8 w A l) (hc : l.length ≤ c) (h0 : 0 ≤ n) (h1 : n < 18446744073709551616) :
    Calls Try.prog 3 #[.slice A l.length c, .int .u64 n] w fun e w' => e = .returned (.bool true) ∧ Ch No w w' := by
  by_cases hbig : 2147483647 < l.length
  · have hg : decide ((2147483647 : Int) < l.length) = true := decide_eq_true (by omega)
    go_enter Try.func3, Try.ntmps3
    go_wp2_with fail
    go_ret
    exact ⟨rfl, Ch.refl _ _⟩
  have hg : decide ((2147483647 : Int) < l.length) = false := decide_eq_false (by omega)
  by_cases hfew : l.length ≤ 200
  · skip
    go_enter Try.func3, Try.ntmps3
    go_wp2_with (first | (go_at_call 8; refine (putF64 none 0 [] 7 _ (Rd.nil _ _ _) (by simp) (by omega) (by omega)).mono ?_; rintro e w1 ⟨v, rfl, ho1, _, hch1⟩; obtain ⟨A1, c1, rfl, _, _⟩ := ho1.slice; obtain ⟨m1, hm1⟩ : ∃ m, ([] ++ (203 :: be8 7)).length = m := ⟨_, rfl⟩; rw [hm1]; have hp1 : 0 < m1 := (by rw [← hm1]; exact (by simp [encU, encI8])); clear hm1 ho1; have hr1 := hr.keep0 hch1; clear hr))
    go_wp2_with (first | (go_at_call 9; refine (few_yes _ _ _ _ hfew).mono ?_; rintro e w' ⟨rfl, rfl⟩) | ((with_reducible refine gate (.call { callee := .builtin .append, args := #[.tmp 17, .tmp 18], argTypes := #[22, 22] }) rfl ?_); refine wp_append rfl _ _ 22 5 (.int .u8 0) 1 rfl Try.underlying22 info_u8 rfl (by decide) u8 (fun _ => rfl) _ [] l _ _ _ rfl rfl rfl (Ow.lit 5 u8 _ [] (by simp [maxLen])) (hr1.keep0 ((Ch.refl _ _).alloc _)) (by simp; omega) ?_; intro v2 w2 ho2 hch2 hat2; have hch2 := Ch.fresh ((Ch.refl No w1).alloc (.cells #[] 5)) hch2 (Fr.mk' (Nat.le_refl _)); clear hat2; obtain ⟨A2, c2, rfl, hle2, _⟩ := ho2.slice; simp only [List.nil_append] at ho2) | (go_at_call 8; refine (putF64 A2 c2 l n _ ho2.rd (by omega) h0 h1).mono ?_; rintro e w3 ⟨v3, rfl, ho3, _, hch3⟩; obtain ⟨A3, c3, rfl, hle3, _⟩ := ho3.slice; obtain ⟨m3, hm3⟩ : ∃ m, (l ++ (203 :: be8 n)).length = m := ⟨_, rfl⟩; rw [hm3] at ho3 hle3; rw [hm3]; have hm3' : Hid _ := hm3; clear hm3) | (go_at_call 10; refine (appended_yes A A3 c c3 m3 l (203 :: be8 n) 5 n 0 5 n 0 9 ⟨#[]⟩ ⟨#[]⟩ _ (hr1.keep0 (hch2.no_no hch3)) ho3.rd (by rw [← hm3'.out, List.length_append]) hle3 (by first | (simp [be8]; done) | (have := encU_len n; omega) | (have := encI8_len n; omega)) (.inr ⟨rfl, (by simp [be8])⟩) (fun A c w' hr' hc' => (by simpa using (reads_203 h0 h1) [] 1 A c w' Byt.nil (by omega) (by simpa using hr') (by simpa using hc'))) (fun w' => same_plain 5 n 0 ⟨#[]⟩ w' rfl)).mono ?_; rintro e w4 ⟨rfl, hch4⟩))
    go_ret
    exact ⟨rfl, (hch1.no_no hch2).no_no (hch3.no_no hch4)⟩
  · go_enter Try.func3, Try.ntmps3
    go_wp2_with (first | (go_at_call 8; refine (putF64 none 0 [] 7 _ (Rd.nil _ _ _) (by simp) (by omega) (by omega)).mono ?_; rintro e w1 ⟨v, rfl, ho1, _, hch1⟩; obtain ⟨A1, c1, rfl, _, _⟩ := ho1.slice; obtain ⟨m1, hm1⟩ : ∃ m, ([] ++ (203 :: be8 7)).length = m := ⟨_, rfl⟩; rw [hm1]; have hp1 : 0 < m1 := (by rw [← hm1]; exact (by simp [encU, encI8])); clear hm1 ho1; have hr1 := hr.keep0 hch1; clear hr))
    go_wp2_with (first | (go_at_call 9; refine (few_no _ _ _ _ (by omega)).mono ?_; rintro e w' ⟨rfl, rfl⟩))
    go_ret
    exact ⟨rfl, hch1⟩
set_option maxRecDepth 100000 in
set_option maxHeartbeats 1000000 in
theorem lawU8 (A : Option Addr) (c : Nat) (l : List Int) (n : Int) (w : World) (hr : Rd u8 w A l) (hc : l.length ≤ c) (h0 : 0 ≤ n) (h1 : n < 256) :
    Calls Try.prog 6 #[.slice A l.length c, .int .u8 n] w fun e w' => e = .returned (.bool true) ∧ Ch No w w' := by
  by_cases hbig : 2147483647 < l.length
  · have hg : decide ((2147483647 : Int) < l.length) = true := decide_eq_true (by omega)
    go_enter Try.func6, Try.ntmps6
    go_wp2_with fail
    go_ret
    exact ⟨rfl, Ch.refl _ _⟩
  have hg : decide ((2147483647 : Int) < l.length) = false := decide_eq_false (by omega)
  by_cases hfew : l.length ≤ 200
  · skip
    go_enter Try.func6, Try.ntmps6
    go_wp2_with (first | (go_at_call 14; refine (putU8 none 0 [] 5 _ (Rd.nil _ _ _) (by simp) (by omega) (by omega)).mono ?_; rintro e w1 ⟨v, rfl, ho1, _, hch1⟩; obtain ⟨A1, c1, rfl, _, _⟩ := ho1.slice; obtain ⟨m1, hm1⟩ : ∃ m, ([] ++ (encU 5)).length = m := ⟨_, rfl⟩; rw [hm1]; have hp1 : 0 < m1 := (by rw [← hm1]; exact (by simp [encU, encI8])); clear hm1 ho1; have hr1 := hr.keep0 hch1; clear hr))
    go_wp2_with (first | (go_at_call 9; refine (few_yes _ _ _ _ hfew).mono ?_; rintro e w' ⟨rfl, rfl⟩) | ((with_reducible refine gate (.call { callee := .builtin .append, args := #[.tmp 17, .tmp 18], argTypes := #[22, 22] }) rfl ?_); refine wp_append rfl _ _ 22 5 (.int .u8 0) 1 rfl Try.underlying22 info_u8 rfl (by decide) u8 (fun _ => rfl) _ [] l _ _ _ rfl rfl rfl (Ow.lit 5 u8 _ [] (by simp [maxLen])) (hr1.keep0 ((Ch.refl _ _).alloc _)) (by simp; omega) ?_; intro v2 w2 ho2 hch2 hat2; have hch2 := Ch.fresh ((Ch.refl No w1).alloc (.cells #[] 5)) hch2 (Fr.mk' (Nat.le_refl _)); clear hat2; obtain ⟨A2, c2, rfl, hle2, _⟩ := ho2.slice; simp only [List.nil_append] at ho2) | (go_at_call 14; refine (putU8 A2 c2 l n _ ho2.rd (by omega) h0 h1).mono ?_; rintro e w3 ⟨v3, rfl, ho3, _, hch3⟩; obtain ⟨A3, c3, rfl, hle3, _⟩ := ho3.slice; obtain ⟨m3, hm3⟩ : ∃ m, (l ++ (encU n)).length = m := ⟨_, rfl⟩; rw [hm3] at ho3 hle3; rw [hm3]; have hm3' : Hid _ := hm3; clear hm3) | (go_at_call 10; refine (appended_yes A A3 c c3 m3 l (encU n) 3 n 0 3 n 0 2 ⟨#[]⟩ ⟨#[]⟩ _ (hr1.keep0 (hch2.no_no hch3)) ho3.rd (by rw [← hm3'.out, List.length_append]) hle3 (by first | (simp [be8]; done) | (have := encU_len n; omega) | (have := encI8_len n; omega)) (.inr ⟨rfl, encU_len2 (by omega)⟩) (fun A c w' hr' hc' => (by simpa using (reads_encU h0 (by omega)) [] 1 A c w' Byt.nil (by omega) (by simpa using hr') (by simpa using hc'))) (fun w' => same_plain 3 n 0 ⟨#[]⟩ w' rfl)).mono ?_; rintro e w4 ⟨rfl, hch4⟩))
    go_ret
    exact ⟨rfl, (hch1.no_no hch2).no_no (hch3.no_no hch4)⟩
  · go_enter Try.func6, Try.ntmps6
    go_wp2_with (first | (go_at_call 14; refine (putU8 none 0 [] 5 _ (Rd.nil _ _ _) (by simp) (by omega) (by omega)).mono ?_; rintro e w1 ⟨v, rfl, ho1, _, hch1⟩; obtain ⟨A1, c1, rfl, _, _⟩ := ho1.slice; obtain ⟨m1, hm1⟩ : ∃ m, ([] ++ (encU 5)).length = m := ⟨_, rfl⟩; rw [hm1]; have hp1 : 0 < m1 := (by rw [← hm1]; exact (by simp [encU, encI8])); clear hm1 ho1; have hr1 := hr.keep0 hch1; clear hr))
    go_wp2_with (first | (go_at_call 9; refine (few_no _ _ _ _ (by omega)).mono ?_; rintro e w' ⟨rfl, rfl⟩))
    go_ret
    exact ⟨rfl, hch1⟩
set_option maxRecDepth 100000 in
set_option maxHeartbeats 1000000 in
theorem lawI8p (A : Option Addr) (c : Nat) (l : List Int) (n : Int) (w : World) (hr : Rd u8 w A l) (hc : l.length ≤ c) (h0 : 0 ≤ n) (h1 : n < 128) :
    Calls Try.prog 7 #[.slice A l.length c, .int .i8 n] w fun e w' => e = .returned (.bool true) ∧ Ch No w w' := by
  by_cases hbig : 2147483647 < l.length
  · have hg : decide ((2147483647 : Int) < l.length) = true := decide_eq_true (by omega)
    go_enter Try.func7, Try.ntmps7
    go_wp2_with fail
    go_ret
    exact ⟨rfl, Ch.refl _ _⟩
  have hg : decide ((2147483647 : Int) < l.length) = false := decide_eq_false (by omega)
  by_cases hfew : l.length ≤ 200
  · skip
    go_enter Try.func7, Try.ntmps7
    go_wp2_with (first | (go_at_call 15; refine (putI8 none 0 [] 5 _ (Rd.nil _ _ _) (by simp) (by omega) (by omega)).mono ?_; rintro e w1 ⟨v, rfl, ho1, _, hch1⟩; obtain ⟨A1, c1, rfl, _, _⟩ := ho1.slice; obtain ⟨m1, hm1⟩ : ∃ m, ([] ++ (encI8 5)).length = m := ⟨_, rfl⟩; rw [hm1]; have hp1 : 0 < m1 := (by rw [← hm1]; exact (by simp [encU, encI8])); clear hm1 ho1; have hr1 := hr.keep0 hch1; clear hr))
    go_wp2_with (first | (go_at_call 9; refine (few_yes _ _ _ _ hfew).mono ?_; rintro e w' ⟨rfl, rfl⟩) | ((with_reducible refine gate (.call { callee := .builtin .append, args := #[.tmp 17, .tmp 18], argTypes := #[22, 22] }) rfl ?_); refine wp_append rfl _ _ 22 5 (.int .u8 0) 1 rfl Try.underlying22 info_u8 rfl (by decide) u8 (fun _ => rfl) _ [] l _ _ _ rfl rfl rfl (Ow.lit 5 u8 _ [] (by simp [maxLen])) (hr1.keep0 ((Ch.refl _ _).alloc _)) (by simp; omega) ?_; intro v2 w2 ho2 hch2 hat2; have hch2 := Ch.fresh ((Ch.refl No w1).alloc (.cells #[] 5)) hch2 (Fr.mk' (Nat.le_refl _)); clear hat2; obtain ⟨A2, c2, rfl, hle2, _⟩ := ho2.slice; simp only [List.nil_append] at ho2) | (go_at_call 15; refine (putI8 A2 c2 l n _ ho2.rd (by omega) (by omega) h1).mono ?_; rintro e w3 ⟨v3, rfl, ho3, _, hch3⟩; obtain ⟨A3, c3, rfl, hle3, _⟩ := ho3.slice; obtain ⟨m3, hm3⟩ : ∃ m, (l ++ (encI8 n)).length = m := ⟨_, rfl⟩; rw [hm3] at ho3 hle3; rw [hm3]; have hm3' : Hid _ := hm3; clear hm3) | (go_at_call 10; refine (appended_yes A A3 c c3 m3 l (encI8 n) 2 n 0 3 n 0 2 ⟨#[]⟩ ⟨#[]⟩ _ (hr1.keep0 (hch2.no_no hch3)) ho3.rd (by rw [← hm3'.out, List.length_append]) hle3 (by first | (simp [be8]; done) | (have := encU_len n; omega) | (have := encI8_len n; omega)) (.inr ⟨rfl, (by have := encI8_len n; omega)⟩) (fun A c w' hr' hc' => (by simpa using (reads_encI8p h0 h1) [] 1 A c w' Byt.nil (by omega) (by simpa using hr') (by simpa using hc'))) (fun w' => same_ints n 0 ⟨#[]⟩ w' h0 (by omega))).mono ?_; rintro e w4 ⟨rfl, hch4⟩))
    go_ret
    exact ⟨rfl, (hch1.no_no hch2).no_no (hch3.no_no hch4)⟩
  · go_enter Try.func7, Try.ntmps7
    go_wp2_with (first | (go_at_call 15; refine (putI8 none 0 [] 5 _ (Rd.nil _ _ _) (by simp) (by omega) (by omega)).mono ?_; rintro e w1 ⟨v, rfl, ho1, _, hch1⟩; obtain ⟨A1, c1, rfl, _, _⟩ := ho1.slice; obtain ⟨m1, hm1⟩ : ∃ m, ([] ++ (encI8 5)).length = m := ⟨_, rfl⟩; rw [hm1]; have hp1 : 0 < m1 := (by rw [← hm1]; exact (by simp [encU, encI8])); clear hm1 ho1; have hr1 := hr.keep0 hch1; clear hr))
    go_wp2_with (first | (go_at_call 9; refine (few_no _ _ _ _ (by omega)).mono ?_; rintro e w' ⟨rfl, rfl⟩))
    go_ret
    exact ⟨rfl, hch1⟩
set_option maxRecDepth 100000 in
set_option maxHeartbeats 1000000 in
theorem lawI8n (A : Option Addr) (c : Nat) (l : List Int) (n : Int) (w : World) (hr : Rd u8 w A l) (hc : l.length ≤ c) (h0 : -128 ≤ n) (h1 : n < 0) :
    Calls Try.prog 7 #[.slice A l.length c, .int .i8 n] w fun e w' => e = .returned (.bool true) ∧ Ch No w w' := by
  by_cases hbig : 2147483647 < l.length
  · have hg : decide ((2147483647 : Int) < l.length) = true := decide_eq_true (by omega)
    go_enter Try.func7, Try.ntmps7
    go_wp2_with fail
    go_ret
    exact ⟨rfl, Ch.refl _ _⟩
  have hg : decide ((2147483647 : Int) < l.length) = false := decide_eq_false (by omega)
  by_cases hfew : l.length ≤ 200
  · skip
    go_enter Try.func7, Try.ntmps7
    go_wp2_with (first | (go_at_call 15; refine (putI8 none 0 [] 5 _ (Rd.nil _ _ _) (by simp) (by omega) (by omega)).mono ?_; rintro e w1 ⟨v, rfl, ho1, _, hch1⟩; obtain ⟨A1, c1, rfl, _, _⟩ := ho1.slice; obtain ⟨m1, hm1⟩ : ∃ m, ([] ++ (encI8 5)).length = m := ⟨_, rfl⟩; rw [hm1]; have hp1 : 0 < m1 := (by rw [← hm1]; exact (by simp [encU, encI8])); clear hm1 ho1; have hr1 := hr.keep0 hch1; clear hr))
    go_wp2_with (first | (go_at_call 9; refine (few_yes _ _ _ _ hfew).mono ?_; rintro e w' ⟨rfl, rfl⟩) | ((with_reducible refine gate (.call { callee := .builtin .append, args := #[.tmp 17, .tmp 18], argTypes := #[22, 22] }) rfl ?_); refine wp_append rfl _ _ 22 5 (.int .u8 0) 1 rfl Try.underlying22 info_u8 rfl (by decide) u8 (fun _ => rfl) _ [] l _ _ _ rfl rfl rfl (Ow.lit 5 u8 _ [] (by simp [maxLen])) (hr1.keep0 ((Ch.refl _ _).alloc _)) (by simp; omega) ?_; intro v2 w2 ho2 hch2 hat2; have hch2 := Ch.fresh ((Ch.refl No w1).alloc (.cells #[] 5)) hch2 (Fr.mk' (Nat.le_refl _)); clear hat2; obtain ⟨A2, c2, rfl, hle2, _⟩ := ho2.slice; simp only [List.nil_append] at ho2) | (go_at_call 15; refine (putI8 A2 c2 l n _ ho2.rd (by omega) h0 (by omega)).mono ?_; rintro e w3 ⟨v3, rfl, ho3, _, hch3⟩; obtain ⟨A3, c3, rfl, hle3, _⟩ := ho3.slice; obtain ⟨m3, hm3⟩ : ∃ m, (l ++ (encI8 n)).length = m := ⟨_, rfl⟩; rw [hm3] at ho3 hle3; rw [hm3]; have hm3' : Hid _ := hm3; clear hm3) | (go_at_call 10; refine (appended_yes A A3 c c3 m3 l (encI8 n) 2 (IntKind.u64.wrap n) 0 2 (IntKind.u64.wrap n) 0 2 ⟨#[]⟩ ⟨#[]⟩ _ (hr1.keep0 (hch2.no_no hch3)) ho3.rd (by rw [← hm3'.out, List.length_append]) hle3 (by first | (simp [be8]; done) | (have := encU_len n; omega) | (have := encI8_len n; omega)) (.inr ⟨rfl, (by have := encI8_len n; omega)⟩) (fun A c w' hr' hc' => (by simpa using (reads_encI8n h0 h1) [] 1 A c w' Byt.nil (by omega) (by simpa using hr') (by simpa using hc'))) (fun w' => same_neg (IntKind.u64.wrap n) 0 ⟨#[]⟩ w' (wrap_neg h0 h1))).mono ?_; rintro e w4 ⟨rfl, hch4⟩))
    go_ret
    exact ⟨rfl, (hch1.no_no hch2).no_no (hch3.no_no hch4)⟩
  · go_enter Try.func7, Try.ntmps7
    go_wp2_with (first | (go_at_call 15; refine (putI8 none 0 [] 5 _ (Rd.nil _ _ _) (by simp) (by omega) (by omega)).mono ?_; rintro e w1 ⟨v, rfl, ho1, _, hch1⟩; obtain ⟨A1, c1, rfl, _, _⟩ := ho1.slice; obtain ⟨m1, hm1⟩ : ∃ m, ([] ++ (encI8 5)).length = m := ⟨_, rfl⟩; rw [hm1]; have hp1 : 0 < m1 := (by rw [← hm1]; exact (by simp [encU, encI8])); clear hm1 ho1; have hr1 := hr.keep0 hch1; clear hr))
    go_wp2_with (first | (go_at_call 9; refine (few_no _ _ _ _ (by omega)).mono ?_; rintro e w' ⟨rfl, rfl⟩))
    go_ret
    exact ⟨rfl, hch1⟩

end Go.Proofs.Ytaialjpcibjmiaa
