/- The walk of the law: bytes for whose head two bytes were left are bytes behind what was there. No condition. -/
import Derived.Test.YtaialjpcibjmiaaBehind
import Derived.Deep.RegionLaw
namespace Go.Proofs.Ytaialjpcibjmiaa
set_option linter.unusedVariables false
set_option linter.unusedSimpArgs false
open Go.RowKit

theorem enc1_len : (([] : List Int) ++ encBin [1]).length = 3 := by simp [encBin, binHead]
set_option maxRecDepth 100000 in
set_option maxHeartbeats 2000000 in
theorem lawBehind (A D : Option Addr) (c cd : Nat) (l d : List Int) (w : World) (hr : Rd u8 w A l) (hd : Rd u8 w D d) (hb : Byt d) (hc : l.length ≤ c) (hcd : d.length ≤ cd) :
    Calls Try.prog 4 #[.slice A l.length c, .slice D d.length cd] w fun e w' => e = .returned (.bool true) ∧ Ch No w w' := by
  by_cases hbig : 2147483647 < l.length
  · have hg : decide ((2147483647 : Int) < l.length) = true := decide_eq_true (by omega)
    go_enter Try.func4, Try.ntmps4
    go_wp2_with fail
    go_ret
    exact ⟨rfl, Ch.refl _ _⟩
  have hg : decide ((2147483647 : Int) < l.length) = false := decide_eq_false (by omega)
  by_cases hbigd : 2147483647 < d.length
  · have hgd : decide ((2147483647 : Int) < d.length) = true := decide_eq_true (by omega)
    go_enter Try.func4, Try.ntmps4
    go_wp2_with fail
    go_ret
    exact ⟨rfl, Ch.refl _ _⟩
  have hgd : decide ((2147483647 : Int) < d.length) = false := decide_eq_false (by omega)
  by_cases hfew : l.length ≤ 200
  · by_cases hfd : d.length ≤ 131072
    · have hgf : decide ((131072 : Int) < d.length) = false := decide_eq_false (by omega)
      go_enter Try.func4, Try.ntmps4
      go_wp2_with (first | (go_at_call 11; refine (putBehind none (some ⟨w.heap.size, 0, none⟩) 0 1 [] [1] _ (Rd.nil _ _ _) ((Row.alloc w (List.map u8 [1]) 5).rd (l := [1]) rfl) (by simp) (by simp)).mono ?_; rintro e w1 ⟨v, rfl, ho1, -, hch1'⟩; obtain ⟨A1, c1, hv1, -, -⟩ := ho1.slice; rw [enc1_len] at hv1; subst hv1; clear ho1; have hch1 := Ch.no_no ((Ch.refl No w).alloc (.cells #[.int .u8 1] 5)) hch1'; clear hch1'; have hr1 := hr.keep0 hch1; have hd1 := hd.keep0 hch1; clear hr hd))
      go_wp2_with (first | (go_at_call 9; refine (few_yes _ _ _ _ hfew).mono ?_; rintro e w' ⟨rfl, rfl⟩))
      have hcvA := conv_rd (c := cd) hd1 w1.drew (Ch.refl _ _).drew
      have hcvB := conv_rd (c := cd) hd1 ((w1.alloc (.cells #[] 5)).drew) ((Ch.refl _ _).alloc _).drew
      have henc : (encBin d).length ≤ 1099511627776 := by have := binHead_len d.length; simp [encBin]; omega
      have htake : ∀ (A : Option Addr) (c : Nat) (w' : World), Rd u8 w' A (encBin d) → (encBin d).length ≤ c → Calls Try.prog 19 #[.slice A (encBin d).length c, .int .i64 1] w' (TOk w' A (encBin d) (encBin d).length c 7 0 (strOfNums d) 0) := fun A c w' hr' hc' => by
        simpa using reads_bin hb (by omega) [] 1 A c w' Byt.nil (by omega) (by simpa using hr') (by simpa using hc') (by simpa using (by omega))
      go_region_law (first | (refine step_append rfl _ _ 22 5 (.int .u8 0) 1 rfl Try.underlying22 info_u8 rfl (by decide) u8 (fun _ => rfl) _ [] l _ _ _ rfl rfl rfl ((Ow.lit 5 u8 w1 [] (by simp [maxLen])).keep0 (Ch.refl _ _).drew) (hr1.keep0 ((Ch.refl _ _).alloc _).drew) (by simp; omega) ?_; intro v2 w2 ho2 hch2' hat2; have hch2 := Ch.fresh ((Ch.refl No w1).alloc (.cells #[] 5)).drew hch2' (Fr.mk' (Nat.le_refl _)); clear hat2 hch2'; obtain ⟨A2, c2, rfl, hle2, -⟩ := ho2.slice; simp only [List.nil_append] at ho2 hle2; have hcvC := conv_rd (c := cd) (hd1.keep0 hch2) w2 (Ch.refl _ _)) | (go_simp; go_at_call 11; refine (putBehind A2 D c2 cd l d w2 ho2.rd (hd1.keep0 hch2) (by omega) (by omega)).mono ?_; rintro e w3 ⟨v3, rfl, ho3, -, hch3⟩; obtain ⟨A3, c3, rfl, hle3, -⟩ := ho3.slice; obtain ⟨m3, hm3⟩ : ∃ m, (l ++ encBin d).length = m := ⟨_, rfl⟩; rw [hm3] at ho3 hle3; rw [hm3]; have hm3' : Hid _ := hm3; clear hm3; have hcvD := conv_rd (c := cd) (hd1.keep0 (hch2.no_no hch3)) w3 (Ch.refl _ _)) | (go_simp; go_at_call 10; refine (appended_yes A A3 c c3 m3 l (encBin d) 7 0 0 7 0 0 _ (strOfNums d) (strOfNums d) w3 (hr1.keep0 (hch2.no_no hch3)) ho3.rd (by rw [← hm3'.out, List.length_append]) hle3 henc (.inl rfl) htake (fun w' => same_plain 7 0 0 (strOfNums d) w' rfl)).mono ?_; rintro e w4 ⟨rfl, hch4⟩))
      all_goals
        go_wp2
        go_ret
        exact ⟨rfl, (hch1.no_no hch2).no_no (hch3.no_no hch4)⟩
    · have hgf : decide ((131072 : Int) < d.length) = true := decide_eq_true (by omega)
      go_enter Try.func4, Try.ntmps4
      go_wp2_with (first | (go_at_call 11; refine (putBehind none (some ⟨w.heap.size, 0, none⟩) 0 1 [] [1] _ (Rd.nil _ _ _) ((Row.alloc w (List.map u8 [1]) 5).rd (l := [1]) rfl) (by simp) (by simp)).mono ?_; rintro e w1 ⟨v, rfl, ho1, -, hch1'⟩; obtain ⟨A1, c1, hv1, -, -⟩ := ho1.slice; rw [enc1_len] at hv1; subst hv1; clear ho1; have hch1 := Ch.no_no ((Ch.refl No w).alloc (.cells #[.int .u8 1] 5)) hch1'; clear hch1'; have hr1 := hr.keep0 hch1; have hd1 := hd.keep0 hch1; clear hr hd))
      go_wp2_with (first | (go_at_call 9; refine (few_yes _ _ _ _ hfew).mono ?_; rintro e w' ⟨rfl, rfl⟩))
      go_ret
      exact ⟨rfl, hch1⟩
  · go_enter Try.func4, Try.ntmps4
    go_wp2_with (first | (go_at_call 11; refine (putBehind none (some ⟨w.heap.size, 0, none⟩) 0 1 [] [1] _ (Rd.nil _ _ _) ((Row.alloc w (List.map u8 [1]) 5).rd (l := [1]) rfl) (by simp) (by simp)).mono ?_; rintro e w1 ⟨v, rfl, ho1, -, hch1'⟩; obtain ⟨A1, c1, hv1, -, -⟩ := ho1.slice; rw [enc1_len] at hv1; subst hv1; clear ho1; have hch1 := Ch.no_no ((Ch.refl No w).alloc (.cells #[.int .u8 1] 5)) hch1'; clear hch1'; have hr1 := hr.keep0 hch1; have hd1 := hd.keep0 hch1; clear hr hd))
    go_wp2_with (first | (go_at_call 9; refine (few_no _ _ _ _ (by omega)).mono ?_; rintro e w' ⟨rfl, rfl⟩))
    go_ret
    exact ⟨rfl, hch1⟩

end Go.Proofs.Ytaialjpcibjmiaa
