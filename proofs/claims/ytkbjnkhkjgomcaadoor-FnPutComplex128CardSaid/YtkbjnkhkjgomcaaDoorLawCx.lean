/- The walk of the law: a complex number of 128 bits, appended to bytes, is an extension of 16 bytes behind them. No condition. -/
import Derived.Test.YtkbjnkhkjgomcaaDoorCxT
namespace Go.Proofs.YtkbjnkhkjgomcaaDoor
set_option linter.unusedVariables false
set_option linter.unusedSimpArgs false
open Go.RowKit

theorem few_yes (A : Option Addr) (n c : Nat) (w : World) (h : n ≤ 200) : Calls Tryd.prog 5 #[.slice A n c] w fun e w' => e = .returned (.bool true) ∧ w = w' := by
  have hd : decide ((n : Int) ≤ 200) = true := decide_eq_true (by omega)
  go_enter Tryd.func5, Tryd.ntmps5
  go_wp2
  go_ret
  exact ⟨rfl, rfl⟩
theorem few_no (A : Option Addr) (n c : Nat) (w : World) (h : 200 < n) : Calls Tryd.prog 5 #[.slice A n c] w fun e w' => e = .returned (.bool false) ∧ w = w' := by
  have hd : decide ((n : Int) ≤ 200) = false := decide_eq_false (by omega)
  go_enter Tryd.func5, Tryd.ntmps5
  go_wp2
  go_ret
  exact ⟨rfl, rfl⟩
set_option maxRecDepth 100000 in
set_option maxHeartbeats 2000000 in
theorem lawCx (A : Option Addr) (c : Nat) (l : List Int) (re im : Int) (w : World) (hr : Rd u8 w A l) (hc : l.length ≤ c) (h0 : 0 ≤ re) (h1 : re < 18446744073709551616) (k0 : 0 ≤ im) (k1 : im < 18446744073709551616) :
    Calls Tryd.prog 3 #[.slice A l.length c, .int .u64 re, .int .u64 im] w fun e w' => e = .returned (.bool true) ∧ Ch No w w' := by
  by_cases hbig : 2147483647 < l.length
  · have hg : decide ((2147483647 : Int) < l.length) = true := decide_eq_true (by omega)
    go_enter Tryd.func3, Tryd.ntmps3
    go_wp2_with fail
    go_ret
    exact ⟨rfl, Ch.refl _ _⟩
  have hg : decide ((2147483647 : Int) < l.length) = false := decide_eq_false (by omega)
  have haw := putCx none 0 [] 1 2 w (Rd.nil _ _ _) (by simp) (by omega) (by omega) (by omega) (by omega)
  by_cases hfew : l.length ≤ 200
  · have hfw := fun (w : World) => few_yes A l.length c w hfew
    obtain ⟨L, hL⟩ : ∃ L, l.length = L := ⟨_, rfl⟩
    have HL := hid hL
    rw [hL] at hg hfw hfew hc ⊢
    clear hL
    go_enter Tryd.func3, Tryd.ntmps3
    go_wp2_with fail
    refine haw.mono ?_
    rintro e w1 ⟨v1, rfl, ho1, _, hch1⟩
    obtain ⟨A1, c1, rfl, _, _⟩ := ho1.slice
    rw [show (([] : List Int) ++ encC 1 2).length = 18 from rfl]
    clear ho1
    have hr1 := hr.keep0 hch1
    clear hr
    go_wp2_with fail
    refine (hfw _).mono ?_
    rintro e w' ⟨rfl, rfl⟩
    go_wp2_with (first | ((with_reducible refine gate (.call { callee := .builtin .append, args := #[.tmp _, .tmp _], argTypes := #[22, 22] }) rfl ?_); refine wp_append rfl _ _ 22 5 (.int .u8 0) 1 rfl Tryd.underlying22 info_u8 rfl (by decide) u8 (fun _ => rfl) _ [] l _ _ _ rfl rfl HL.out (Ow.lit 5 u8 _ [] (by simp [maxLen])) (hr1.keep0 ((Ch.refl _ _).alloc _)) (by simp; omega) ?_; intro v2 w2 ho2 hch2 hat2; have hch2 := Ch.fresh ((Ch.refl No w1).alloc (.cells #[] 5)) hch2 (Fr.mk' (Nat.le_refl _)); clear hat2; obtain ⟨A2, c2, rfl, hle2, _⟩ := ho2.slice; simp only [List.nil_append] at ho2 hle2 ⊢))
    refine (putCx A2 c2 l re im w2 ho2.rd (by have := HL.out; omega) h0 h1 k0 k1).mono ?_
    rintro e w3 ⟨v3, rfl, ho3, _, hch3⟩
    obtain ⟨A3, c3, rfl, hle3, _⟩ := ho3.slice
    have hm3 : (l ++ encC re im).length = L + 18 := by rw [List.length_append, HL.out]; rfl
    rw [hm3] at hle3
    have hr3 := hr1.keep0 (hch2.no_no hch3)
    have hg1 : decide (L + 18 < L) = false := decide_eq_false (by omega)
    have hg2 : decide ((L : Int) + 18 < L) = false := decide_eq_false (by omega)
    have hcon0 : ∀ nq, (convert 22 9 (.slice A L c)).run Tryd.prog (w3.drewN nq) = .ok (.string (strOfNums l)) (w3.drewN nq) := fun nq => by
      have h := conv_rd (c := c) hr3 _ ((Ch.refl No w3).drewN nq)
      rw [HL.out] at h
      exact h
    have hcon1 : ∀ nq, (convert 22 9 (.slice A3 L c3)).run Tryd.prog (w3.drewN nq) = .ok (.string (strOfNums l)) (w3.drewN nq) := fun nq => by
      have h := conv_rd (c := c3) (ho3.rd.take l.length) _ ((Ch.refl No w3).drewN nq)
      rw [List.take_append_of_le_length (Nat.le_refl _), List.take_length, HL.out] at h
      exact h
    obtain ⟨hk1, hk1'⟩ := Cut.ahead_h 22 5 Tryd.underlying22 size_u8 A3 (L + 18) c3 L L rfl .i64 (by omega)
    obtain ⟨A', hk2, hk3, hcut⟩ := Cut.ahead_l 22 5 Tryd.underlying22 size_u8 A3 (L + 18) c3 L L rfl .i64 (by omega)
    have hrd : Rd u8 w3 A' (encC re im) := by
      have := hcut.drop ho3.rd hm3 hle3
      rw [← HL.out] at this
      simpa using this
    rw [show L + 18 - L = 18 by omega] at hk2 hk3
    have hlec : 18 ≤ c3 - L := by omega
    generalize c3 - L = c4 at hk2 hk3 hlec
    have htake : ∀ (w : World), Rd u8 w A' (encC re im) → Calls Tryd.prog 6 #[.slice A' 18 c4, .int .i64 1] w (TOk w A' (encC re im) 18 c4 10 0 (strOfNums (be8 re ++ be8 im)) 4) := fun w hr => by
      have h := reads_cx h0 h1 k0 k1 [] 1 A' c4 w Byt.nil (by omega) (by simpa using hr) (by simpa [encC_len] using hlec) (by simp [encC_len])
      simpa [encC_len] using h
    have hget : ∀ (w : World), Rd u8 w A' (encC re im) → Calls Tryd.prog 7 #[.slice A' 18 c4] w fun e w' => ∃ A' c', e = .returned (.tuple #[.int .u64 re, .int .u64 im, .slice A' 0 c', .bool true]) ∧ Ch No w w' := fun w hr => by
      obtain ⟨n, rfl⟩ := Int.eq_ofNat_of_zero_le h0
      obtain ⟨m, rfl⟩ := Int.eq_ofNat_of_zero_le k0
      exact getCx A' c4 n m w hr hlec h1 k1
    have hS : (strOfNums (be8 re ++ be8 im)).size = 16 := by simp [strOfNums, be8, ByteArray.size]
    generalize strOfNums (be8 re ++ be8 im) = S at htake hS
    unfold TOk at htake
    rw [hm3]
    clear hcut hm3 ho3
    go_wp2_with fail
    go_quiet (fail)
    go_wp2_with fail
    refine (htake _ (hrd.keep0 (by repeat (first | exact Ch.refl _ _ | apply Ch.drewN | apply Ch.drew | apply Ch.alloc)))).mono ?_
    rintro e w4 ⟨hch4, A4, rfl, _⟩
    have C4 : Ch No w3 w4 := Ch.no_no (by repeat (first | exact Ch.refl _ _ | apply Ch.drewN | apply Ch.drew | apply Ch.alloc)) hch4

    clear hch4
    unfold pk
    go_wp2_with (first | ((with_reducible refine gate (.store 28 (.tmp 9) _) rfl ?_); refine wp_store rfl rfl 28 _ _ rfl w4.heap.size 0 28 ZL (pk 10 0 S 4) rfl rfl [.int .i64 10, .int .u64 0, .string S, .int .i64 4, .slice none 0 0] rfl size_pk (by simp [Value.oneCell']) (Row.alloc w4 ZL 28) (by simp) ?_; intro w5 hrow5 hch5))
    have C5 : Ch No w3 w5 := (C4.alloc _).freshg hch5 C4.size
    refine (hget w5 (hrd.keep0 C5)).mono ?_
    rintro e w6 ⟨A6, c6, rfl, hch6⟩
    obtain ⟨p0, p1, p2, p3, p4⟩ := pk_cells (hrow5.keep0 hch6)
    go_wp2_with fail
    go_ret
    exact ⟨rfl, ((hch1.no_no hch2).no_no hch3).no_no (C5.no_no hch6)⟩
  · have hfw := fun (w : World) => few_no A l.length c w (by omega)
    generalize l.length = L at hg hfw ⊢
    go_enter Tryd.func3, Tryd.ntmps3
    go_wp2_with fail
    refine haw.mono ?_
    rintro e w1 ⟨v1, rfl, ho1, _, hch1⟩
    obtain ⟨A1, c1, rfl, _, _⟩ := ho1.slice
    rw [show (([] : List Int) ++ encC 1 2).length = 18 from rfl]
    clear ho1
    go_wp2_with fail
    refine (hfw _).mono ?_
    rintro e w' ⟨rfl, rfl⟩
    go_wp2_with fail
    go_ret
    exact ⟨rfl, hch1⟩
end Go.Proofs.YtkbjnkhkjgomcaaDoor
