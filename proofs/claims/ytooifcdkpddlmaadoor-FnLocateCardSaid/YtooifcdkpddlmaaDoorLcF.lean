/- FnLocate: the value of a key in a map is the bytes that stand behind the key. No condition. -/
import Derived.Test.YtooifcdkpddlmaaDoorLcD
namespace Go.Proofs.YtooifcdkpddlmaaDoor
set_option linter.unusedVariables false
set_option linter.unusedSimpArgs false
open Go.RowKit

def ZzTo (w : World) (e : Ending) (w' : World) : Prop := ∃ b : Bool, e = .returned (.bool b) ∧ Ch No w w'
set_option maxRecDepth 100000 in
theorem zz17_calls (v0 v1 v3 : Value) (s : ByteArray) (A : Option Addr) (m cap : Nat) (w : World) : Calls Tryd.prog 9 #[.agg #[v0, v1, .string s, v3, .slice A m cap]] w (ZzTo w) := by
  have hB := Row.alloc w [v0, v1, .string s, v3, .slice A m cap] 35
  have q2 := hB.cell 2 _ rfl
  have q4 := hB.cell 4 _ rfl
  by_cases h1 : (2147483647 : Int) < s.size
  · have d1 : decide ((2147483647 : Int) < s.size) = true := decide_eq_true h1
    go_enter Tryd.func9, Tryd.ntmps9
    go_wp2_with fail
    go_ret
    exact ⟨_, rfl, (Ch.refl No w).alloc _⟩
  have d1 : decide ((2147483647 : Int) < s.size) = false := decide_eq_false h1
  by_cases h2 : (2147483647 : Int) < m
  · have d2 : decide ((2147483647 : Int) < m) = true := decide_eq_true h2
    go_enter Tryd.func9, Tryd.ntmps9
    go_wp2_with fail
    go_ret
    exact ⟨_, rfl, (Ch.refl No w).alloc _⟩
  · have d2 : decide ((2147483647 : Int) < m) = false := decide_eq_false h2
    go_enter Tryd.func9, Tryd.ntmps9
    go_wp2_with fail
    go_ret
    exact ⟨_, rfl, (Ch.refl No w).alloc _⟩
theorem oneMap_calls (w : World) : Calls Tryd.prog 11 #[] w fun e w' => e = .returned (.slice (some ⟨w.heap.size, 0, none⟩) 4 4) ∧ w' = w.alloc (.cells #[.int .u8 129, .int .u8 161, .int .u8 97, .int .u8 5] 5) := by
  go_enter Tryd.func11, Tryd.ntmps11
  go_wp2_with fail
  go_ret
  exact ⟨rfl, rfl⟩
theorem st5 : strOfNums [5] = ⟨#[5]⟩ := by decide
theorem ent0_all : ∀ e ∈ [ent0], EnP e := fun e he => by
  obtain rfl : e = ent0 := by simpa using he
  exact ent0_ok
/-- The sample is found. -/
theorem awake_calls (w : World) : Calls Tryd.prog 10 #[.string ⟨#[97]⟩, .slice (some ⟨w.heap.size, 0, none⟩) 4 4] (w.alloc (.cells #[.int .u8 129, .int .u8 161, .int .u8 97, .int .u8 5] 5)) fun e w' => ∃ v, e = .returned v ∧ Ow 5 u8 w' v [5] ∧ Ch No (w.alloc (.cells #[.int .u8 129, .int .u8 161, .int .u8 97, .int .u8 5] 5)) w' := by
  have hrd := (Ow.lit 5 u8 w [129, 161, 97, 5] (by simp [maxLen])).rd
  have hf : FindP [ent0] ⟨#[97]⟩ ([129] : List Int).length 3 4 := .inl ⟨0, by simp, rfl, fun j _ h => by omega, rfl, rfl⟩
  have := search_calls [ent0] [129] (some ⟨w.heap.size, 0, none⟩) 4 ⟨#[97]⟩ (w.alloc (.cells #[.int .u8 129, .int .u8 161, .int .u8 97, .int .u8 5] 5)) 3 4 (by simp) (.inl ⟨by omega, by simp, rfl⟩) ent0_all hrd (Nat.le_refl _) hf
  exact this
set_option maxRecDepth 100000 in
set_option maxHeartbeats 4000000 in
theorem FnLocateLaw (t : Pk) (v0 v1 v2 v3 v4 : Value) (key : ByteArray) (f : Int) (w : World) (ht : TrP w t [v0, v1, v2, v3, v4]) (hf0 : 0 ≤ f) (hf1 : f < 18446744073709551616) :
    Calls Tryd.prog 4 #[.agg #[v0, v1, v2, v3, v4], .string key, .int .u64 f] w fun e w' => e = .returned (.bool true) ∧ Ch No w w' := by
  have hB := Row.alloc w [v0, v1, v2, v3, v4] 35
  have q0 := hB.cell 0 _ rfl
  have q1 := hB.cell 1 _ rfl
  have q2 := hB.cell 2 _ rfl
  have q3 := hB.cell 3 _ rfl
  have q4 := hB.cell 4 _ rfl
  have hzz : ∀ W, Calls Tryd.prog 9 #[.agg #[v0, v1, v2, v3, v4]] W (ZzTo W) := by
    obtain ⟨k, n, s, x, m, K⟩ := t
    obtain ⟨A, cap, he, _⟩ := id ht
    simp only [List.cons.injEq, and_true] at he
    obtain ⟨rfl, rfl, rfl, rfl, rfl⟩ := he
    exact fun W => zz17_calls _ _ _ s A m cap W
  have HT := hid ht
  clear ht
  have C1 : Ch No w (w.alloc (.cells #[v0, v1, v2, v3, v4] 35)) := (Ch.refl No w).alloc _
  go_enter Tryd.func4, Tryd.ntmps4
  go_wp2_with fail
  refine (hzz _).mono ?_
  rintro e w1 ⟨b, rfl, hch1⟩
  clear hzz
  have C2 := C1.no_no hch1
  have hB1 := hB.keep0 hch1
  have r0 := hB1.cell 0 _ rfl
  have r1 := hB1.cell 1 _ rfl
  have r2 := hB1.cell 2 _ rfl
  have r3 := hB1.cell 3 _ rfl
  have r4 := hB1.cell 4 _ rfl
  cases b
  · go_wp2_with fail
    go_ret
    exact ⟨rfl, C2⟩
  by_cases hkz : (2147483647 : Int) < key.size
  · have d1 : decide ((2147483647 : Int) < key.size) = true := decide_eq_true hkz
    go_wp2_with fail
    go_ret
    exact ⟨rfl, C2⟩
  have d1 : decide ((2147483647 : Int) < key.size) = false := decide_eq_false hkz
  go_wp2_with fail
  refine (oneMap_calls w1).mono ?_
  rintro e w2 ⟨rfl, rfl⟩
  go_wp2_with fail
  refine (awake_calls w1).mono ?_
  rintro e w3 ⟨va, rfl, hoa, hch3⟩
  obtain ⟨Aa, ca, rfl, _, _⟩ := hoa.slice
  have hcona := conv_rd (c := ca) hoa.rd w3 (Ch.refl _ _)
  rw [st5] at hcona
  replace hcona : (convert 24 9 (.slice Aa 1 ca)).run Tryd.prog w3 = .ok (.string ⟨#[5]⟩) w3 := hcona
  have C3 := (C2.alloc (.cells #[.int .u8 129, .int .u8 161, .int .u8 97, .int .u8 5] 5)).no_no hch3
  have hB3 := (hB1.keep0 ((Ch.refl No w1).alloc (.cells #[.int .u8 129, .int .u8 161, .int .u8 97, .int .u8 5] 5))).keep0 hch3
  have s0 := hB3.cell 0 _ rfl
  have s1 := hB3.cell 1 _ rfl
  have s2 := hB3.cell 2 _ rfl
  have s3 := hB3.cell 3 _ rfl
  have s4 := hB3.cell 4 _ rfl
  go_wp2_with fail
  refine (lawData_calls t v0 v1 v2 v3 v4 f w w3 C3 HT.out hf0 hf1).mono ?_
  rintro e w4 ⟨vd, vl, is, rfl, hch4, hm⟩
  have C4 := C3.no_no hch4
  cases is
  · go_wp2_with fail
    go_ret
    exact ⟨rfl, C4⟩
  obtain ⟨L, hd, pf, Al, cl, hL, hhd, hEP, hod, rfl, hrl, hER⟩ := hm rfl
  obtain ⟨Ad, cd, rfl, hcd, _⟩ := hod.slice
  obtain ⟨sx, nx, hfx⟩ := find_any L key hd.length
  have hsr := search_calls L hd Ad cd key w4 sx nx hL hhd hEP hod.rd hcd hfx
  obtain ⟨_, _, hfc⟩ := find_cut L hd key sx nx hfx
  have HFC := hid hfc
  clear hfc hm hfx
  generalize ((hd ++ flatE L).take nx).drop sx = X at hsr HFC
  have HPL : Hid (∀ W, Ch No w4 W → Calls Tryd.prog 13 #[.slice Al L.length cl, .string key] W (PlTo L key W)) := hid (fun W hW => place_calls L Al cl key W (hrl.keep0 hW) (fun e he => (hER e he).one) hL)
  have HRL := hid (And.intro hrl hER)
  clear hrl hER hhd hEP hod
  generalize (hd ++ flatE L).length = N at hsr hcd ⊢
  obtain ⟨M, hM⟩ : ∃ M, L.length = M := ⟨_, rfl⟩
  have HM := hid hM
  rw [hM] at HPL hL ⊢
  clear hM
  go_wp2_with fail
  refine hsr.mono ?_
  rintro e w5 ⟨vx, rfl, hox, hch5⟩
  have C5 := C4.no_no hch5
  clear hsr
  obtain ⟨q, hq⟩ : ∃ q, X.length = q := ⟨_, rfl⟩
  have HQ := hid hq
  obtain ⟨Ax, cx, hvx, _, _⟩ := hox.slice
  rw [hq] at hvx
  subst hvx
  clear hq
  go_wp2_with fail
  refine (HPL.out w5 hch5).mono ?_
  rintro e w6 ⟨hch6, ⟨i, hi, rfl, hkey, hfirst⟩ | ⟨rfl, hnone⟩⟩
  · -- there is one
    have hX : X = L[i].vd := by
      rcases HFC.out with ⟨i', hi', e', h1', hx⟩ | ⟨h1, _⟩
      · have : i' = i := by
          rcases Nat.lt_trichotomy i i' with hl | hl | hl
          · exact absurd hkey (h1' i hi hl)
          · exact hl.symm
          · exact absurd e' (hfirst i' hi' hl)
        subst this; exact hx
      · exact absurd hkey (h1 i hi)
    have C6 := C5.no_no hch6
    have hiM : (i : Int) < M := by have := HM.out; omega
    have hi0 : (0 : Int) ≤ i := by omega
    obtain ⟨b, rfl, hc⟩ := en_at ((HRL.out.1.keep0 hch5).keep0 hch6) i hi
    have a7 := hc 7 _ rfl
    have hvr := ((HRL.out.2 _ (List.getElem_mem hi)).r2.keep0 hch5).keep0 hch6
    have hox6 := hox.keep0 hch6
    have hc1 := conv_rd (c := cx) hox6.rd
    rw [HQ.out] at hc1
    have hc2 := conv_rd (c := L[i].c2) hvr
    rw [← hX] at hc2
    rw [← hX] at a7
    rw [HQ.out] at hc2 a7
    obtain ⟨A2, hA2⟩ : ∃ A2, L[i].A2 = A2 := ⟨_, rfl⟩
    obtain ⟨c2, hc2e⟩ : ∃ c2, L[i].c2 = c2 := ⟨_, rfl⟩
    obtain ⟨S, hS⟩ : ∃ S, strOfNums X = S := ⟨_, rfl⟩
    rw [hA2, hc2e] at hc2 a7
    rw [hS] at hc1 hc2
    have k1 : ∀ n, (convert 24 9 (.slice Ax q cx)).run Tryd.prog (w6.drewN n) = .ok (.string S) (w6.drewN n) := fun n => hc1 _ ((Ch.refl No w6).drewN n)
    have k2 : ∀ n, (convert 24 9 (.slice A2 q c2)).run Tryd.prog (w6.drewN n) = .ok (.string S) (w6.drewN n) := fun n => hc2 _ ((Ch.refl No w6).drewN n)
    have k3 := hc1 w6 (Ch.refl _ _)
    have k4 := hc2 w6 (Ch.refl _ _)
    have k5 := hc1 w6.drew (Ch.refl No w6).drew
    have k6 := hc2 w6.drew (Ch.refl No w6).drew
    clear hc1 hc2 hc hS hA2 hc2e hX hkey hfirst hvr
    go_wp2_with (go_quiet (fail))
    go_ret
    exact ⟨rfl, C6.drewN _⟩
  · have hX : X = [] := by
      rcases HFC.out with ⟨i', hi', e', _⟩ | ⟨_, hx⟩
      · exact absurd e' (hnone i' hi')
      · exact hx
    have C6 := C5.no_no hch6
    obtain rfl : q = 0 := by rw [← HQ.out, hX]; rfl
    clear hX hnone
    go_wp2_with fail
    go_ret
    exact ⟨rfl, C6⟩

end Go.Proofs.YtooifcdkpddlmaaDoor
