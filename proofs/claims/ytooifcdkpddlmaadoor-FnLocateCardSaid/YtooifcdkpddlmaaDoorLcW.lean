/- The walk of MessagePack's search in a map that is written well. No condition. -/
import Derived.Test.YtooifcdkpddlmaaDoorLcM
import Derived.Test.YtooifcdkpddlmaaDoorSkL
import Derived.Test.YtooifcdkpddlmaaDoorGetM
namespace Go.Proofs.YtooifcdkpddlmaaDoor
set_option linter.unusedVariables false
set_option linter.unusedSimpArgs false
open Go.RowKit

theorem EnP.byt {e : Ent} (h : EnP e) : Byt e.kd ∧ Byt e.vd := by
  obtain ⟨⟨n, x, m, K, h1, h2⟩, ⟨t, lv, _, h3, _, h4⟩, _⟩ := h
  exact ⟨put_byt _ _ h2 h1, put_byt _ _ h3 h4⟩
theorem flatE_byt : ∀ L : List Ent, (∀ e ∈ L, EnP e) → Byt (flatE L)
  | [], _ => fun x hx => absurd hx (by simp [flatE])
  | e :: L, h => by
    have h1 := flatE_byt L (fun x hx => h x (List.mem_cons_of_mem _ hx))
    have h2 := (h e (List.mem_cons_self ..)).byt
    have : flatE (e :: L) = (e.kd ++ e.vd) ++ flatE L := by simp [flatE]
    rw [this]
    exact (h2.1.append h2.2).append h1
theorem flatE_drop (L : List Ent) (i : Nat) (hi : i < L.length) : flatE (L.drop i) = L[i].kd ++ (L[i].vd ++ flatE (L.drop (i + 1))) := by
  rw [List.drop_eq_getElem_cons hi]
  unfold flatE
  rw [List.flatMap_cons, List.append_assoc]
theorem flatE_cut (L : List Ent) (i : Nat) : flatE L = flatE (L.take i) ++ flatE (L.drop i) := by
  unfold flatE
  rw [← List.flatMap_append, List.take_append_drop]
/-- The head of a map that is written well. -/
theorem readMap_hd (n : Nat) (hd F : List Int) (A : Option Addr) (c : Nat) (w : World) (hn : n ≤ 1000) (h : HdB 128 16 [(222, 2), (223, 4)] (n : Int) hd) (hr : Rd u8 w A (hd ++ F)) (hc : (hd ++ F).length ≤ c) (hb : Byt F) :
    Calls Tryd.prog 17 #[.slice A (hd ++ F).length c] w (RmOk n F w) := by
  rcases h with ⟨_, h1, rfl⟩ | ⟨f, hf, _, rfl⟩
  · have := readMap_fix A c (128 + n) F w hr hc (by omega) (by omega)
    rwa [show (128 : Int) + n - 128 = n by omega] at this
  · simp only [List.mem_cons, List.not_mem_nil, or_false] at hf
    rcases hf with rfl | rfl
    · have := readMap_16 A c 222 (bg n 2 ++ F) w hr hc ((byt_bg _ _).append hb) (by rw [List.length_append, bg_len]; omega) rfl
      rwa [bg_take3, bg_drop3, beN_bgq2 _ (by omega) (by omega)] at this
    · have := readMap_32 A c 223 (bg n 4 ++ F) w hr hc ((byt_bg _ _).append hb) (by rw [List.length_append, bg_len]; omega) rfl
      rwa [bg_take3, bg_drop3, beN_bgq4 _ (by omega) (by omega)] at this
/-- What is found: the value's place, or nothing. -/
def FindP (L : List Ent) (key : ByteArray) (h : Nat) (s n : Nat) : Prop :=
  (∃ (i : Nat) (hi : i < L.length), L[i].s = key ∧ (∀ j (hj : j < L.length), j < i → L[j].s ≠ key) ∧ s = h + (flatE (L.take i)).length + L[i].kd.length ∧ n = s + L[i].vd.length) ∨ ((∀ j (hj : j < L.length), L[j].s ≠ key) ∧ s = 0 ∧ n = 0)
set_option maxRecDepth 100000 in
set_option maxHeartbeats 4000000 in
theorem locate_calls (L : List Ent) (hd : List Int) (A : Option Addr) (c : Nat) (key : ByteArray) (w : World) (hl : L.length ≤ 1000) (hh : HdB 128 16 [(222, 2), (223, 4)] (L.length : Int) hd) (hE : ∀ e ∈ L, EnP e) (hr : Rd u8 w A (hd ++ flatE L)) (hc : (hd ++ flatE L).length ≤ c) :
    Calls Tryd.prog 36 #[.slice A (hd ++ flatE L).length c, .string key] w fun e w' => ∃ s n, FindP L key hd.length s n ∧ LcTo s n w e w' := by
  have hlh := hh.len (by simp)
  have hfl := flatE_len L hE
  have hN : (hd ++ flatE L).length ≤ 524400000009 := by rw [List.length_append]; omega
  have hrm := readMap_hd L.length hd (flatE L) A c w hl hh hr hc (flatE_byt L hE)
  have HE := hid hE
  have hlen : (hd ++ flatE L).length = hd.length + (flatE L).length := List.length_append
  obtain ⟨N, hNe⟩ : ∃ N, (hd ++ flatE L).length = N := ⟨_, rfl⟩
  rw [hNe] at hN hrm hlen hc ⊢
  have HLN := hid hlen
  obtain ⟨M, hM⟩ : ∃ M, L.length = M := ⟨_, rfl⟩
  have HM := hid hM
  rw [hM] at hl hrm
  clear hNe hM hr hh hfl hE hlen
  go_enter Tryd.func36, Tryd.ntmps36
  go_wp2_with fail
  refine hrm.mono ?_
  rintro e w1 ⟨A1, c1, rfl, hr1, hc1, hch1⟩
  clear hrm
  go_wp2_with fail
  go_loopg [7, 10] M (fun kk s7 s10 wr => ∃ (i : Nat) (A7 : Option Addr) (c7 m7 : Nat), kk + i = M ∧ s10 = .int .u32 i ∧ s7 = .slice A7 m7 c7 ∧ Hid (m7 = (flatE (L.drop i)).length) ∧ m7 ≤ N ∧ Rd Go.Proofs.YtooifcdkpddlmaaDoor.u8 wr A7 (flatE (L.drop i)) ∧ m7 ≤ c7 ∧ Hid (∀ j (hj : j < L.length), j < i → L[j].s ≠ key) ∧ Ch No w wr)
  case atStart => exact ⟨0, A1, c1, _, by omega, rfl, rfl, hid rfl, by have := HLN.out; omega, hr1, hc1, hid (fun j _ h => by omega), hch1⟩
  case round =>
    obtain ⟨i, A7, c7, m7, hki, rfl, rfl, HM7, hm7, hr7, hc7, HNO, hch⟩ := hrel
    by_cases hi : i < M
    · have hiL : i < L.length := by rw [HM.out]; exact hi
      have hmem := List.getElem_mem hiL
      have hP := HE.out _ hmem
      have hfd := flatE_drop L i hiL
      have hbF := flatE_byt (L.drop (i + 1)) (fun e he => HE.out e (List.mem_of_mem_drop he))
      have HCUT : Hid (flatE L = flatE (L.take i) ++ flatE (L.drop i)) := hid (flatE_cut L i)
      obtain ⟨ei, hei⟩ : ∃ e, L[i] = e := ⟨_, rfl⟩
      have HEI := hid hei
      rw [hei] at hP hfd
      have hby := hP.byt
      obtain ⟨⟨kn, kx, km, kK, hkp, hkn⟩, ⟨vt, lv, hlv, hvn, hvf, hvp⟩, hk1, hk2⟩ := hP
      have hm7' := HM7.out
      rw [hfd] at hr7 hm7'
      have HFD := hid hfd
      obtain ⟨rest, hrest⟩ : ∃ r, flatE (L.drop (i + 1)) = r := ⟨_, rfl⟩
      have HREST := hid hrest
      rw [hrest] at hr7 hm7' hbF
      have hlen7 : m7 = ei.kd.length + (ei.vd.length + rest.length) := by rw [hm7', List.length_append, List.length_append]
      have hz := zc_text hkp (ei.vd ++ rest) A7 c7 wr (hby.2.append hbF) hr7 (by rw [← hm7']; exact hc7)
      rw [← hm7'] at hz
      have hlv2 : (ei.vd ++ rest).length = ei.vd.length + rest.length := List.length_append
      have hsk : Hid (∀ (A8 : Option Addr) (c8 : Nat) (W : World), Rd Go.Proofs.YtooifcdkpddlmaaDoor.u8 W A8 (ei.vd ++ rest) → (ei.vd ++ rest).length ≤ c8 → Calls Tryd.prog 47 #[.slice A8 (ei.vd ++ rest).length c8] W (SkTo rest W)) := hid (fun A8 c8 W h1 h2 =>
        skip_top vt ei.vd lv rest A8 c8 W hvn hvf hvp h1 h2 (hby.2.append hbF) (by rw [List.length_append]; omega) (by omega))
      obtain ⟨q8, hq8⟩ : ∃ q, (ei.vd ++ rest).length = q := ⟨_, rfl⟩
      have HLV2 := hid hlv2
      have HL7 := hid hlen7
      have hi' : (i : Int) < M := by omega
      have hi0 : (0 : Int) ≤ i := by omega
      have hq8N : q8 ≤ N := by rw [← hq8, hlv2]; omega
      have hwr : IntKind.u32.wrap ((i : Int) + 1) = (i : Int) + 1 := by simp [IntKind.wrap, IntKind.bits, IntKind.signed]; omega
      unfold ZcOk at hz
      rw [hq8] at hz
      have HSK : Hid (∀ (A8 : Option Addr) (c8 : Nat) (W : World), Rd Go.Proofs.YtooifcdkpddlmaaDoor.u8 W A8 (ei.vd ++ rest) → q8 ≤ c8 → Calls Tryd.prog 47 #[.slice A8 q8 c8] W (SkTo rest W)) := hid (fun A8 c8 W h1 h2 => by
        have := hsk.out A8 c8 W h1 (by rw [hq8]; exact h2)
        rwa [hq8] at this)
      have HQ8 := hid hq8
      clear hsk hq8 hlv2 hlen7 hm7' hrest hfd hvp hvf hvn hkp hkn hr7 hby hbF hei hmem hlv hk1 hk2
      go_wp2_with fail
      refine hz.mono ?_
      rintro e w2 ⟨A8, c8, A9, c9, rfl, hr8, hc8, hr9, hc9, hch2⟩
      clear hz
      go_wp2_with fail
      refine (unsafe_calls A8 c8 (bys ei.s) w2 hr8).mono ?_
      rintro e w3 ⟨rfl, hch3⟩
      rw [str_bys]
      have hr9' := hr9.keep0 hch3
      have C3 := (hch.no_no hch2).no_no hch3
      by_cases hk : ei.s = key
      · subst hk
        go_wp2_with fail
        refine (HSK.out A9 c9 w3 hr9' (by have := HQ8.out; omega)).mono ?_
        rintro e w4 ⟨A4, c4, rfl, hr4, hc4, hch4⟩
        obtain ⟨q4, hq4⟩ : ∃ q, rest.length = q := ⟨_, rfl⟩
        have HQ4 := hid hq4
        rw [hq4]
        have hq4N : q4 ≤ N := by have := HQ8.out; have := HLV2.out; omega
        clear hq4
        go_wp2_with fail
        go_ret2
        have e1 := HQ8.out
        have e2 := HLV2.out
        have e3 := HQ4.out
        have e4 := HLN.out
        have e5 := congrArg List.length HCUT.out
        rw [HFD.out, HREST.out, List.length_append, List.length_append, List.length_append] at e5
        refine ⟨N - q8, N - q4, .inl ⟨i, hiL, by rw [HEI.out], HNO.out, by rw [HEI.out]; omega, by rw [HEI.out]; omega⟩, ?_, C3.no_no hch4⟩
        rw [Int.ofNat_sub hq8N, Int.ofNat_sub hq4N]
        rfl
      · have hk1 := bs_ne hk
        go_wp2_with fail
        refine (HSK.out A9 c9 w3 hr9' (by have := HQ8.out; omega)).mono ?_
        rintro e w4 ⟨A4, c4, rfl, hr4, hc4, hch4⟩
        obtain ⟨q4, hq4⟩ : ∃ q, rest.length = q := ⟨_, rfl⟩
        have HQ4 := hid hq4
        rw [hq4] at hc4 ⊢
        have hq4N : q4 ≤ N := by have := HQ8.out; have := HLV2.out; omega
        clear hq4
        go_wp2_with fail
        go_roundg (gk - 1)
        case measure => omega
        case rel =>
          refine ⟨i + 1, A4, c4, q4, by omega, by go_num, rfl, hid (by rw [HREST.out]; exact HQ4.out.symm), hq4N, by rw [HREST.out]; exact hr4, hc4, hid (fun j hj h => ?_), C3.no_no hch4⟩
          by_cases hji : j = i
          · subst hji; rw [HEI.out]; exact hk
          · exact HNO.out j hj (by omega)
    · obtain rfl : i = M := by omega
      go_wp2_with fail
      go_ret2
      exact ⟨0, 0, .inr ⟨fun j hj => HNO.out j hj (by rw [← HM.out]; exact hj), rfl, rfl⟩, rfl, hch⟩
end Go.Proofs.YtooifcdkpddlmaaDoor
