/- The walk of MessagePack's skipping of a value. No condition. -/
import Derived.Test.YtooifcdkpddlmaaDoorSkQ
import Derived.Deep.LoopGhost
namespace Go.Proofs.YtooifcdkpddlmaaDoor
set_option linter.unusedVariables false
set_option linter.unusedSimpArgs false
open Go.RowKit

theorem cat_split (ds : Nat → List Int) (m : Nat) : ∀ j i, i + j = m → ∃ T, cat ds m = cat ds i ++ T
  | 0, i, h => ⟨[], by rw [List.append_nil]; congr 1; omega⟩
  | j + 1, i, h => by
    obtain ⟨T, hT⟩ := cat_split ds m j (i + 1) (by omega)
    exact ⟨ds i ++ T, by rw [hT]; show (cat ds i ++ ds i) ++ T = _; rw [List.append_assoc]⟩
theorem cat_next (ds : Nat → List Int) (m i : Nat) (R L : List Int) (hi : i < m) (h : cat ds m ++ R = cat ds i ++ L) : ∃ L', L = ds i ++ L' ∧ cat ds m ++ R = cat ds (i + 1) ++ L' := by
  obtain ⟨T, hT⟩ := cat_split ds m (m - (i + 1)) (i + 1) (by omega)
  refine ⟨T ++ R, ?_, by rw [hT, List.append_assoc]⟩
  rw [hT, List.append_assoc] at h
  have h2 : cat ds i ++ (ds i ++ (T ++ R)) = cat ds i ++ L := by rw [← h, ← List.append_assoc]; rfl
  exact (List.append_cancel_left h2).symm
def SkTo (R : List Int) (w : World) (e : Ending) (w' : World) : Prop := ∃ A' c', e = .returned (.tuple #[.slice A' R.length c', .nilIface]) ∧ Rd u8 w' A' R ∧ R.length ≤ c' ∧ Ch No w w'
set_option maxRecDepth 100000 in
set_option maxHeartbeats 2000000 in
theorem skip_calls : ∀ (t : Pk) (d : List Int) (lv depth : Int) (R : List Int) (A : Option Addr) (c : Nat) (w : World), NumP t → FitP t lv → PutD t d → Rd u8 w A (d ++ R) → (d ++ R).length ≤ c → Byt (d ++ R) → (d ++ R).length ≤ 140737488355328 → 0 ≤ depth → depth + lv ≤ 99999 →
    Calls Tryd.prog 51 #[.slice A (d ++ R).length c, .int .i64 depth] w (SkTo R w) := by
  intro t
  induction t with
  | mk k n s x m K ih =>
    intro d lv depth R A c w hn hf hd hr hc hb hM hd0 hd1
    obtain ⟨sz, ds, hs0, hsl, hdrop, hkids, hgs⟩ := size_put hd hn hf
    have hnk : ∀ i : Fin m, NumP (K i) := by unfold NumP at hn; exact hn.2.2.2
    have hfk : ∀ i : Fin m, FitP (K i) (lv - 1) := by unfold FitP at hf; exact hf.2.2.2.2.2.2.2.2.2.2.2.2.2.2
    have hlv : 0 < lv := by unfold FitP at hf; exact hf.1
    have hm : m ≤ 2000 := by unfold FitP at hf; exact hf.2.2.2.2.2.2.2.2.2.2.2.2.1
    have hsize := hgs R A c w hr hc hb
    obtain ⟨A2, hj2, hj3, hcut⟩ := Cut.ahead_l 24 5 Tryd.underlying24 size_u8 A (d ++ R).length c (sz : Int) sz rfl .u64 (by rw [List.length_append]; omega)
    have hdr : (d ++ R).drop sz = cat ds m ++ R := by rw [List.drop_append_of_le_length hsl, hdrop]
    have hr2 : Rd u8 w A2 (cat ds m ++ R) := by have h := hcut.drop hr rfl hc; rwa [hdr] at h
    have hb2 : Byt (cat ds m ++ R) := by rw [← hdr]; exact hb.drop sz
    have hl2 : (cat ds m ++ R).length = (d ++ R).length - sz := by rw [← hdr, List.length_drop]
    obtain ⟨M, hMM⟩ : ∃ M, (d ++ R).length = M := ⟨_, rfl⟩
    have hsM : sz ≤ M := by rw [← hMM, List.length_append]; omega
    rw [hMM] at hsize hj2 hj3 hl2 hM hc ⊢
    have hlt : decide ((M : Int) < sz) = false := decide_eq_false (by omega)
    have hlt2 : decide (M < sz) = false := decide_eq_false (by omega)
    have hdd : decide (100000 ≤ depth) = false := decide_eq_false (by omega)
    have hwM : IntKind.u64.wrap (M : Int) = M := by simp [IntKind.wrap, IntKind.bits, IntKind.signed]; omega
    obtain ⟨L0, hL0⟩ : ∃ L0, cat ds m ++ R = L0 := ⟨_, rfl⟩
    rw [hL0] at hr2 hb2 hl2
    have HL0 := hid hL0
    have HIH := hid ih
    have HK := hid hkids
    have HNK := hid hnk
    have HFK := hid hfk
    rw [← hl2] at hj2 hj3
    have hl3 : L0.length ≤ 140737488355328 := by omega
    have hc3 : L0.length ≤ c - sz := by omega
    generalize c - sz = c2 at hj2 hj3 hc3
    clear hL0 ih hkids hnk hfk hgs hdr hdrop hcut hr hb hMM hn hf hd hl2 hc
    go_enter Tryd.func51, Tryd.ntmps51
    go_wp2_with fail
    refine hsize.mono ?_
    rintro e w1 ⟨rfl, hch1⟩
    go_wp2_with fail
    go_loopg [0, 7, 8] m (fun kk s0 s7 s8 wr => ∃ (i : Nat) (L : List Int) (A' : Option Addr) (c' : Nat), kk + i = m ∧ s0 = .slice A' L.length c' ∧ s7 = .int .u64 ((m : Int) - i) ∧ s8 = .nilIface ∧ Hid (cat ds m ++ R = cat ds i ++ L) ∧ Rd u8 wr A' L ∧ L.length ≤ c' ∧ L.length ≤ 140737488355328 ∧ Hid (Byt L) ∧ Ch No w wr)
    case atStart => exact ⟨0, L0, A2, c2, by omega, rfl, by simp, rfl, hid (by rw [HL0.out]; rfl), hr2.keep0 hch1, hc3, hl3, hid hb2, hch1⟩
    case round =>
      obtain ⟨i, L, A', c', hki, rfl, rfl, rfl, HC, hrL, hcL, hlL, HB, hch⟩ := hrel
      by_cases hi : i < m
      · have hgt : decide (0 < (m : Int) - i) = true := decide_eq_true (by omega)
        obtain ⟨L', hL', hC'⟩ := cat_next ds m i R L hi HC.out
        have HC' := hid hC'
        have hbL := HB.out
        have hlen : L'.length ≤ L.length := by rw [hL', List.length_append]; omega
        have hcall : Calls Tryd.prog 51 #[.slice A' L.length c', .int .i64 (depth + 1)] wr (SkTo L' wr) := by
          rw [hL'] at hrL hcL hlL hbL ⊢
          exact HIH.out ⟨i, hi⟩ (ds i) (lv - 1) (depth + 1) L' A' c' wr (HNK.out ⟨i, hi⟩) (HFK.out ⟨i, hi⟩) (HK.out ⟨i, hi⟩) hrL hcL hbL hlL (by omega) (by omega)
        have HB' : Hid (Byt L') := hid (fun y hy => hbL y (by rw [hL']; exact List.mem_append_right _ hy))
        have HLL : Hid (L'.length ≤ 140737488355328) := hid (by omega)
        clear hL' hC' hbL hlen
        generalize L.length = q at hcall ⊢
        go_wp2_with fail
        refine hcall.mono ?_
        rintro e w2 ⟨A3, c3, rfl, hr3, hc3', hch3⟩
        go_wp2_with fail
        go_roundg (gk - 1)
        case measure => omega
        case rel => exact ⟨i + 1, L', A3, c3, by omega, rfl, by first | rfl | go_num | (congr 1; omega), rfl, HC', hr3, hc3', HLL.out, HB', hch.no_no hch3⟩
      · obtain rfl : i = m := by omega
        have hgt : decide (0 < (i : Int) - i) = false := decide_eq_false (by omega)
        have hLR : R = L := List.append_cancel_left HC.out
        subst hLR
        generalize hq : R.length = q
        go_wp2_with fail
        go_ret2
        subst hq
        exact ⟨A', c', rfl, hrL, hcL, hch⟩
end Go.Proofs.YtooifcdkpddlmaaDoor
