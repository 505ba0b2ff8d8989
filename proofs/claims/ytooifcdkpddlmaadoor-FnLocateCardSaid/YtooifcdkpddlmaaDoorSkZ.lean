/- The walks of MessagePack's reader of texts, in place, and of its skipping. No condition. -/
import Derived.Test.YtooifcdkpddlmaaDoorSkD
import Derived.Test.YtooifcdkpddlmaaDoorExtS
namespace Go.Proofs.YtooifcdkpddlmaaDoor
set_option linter.unusedVariables false
set_option linter.unusedSimpArgs false
open Go.RowKit

theorem isfixstr_calls (b : Int) (w : World) (h0 : 0 ≤ b) (h1 : b < 256) : Calls Tryd.prog 49 #[.int .u8 b] w fun e w' => e = .returned (.bool (decide (160 ≤ b ∧ b < 192))) ∧ w = w' := by
  go_enter Tryd.func49, Tryd.ntmps49
  go_wp2
  go_ret
  refine ⟨?_, rfl⟩
  have hf : ∀ k : Fin 256, (bits .and .u8 (k.val : Int) 224 == 160) = decide (160 ≤ (k.val : Int) ∧ (k.val : Int) < 192) := by decide +kernel
  have := hf ⟨b.toNat, by omega⟩
  rw [show ((b.toNat : Nat) : Int) = b by omega] at this
  exact congrArg (fun x => Ending.returned (Value.bool x)) this
theorem rfixstr_calls (b : Int) (w : World) (h0 : 160 ≤ b) (h1 : b < 192) : Calls Tryd.prog 50 #[.int .u8 b] w fun e w' => e = .returned (.int .u8 (b - 160)) ∧ w = w' := by
  go_enter Tryd.func50, Tryd.ntmps50
  go_wp2
  go_ret
  refine ⟨?_, rfl⟩
  have hf : ∀ k : Fin 32, bits .and .u8 ((k.val : Int) + 160) 31 = (k.val : Int) := by decide +kernel
  have := hf ⟨(b - 160).toNat, by omega⟩
  rw [show (((b - 160).toNat : Nat) : Int) = b - 160 by omega, show b - 160 + 160 = b by omega] at this
  first | exact congrArg (fun x => Ending.returned (Value.int .u8 x)) this | (simp; omega)
theorem skip_top (t : Pk) (d : List Int) (lv : Int) (R : List Int) (A : Option Addr) (c : Nat) (w : World) (hn : NumP t) (hf : FitP t lv) (hd : PutD t d) (hr : Rd u8 w A (d ++ R)) (hc : (d ++ R).length ≤ c) (hb : Byt (d ++ R)) (hM : (d ++ R).length ≤ 140737488355328) (hlv : lv ≤ 90000) :
    Calls Tryd.prog 47 #[.slice A (d ++ R).length c] w (SkTo R w) := by
  have h := skip_calls t d lv 0 R A c w hn hf hd hr hc hb hM (by omega) (by omega)
  generalize (d ++ R).length = M at h ⊢
  go_enter Tryd.func47, Tryd.ntmps47
  go_wp2_with fail
  refine h.mono ?_
  rintro e w1 ⟨A', c', rfl, h1, h2, h3⟩
  go_wp2_with fail
  go_ret2
  exact ⟨A', c', rfl, h1, h2, h3⟩
def ZcOk (x r : List Int) (w : World) (e : Ending) (w' : World) : Prop := ∃ A c A' c', e = .returned (.tuple #[.slice A x.length c, .slice A' r.length c', .nilIface]) ∧ Rd u8 w' A x ∧ x.length ≤ c ∧ Rd u8 w' A' r ∧ r.length ≤ c' ∧ Ch No w w'
theorem ZcOk.fin {w W : World} {A2 A3 : Option Addr} {k2 c2 c3 q : Nat} {x r : List Int} (h1 : Rd u8 w A2 r ∧ Rd u8 w A3 x) (h2 : x.length = q ∧ r.length = k2 ∧ k2 ≤ c2 ∧ q ≤ c3) (C : Ch No w W) : ZcOk x r w (.returned (.tuple #[.slice A3 q c3, .slice A2 k2 c2, .nilIface])) W := by
  obtain ⟨rfl, rfl, h3, h4⟩ := h2
  exact ⟨A3, c3, A2, c2, rfl, h1.2.keep0 C, h4, h1.1.keep0 C, h3, C⟩
set_option maxRecDepth 100000 in
set_option maxHeartbeats 1000000 in
theorem zc_fix (A : Option Addr) (c : Nat) (b : Int) (r : List Int) (q : Nat) (w : World) (hr : Rd u8 w A (b :: r)) (hc : (b :: r).length ≤ c) (h0 : 160 ≤ b) (h1 : b < 192) (hqe : b - 160 = (q : Int)) (hq8 : q ≤ r.length) :
    Calls Tryd.prog 45 #[.slice A (b :: r).length c] w (ZcOk (r.take q) (r.drop q) w) := by
  obtain ⟨A1, hk2, hk3, hcut⟩ := Cut.ahead_l 24 5 Tryd.underlying24 size_u8 A (b :: r).length c 1 1 rfl .i64 (by simp)
  have hr1 : Rd u8 w A1 r := hcut.drop hr rfl hc
  obtain ⟨bk, off, rfl, d0⟩ := hr.at_ 0 (by simp)
  replace d0 : World.cell? _ ⟨bk, off, none⟩ = some (.int .u8 b) := d0
  obtain ⟨m, hm⟩ : ∃ m, (b :: r).length = m := ⟨_, rfl⟩
  obtain ⟨k, hk⟩ : ∃ k, r.length = k := ⟨_, rfl⟩
  have hmk : m - 1 = k := by rw [← hm, ← hk]; simp
  have hlt : decide ((m : Int) < 1) = false := decide_eq_false (by rw [← hm, List.length_cons]; omega)
  have hlt' : (0 : Int) < m := by rw [← hm, List.length_cons]; omega
  have hck : k ≤ c - 1 := by rw [hm] at hc; omega
  rw [hm, hmk] at hk2 hk3
  generalize c - 1 = c1 at hk2 hk3 hck
  clear hcut hr
  have hfx := isfixstr_calls b w (by omega) (by omega)
  rw [show decide (160 ≤ b ∧ b < 192) = true from decide_eq_true ⟨h0, h1⟩] at hfx
  have hrf := rfixstr_calls b w h0 h1
  obtain ⟨qi, hqi⟩ : ∃ qi, b - 160 = qi := ⟨_, rfl⟩
  rw [hqi] at hqe hrf
  have hq9 := hqe
  have hqb : qi < 32 := by omega
  rw [hm]
  obtain ⟨R, hR⟩ : ∃ R, R = r := ⟨_, rfl⟩
  have hrR : Rd u8 w A1 R := by rw [hR]; exact hr1
  have hk2 : R.length = k := by rw [hR]; exact hk
  rw [← hR] at hq8 ⊢
  obtain ⟨k2, hkk⟩ : ∃ x, x = k := ⟨_, rfl⟩
  obtain ⟨c2, hcc⟩ : ∃ x, x = c1 := ⟨_, rfl⟩
  rw [← hkk, ← hcc] at hck
  rw [← hkk] at hk2
  obtain ⟨A5, hi2, hi3, hcut5⟩ := Cut.ahead_l 24 5 Tryd.underlying24 size_u8 A1 k2 c2 qi q hq9 .i64 (by omega)
  obtain ⟨A6, hl2, hl3, hcut6⟩ := Cut.ahead_lh2 24 5 Tryd.underlying24 size_u8 A1 k2 c2 0 qi 0 q rfl hq9 .i64 .i64 (by omega) (by omega)
  have hr5 : Rd u8 w A5 (R.drop q) := hcut5.drop hrR hk2 (by omega)
  have hr6 : Rd u8 w A6 (R.take q) := by
    have h := hcut6.rd u8 w _ hrR hk2 (by omega) (by omega)
    rwa [List.drop_zero] at h
  rw [Nat.sub_zero, Nat.sub_zero] at hl2 hl3
  obtain ⟨k5, hk5⟩ : ∃ k5, k2 - q = k5 := ⟨_, rfl⟩
  obtain ⟨c5, hc5⟩ : ∃ c5, c2 - q = c5 := ⟨_, rfl⟩
  rw [hk5, hc5] at hi2 hi3
  have HRD := hid (And.intro hr5 hr6)
  have HL := hid (show (R.take q).length = q ∧ (R.drop q).length = k5 ∧ k5 ≤ c5 ∧ q ≤ c2 from ⟨by rw [List.length_take]; omega, by rw [List.length_drop]; omega, by omega, by omega⟩)
  generalize R.take q = X at hr5 hr6 HRD HL ⊢
  generalize R.drop q = Y at hr5 hr6 HRD HL ⊢
  have hlq : decide ((k2 : Int) < qi) = false := decide_eq_false (by omega)
  have hqa : 0 ≤ qi := by omega
  subst hkk; subst hcc
  clear hm hmk hk hR hqi hqe hq9 hq8 hk2 hk5 hc5 hcut5 hcut6 hr5 hr6 hrR hr1 hc
  go_enter Tryd.func45, Tryd.ntmps45
  go_wp2_with fail
  refine hfx.mono ?_
  rintro e w1 ⟨rfl, rfl⟩
  go_wp2_with fail
  refine hrf.mono ?_
  rintro e w1 ⟨rfl, rfl⟩
  go_wp2_with fail
  go_ret3
  exact ZcOk.fin HRD.out HL.out (Ch.refl _ _)
set_option maxRecDepth 100000 in
set_option maxHeartbeats 1000000 in
theorem zc_217 (A : Option Addr) (c : Nat) (b : Int) (r : List Int) (q : Nat) (w : World) (hr : Rd u8 w A (b :: r)) (hc : (b :: r).length ≤ c) (e0 : b = 217) (hb : Byt r) (hn : 1 ≤ r.length) (hqe : beN (r.take 1) = (q : Int)) (hq8 : q ≤ (r.drop 1).length) :
    Calls Tryd.prog 45 #[.slice A (b :: r).length c] w (ZcOk ((r.drop 1).take q) ((r.drop 1).drop q) w) := by
  obtain ⟨A1, hk2, hk3, hcut⟩ := Cut.ahead_l 24 5 Tryd.underlying24 size_u8 A (b :: r).length c 1 1 rfl .i64 (by simp)
  have hr1 : Rd u8 w A1 r := hcut.drop hr rfl hc
  obtain ⟨bk, off, rfl, d0⟩ := hr.at_ 0 (by simp)
  replace d0 : World.cell? _ ⟨bk, off, none⟩ = some (.int .u8 b) := d0
  obtain ⟨m, hm⟩ : ∃ m, (b :: r).length = m := ⟨_, rfl⟩
  obtain ⟨k, hk⟩ : ∃ k, r.length = k := ⟨_, rfl⟩
  have hmk : m - 1 = k := by rw [← hm, ← hk]; simp
  have hlt : decide ((m : Int) < 1) = false := decide_eq_false (by rw [← hm, List.length_cons]; omega)
  have hlt' : (0 : Int) < m := by rw [← hm, List.length_cons]; omega
  have hck : k ≤ c - 1 := by rw [hm] at hc; omega
  rw [hm, hmk] at hk2 hk3
  generalize c - 1 = c1 at hk2 hk3 hck
  clear hcut hr
  subst e0
  have hfx := isfixstr_calls 217 w (by omega) (by omega)
  rw [show decide ((160 : Int) ≤ 217 ∧ (217 : Int) < 192) = false from rfl] at hfx
  obtain ⟨A2, hj2, hj3, hcut2⟩ := Cut.ahead_l 24 5 Tryd.underlying24 size_u8 A1 r.length c1 1 1 rfl .i64 hn
  have hrR0 : Rd u8 w A2 (r.drop 1) := hcut2.drop hr1 rfl (by omega)
  have hl2 : (r.drop 1).length = r.length - 1 := by simp
  obtain ⟨bk1, off1, rfl, f0⟩ := hr1.at_ 0 (by omega)
  replace f0 : World.cell? _ ⟨bk1, off1, none⟩ = some (.int .u8 r[0]) := f0
  have hqx : beN (r.take 1) = r[0] := by rw [beN_take r 0 (by omega)]; simp [beN]
  rw [← hqx] at f0
  clear hqx
  have hqr := beN_range 1 (r.take 1) (by rw [List.length_take]; omega) (hb.take 1)
  generalize beN (r.take 1) = qi at f0 hqr hqe
  have hq9 := hqe
  have hqb : qi < 256 := hqr.2
  obtain ⟨R, hR⟩ : ∃ R, r.drop 1 = R := ⟨_, rfl⟩
  have hrR : Rd u8 w A2 R := by rw [← hR]; exact hrR0
  rw [hR] at hq8 hl2 ⊢
  rw [hk] at hj2 hj3 hl2 hn
  have hdn : decide ((k : Int) < 1) = false := decide_eq_false (by omega)
  have hk0 : (0 : Int) < k := by omega
  rw [hm]
  obtain ⟨k2, hkk⟩ : ∃ x, k - 1 = x := ⟨_, rfl⟩
  obtain ⟨c2, hcc⟩ : ∃ x, c1 - 1 = x := ⟨_, rfl⟩
  have hk2 : R.length = k2 := by rw [hl2, hkk]
  have hckk : k2 ≤ c2 := by omega
  rw [hkk, hcc] at hj2 hj3
  obtain ⟨A5, hi2, hi3, hcut5⟩ := Cut.ahead_l 24 5 Tryd.underlying24 size_u8 A2 k2 c2 qi q hq9 .i64 (by omega)
  obtain ⟨A6, hl2, hl3, hcut6⟩ := Cut.ahead_lh2 24 5 Tryd.underlying24 size_u8 A2 k2 c2 0 qi 0 q rfl hq9 .i64 .i64 (by omega) (by omega)
  have hr5 : Rd u8 w A5 (R.drop q) := hcut5.drop hrR hk2 (by omega)
  have hr6 : Rd u8 w A6 (R.take q) := by
    have h := hcut6.rd u8 w _ hrR hk2 (by omega) (by omega)
    rwa [List.drop_zero] at h
  rw [Nat.sub_zero, Nat.sub_zero] at hl2 hl3
  obtain ⟨k5, hk5⟩ : ∃ k5, k2 - q = k5 := ⟨_, rfl⟩
  obtain ⟨c5, hc5⟩ : ∃ c5, c2 - q = c5 := ⟨_, rfl⟩
  rw [hk5, hc5] at hi2 hi3
  have HRD := hid (And.intro hr5 hr6)
  have HL := hid (show (R.take q).length = q ∧ (R.drop q).length = k5 ∧ k5 ≤ c5 ∧ q ≤ c2 from ⟨by rw [List.length_take]; omega, by rw [List.length_drop]; omega, by omega, by omega⟩)
  generalize R.take q = X at hr5 hr6 HRD HL ⊢
  generalize R.drop q = Y at hr5 hr6 HRD HL ⊢
  have hlq : decide ((k2 : Int) < qi) = false := decide_eq_false (by omega)
  have hqa : 0 ≤ qi := by omega
  clear hm hmk hk hR hqe hq9 hq8 hk2 hk5 hc5 hcut5 hcut6 hr5 hr6 hrR hrR0 hr1 hc hcut2 hkk hcc hckk hl2 hn hb hqr hck
  go_enter Tryd.func45, Tryd.ntmps45
  go_wp2_with fail
  refine hfx.mono ?_
  rintro e w1 ⟨rfl, rfl⟩
  go_wp2_with fail
  go_ret3
  exact ZcOk.fin HRD.out HL.out (Ch.refl _ _)
set_option maxRecDepth 100000 in
set_option maxHeartbeats 1000000 in
theorem zc_218 (A : Option Addr) (c : Nat) (b : Int) (r : List Int) (q : Nat) (w : World) (hr : Rd u8 w A (b :: r)) (hc : (b :: r).length ≤ c) (e0 : b = 218) (hb : Byt r) (hn : 2 ≤ r.length) (hqe : beN (r.take 2) = (q : Int)) (hq8 : q ≤ (r.drop 2).length) :
    Calls Tryd.prog 45 #[.slice A (b :: r).length c] w (ZcOk ((r.drop 2).take q) ((r.drop 2).drop q) w) := by
  obtain ⟨A1, hk2, hk3, hcut⟩ := Cut.ahead_l 24 5 Tryd.underlying24 size_u8 A (b :: r).length c 1 1 rfl .i64 (by simp)
  have hr1 : Rd u8 w A1 r := hcut.drop hr rfl hc
  obtain ⟨bk, off, rfl, d0⟩ := hr.at_ 0 (by simp)
  replace d0 : World.cell? _ ⟨bk, off, none⟩ = some (.int .u8 b) := d0
  obtain ⟨m, hm⟩ : ∃ m, (b :: r).length = m := ⟨_, rfl⟩
  obtain ⟨k, hk⟩ : ∃ k, r.length = k := ⟨_, rfl⟩
  have hmk : m - 1 = k := by rw [← hm, ← hk]; simp
  have hlt : decide ((m : Int) < 1) = false := decide_eq_false (by rw [← hm, List.length_cons]; omega)
  have hlt' : (0 : Int) < m := by rw [← hm, List.length_cons]; omega
  have hck : k ≤ c - 1 := by rw [hm] at hc; omega
  rw [hm, hmk] at hk2 hk3
  generalize c - 1 = c1 at hk2 hk3 hck
  clear hcut hr
  subst e0
  have hfx := isfixstr_calls 218 w (by omega) (by omega)
  rw [show decide ((160 : Int) ≤ 218 ∧ (218 : Int) < 192) = false from rfl] at hfx
  obtain ⟨A2, hj2, hj3, hcut2⟩ := Cut.ahead_l 24 5 Tryd.underlying24 size_u8 A1 r.length c1 2 2 rfl .i64 hn
  have hrR0 : Rd u8 w A2 (r.drop 2) := hcut2.drop hr1 rfl (by omega)
  have hl2 : (r.drop 2).length = r.length - 2 := by simp
  have hbe := be16_calls A1 c1 r w hr1 hb hn
  have hqr := beN_range 2 (r.take 2) (by rw [List.length_take]; omega) (hb.take 2)
  generalize beN (r.take 2) = qi at hbe hqr hqe
  have hq9 := hqe
  have hqb : qi < 65536 := hqr.2
  obtain ⟨R, hR⟩ : ∃ R, r.drop 2 = R := ⟨_, rfl⟩
  have hrR : Rd u8 w A2 R := by rw [← hR]; exact hrR0
  rw [hR] at hq8 hl2 ⊢
  rw [hk] at hj2 hj3 hl2 hn hbe
  have hdn : decide ((k : Int) < 2) = false := decide_eq_false (by omega)
  have hk0 : (0 : Int) < k := by omega
  rw [hm]
  obtain ⟨k2, hkk⟩ : ∃ x, k - 2 = x := ⟨_, rfl⟩
  obtain ⟨c2, hcc⟩ : ∃ x, c1 - 2 = x := ⟨_, rfl⟩
  have hk2 : R.length = k2 := by rw [hl2, hkk]
  have hckk : k2 ≤ c2 := by omega
  rw [hkk, hcc] at hj2 hj3
  obtain ⟨A5, hi2, hi3, hcut5⟩ := Cut.ahead_l 24 5 Tryd.underlying24 size_u8 A2 k2 c2 qi q hq9 .i64 (by omega)
  obtain ⟨A6, hl2, hl3, hcut6⟩ := Cut.ahead_lh2 24 5 Tryd.underlying24 size_u8 A2 k2 c2 0 qi 0 q rfl hq9 .i64 .i64 (by omega) (by omega)
  have hr5 : Rd u8 w A5 (R.drop q) := hcut5.drop hrR hk2 (by omega)
  have hr6 : Rd u8 w A6 (R.take q) := by
    have h := hcut6.rd u8 w _ hrR hk2 (by omega) (by omega)
    rwa [List.drop_zero] at h
  rw [Nat.sub_zero, Nat.sub_zero] at hl2 hl3
  obtain ⟨k5, hk5⟩ : ∃ k5, k2 - q = k5 := ⟨_, rfl⟩
  obtain ⟨c5, hc5⟩ : ∃ c5, c2 - q = c5 := ⟨_, rfl⟩
  rw [hk5, hc5] at hi2 hi3
  have HRD := hid (And.intro hr5 hr6)
  have HL := hid (show (R.take q).length = q ∧ (R.drop q).length = k5 ∧ k5 ≤ c5 ∧ q ≤ c2 from ⟨by rw [List.length_take]; omega, by rw [List.length_drop]; omega, by omega, by omega⟩)
  generalize R.take q = X at hr5 hr6 HRD HL ⊢
  generalize R.drop q = Y at hr5 hr6 HRD HL ⊢
  have hlq : decide ((k2 : Int) < qi) = false := decide_eq_false (by omega)
  have hqa : 0 ≤ qi := by omega
  clear hm hmk hk hR hqe hq9 hq8 hk2 hk5 hc5 hcut5 hcut6 hr5 hr6 hrR hrR0 hr1 hc hcut2 hkk hcc hckk hl2 hn hb hqr hck
  go_enter Tryd.func45, Tryd.ntmps45
  go_wp2_with fail
  refine hfx.mono ?_
  rintro e w1 ⟨rfl, rfl⟩
  go_wp2_with fail
  refine hbe.mono ?_
  rintro e w1 ⟨rfl, hch1⟩
  go_wp2_with fail
  go_ret3
  exact ZcOk.fin HRD.out HL.out (hch1)
set_option maxRecDepth 100000 in
set_option maxHeartbeats 1000000 in
theorem zc_219 (A : Option Addr) (c : Nat) (b : Int) (r : List Int) (q : Nat) (w : World) (hr : Rd u8 w A (b :: r)) (hc : (b :: r).length ≤ c) (e0 : b = 219) (hb : Byt r) (hn : 4 ≤ r.length) (hqe : beN (r.take 4) = (q : Int)) (hq8 : q ≤ (r.drop 4).length) :
    Calls Tryd.prog 45 #[.slice A (b :: r).length c] w (ZcOk ((r.drop 4).take q) ((r.drop 4).drop q) w) := by
  obtain ⟨A1, hk2, hk3, hcut⟩ := Cut.ahead_l 24 5 Tryd.underlying24 size_u8 A (b :: r).length c 1 1 rfl .i64 (by simp)
  have hr1 : Rd u8 w A1 r := hcut.drop hr rfl hc
  obtain ⟨bk, off, rfl, d0⟩ := hr.at_ 0 (by simp)
  replace d0 : World.cell? _ ⟨bk, off, none⟩ = some (.int .u8 b) := d0
  obtain ⟨m, hm⟩ : ∃ m, (b :: r).length = m := ⟨_, rfl⟩
  obtain ⟨k, hk⟩ : ∃ k, r.length = k := ⟨_, rfl⟩
  have hmk : m - 1 = k := by rw [← hm, ← hk]; simp
  have hlt : decide ((m : Int) < 1) = false := decide_eq_false (by rw [← hm, List.length_cons]; omega)
  have hlt' : (0 : Int) < m := by rw [← hm, List.length_cons]; omega
  have hck : k ≤ c - 1 := by rw [hm] at hc; omega
  rw [hm, hmk] at hk2 hk3
  generalize c - 1 = c1 at hk2 hk3 hck
  clear hcut hr
  subst e0
  have hfx := isfixstr_calls 219 w (by omega) (by omega)
  rw [show decide ((160 : Int) ≤ 219 ∧ (219 : Int) < 192) = false from rfl] at hfx
  obtain ⟨A2, hj2, hj3, hcut2⟩ := Cut.ahead_l 24 5 Tryd.underlying24 size_u8 A1 r.length c1 4 4 rfl .i64 hn
  have hrR0 : Rd u8 w A2 (r.drop 4) := hcut2.drop hr1 rfl (by omega)
  have hl2 : (r.drop 4).length = r.length - 4 := by simp
  have hbe := be32_calls A1 c1 r w hr1 hb hn
  have hqr := beN_range 4 (r.take 4) (by rw [List.length_take]; omega) (hb.take 4)
  generalize beN (r.take 4) = qi at hbe hqr hqe
  have hq9 := hqe
  have hqb : qi < 4294967296 := hqr.2
  obtain ⟨R, hR⟩ : ∃ R, r.drop 4 = R := ⟨_, rfl⟩
  have hrR : Rd u8 w A2 R := by rw [← hR]; exact hrR0
  rw [hR] at hq8 hl2 ⊢
  rw [hk] at hj2 hj3 hl2 hn hbe
  have hdn : decide ((k : Int) < 4) = false := decide_eq_false (by omega)
  have hk0 : (0 : Int) < k := by omega
  rw [hm]
  obtain ⟨k2, hkk⟩ : ∃ x, k - 4 = x := ⟨_, rfl⟩
  obtain ⟨c2, hcc⟩ : ∃ x, c1 - 4 = x := ⟨_, rfl⟩
  have hk2 : R.length = k2 := by rw [hl2, hkk]
  have hckk : k2 ≤ c2 := by omega
  rw [hkk, hcc] at hj2 hj3
  obtain ⟨A5, hi2, hi3, hcut5⟩ := Cut.ahead_l 24 5 Tryd.underlying24 size_u8 A2 k2 c2 qi q hq9 .i64 (by omega)
  obtain ⟨A6, hl2, hl3, hcut6⟩ := Cut.ahead_lh2 24 5 Tryd.underlying24 size_u8 A2 k2 c2 0 qi 0 q rfl hq9 .i64 .i64 (by omega) (by omega)
  have hr5 : Rd u8 w A5 (R.drop q) := hcut5.drop hrR hk2 (by omega)
  have hr6 : Rd u8 w A6 (R.take q) := by
    have h := hcut6.rd u8 w _ hrR hk2 (by omega) (by omega)
    rwa [List.drop_zero] at h
  rw [Nat.sub_zero, Nat.sub_zero] at hl2 hl3
  obtain ⟨k5, hk5⟩ : ∃ k5, k2 - q = k5 := ⟨_, rfl⟩
  obtain ⟨c5, hc5⟩ : ∃ c5, c2 - q = c5 := ⟨_, rfl⟩
  rw [hk5, hc5] at hi2 hi3
  have HRD := hid (And.intro hr5 hr6)
  have HL := hid (show (R.take q).length = q ∧ (R.drop q).length = k5 ∧ k5 ≤ c5 ∧ q ≤ c2 from ⟨by rw [List.length_take]; omega, by rw [List.length_drop]; omega, by omega, by omega⟩)
  generalize R.take q = X at hr5 hr6 HRD HL ⊢
  generalize R.drop q = Y at hr5 hr6 HRD HL ⊢
  have hlq : decide ((k2 : Int) < qi) = false := decide_eq_false (by omega)
  have hqa : 0 ≤ qi := by omega
  clear hm hmk hk hR hqe hq9 hq8 hk2 hk5 hc5 hcut5 hcut6 hr5 hr6 hrR hrR0 hr1 hc hcut2 hkk hcc hckk hl2 hn hb hqr hck
  go_enter Tryd.func45, Tryd.ntmps45
  go_wp2_with fail
  refine hfx.mono ?_
  rintro e w1 ⟨rfl, rfl⟩
  go_wp2_with fail
  refine hbe.mono ?_
  rintro e w1 ⟨rfl, hch1⟩
  go_wp2_with fail
  go_ret3
  exact ZcOk.fin HRD.out HL.out (hch1)

end Go.Proofs.YtooifcdkpddlmaaDoor
