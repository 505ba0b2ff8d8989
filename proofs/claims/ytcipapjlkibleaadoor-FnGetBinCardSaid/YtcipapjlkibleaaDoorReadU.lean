/- The walks of MessagePack's reader of integers without a sign. No condition. -/
import Derived.Test.YtcipapjlkibleaaDoorReadI
namespace Go.Proofs.YtcipapjlkibleaaDoor
set_option linter.unusedVariables false
set_option linter.unusedSimpArgs false
open Go.RowKit

def RuNo (w : World) (e : Ending) (w' : World) : Prop := ∃ i, 0 ≤ i ∧ i < 18446744073709551616 ∧ ∃ o T v, e = .returned (.tuple #[.int .u64 i, o, .iface T v]) ∧ Ch No w w'
def RuOk (n : Int) (r : List Int) (w : World) (e : Ending) (w' : World) : Prop := ∃ A' c', e = .returned (.tuple #[.int .u64 n, .slice A' r.length c', .nilIface]) ∧ Rd u8 w' A' r ∧ r.length ≤ c' ∧ Ch No w w'
set_option maxRecDepth 100000 in
theorem readU_nil (A : Option Addr) (c : Nat) (w : World) (hs : Sh w) : Calls Tryd.prog 28 #[.slice A 0 c] w (RuNo w) := by
  obtain ⟨T, v, hg⟩ := hs
  go_enter Tryd.func28, Tryd.ntmps28
  go_wp2_with (go_quiet (fail))
  go_ret3
  exact ⟨_, by omega, by omega, _, T, v, rfl, by repeat (first | exact Ch.refl _ _ | apply Ch.drewN | apply Ch.drew)⟩
theorem or_neg16 (a b : Int) (h0 : 128 ≤ a) (h1 : a < 256) (h2 : 0 ≤ b) (h3 : b < 256) : -32768 ≤ bits .or .i16 (a * 256 - 65536) b ∧ bits .or .i16 (a * 256 - 65536) b < 0 := by
  have h : ∀ x : Fin 128, ∀ y : Fin 256, -32768 ≤ bits .or .i16 (((x.val : Int) + 128) * 256 - 65536) (y.val : Int) ∧ bits .or .i16 (((x.val : Int) + 128) * 256 - 65536) (y.val : Int) < 0 := by decide +kernel
  have := h ⟨(a - 128).toNat, by omega⟩ ⟨b.toNat, by omega⟩
  rwa [show (((a - 128).toNat : Nat) : Int) + 128 = a by omega, show ((b.toNat : Nat) : Int) = b by omega] at this
set_option maxRecDepth 100000 in
set_option maxHeartbeats 1000000 in
theorem readU_fix (A : Option Addr) (c : Nat) (b : Int) (r : List Int) (w : World) (hr : Rd u8 w A (b :: r)) (hc : (b :: r).length ≤ c) (h0 : 0 ≤ b) (h1 : b < 128) :
    Calls Tryd.prog 28 #[.slice A (b :: r).length c] w (RuOk b r w) := by
  obtain ⟨A1, hk2, hk3, hcut⟩ := Cut.ahead_l 24 5 Tryd.underlying24 size_u8 A (b :: r).length c 1 1 rfl .i64 (by simp)
  have hr1 : Rd u8 w A1 r := hcut.drop hr rfl hc
  obtain ⟨bk, off, rfl, d0⟩ := hr.at_ 0 (by simp)
  replace d0 : World.cell? _ ⟨bk, off, none⟩ = some (.int .u8 b) := d0
  obtain ⟨m, hm⟩ : ∃ m, (b :: r).length = m := ⟨_, rfl⟩
  obtain ⟨k, hk⟩ : ∃ k, r.length = k := ⟨_, rfl⟩
  have hmk : m - 1 = k := by rw [← hm, ← hk]; simp
  have hlt : decide ((m : Int) < 1) = false := decide_eq_false (by rw [← hm, List.length_cons]; omega)
  have hlt' : (0 : Int) < m := by rw [← hm, List.length_cons]; omega
  have hck : k ≤ c - 1 := by rw [hm] at hc; omega
  rw [hm, hmk] at hk2 hk3
  generalize c - 1 = c1 at hk2 hk3 hck
  clear hcut hr
  have hfx := isfixint_calls b w (by omega) (by omega)
  rw [show decide (b < 128) = true from decide_eq_true h1] at hfx
  have hrf := rfixint_calls b w h0 h1
  rw [hm]
  clear hm hmk
  have HK := hid hk
  clear hk
  go_enter Tryd.func28, Tryd.ntmps28
  go_wp2_with fail
  refine hfx.mono ?_
  rintro e w1 ⟨rfl, rfl⟩
  go_wp2_with fail
  refine hrf.mono ?_
  rintro e w1 ⟨rfl, rfl⟩
  go_wp2_with fail
  go_ret3
  obtain rfl := HK.out
  exact ⟨A1, c1, rfl, hr1, hck, Ch.refl _ _⟩
set_option maxRecDepth 100000 in
set_option maxHeartbeats 1000000 in
theorem readU_short_s8 (A : Option Addr) (c : Nat) (b : Int) (r : List Int) (w : World) (hr : Rd u8 w A (b :: r)) (hc : (b :: r).length ≤ c) (hs : Sh w) (hn : r.length < 1) (e0 : b = 208) :
    Calls Tryd.prog 28 #[.slice A (b :: r).length c] w (RuNo w) := by
  obtain ⟨A1, hk2, hk3, hcut⟩ := Cut.ahead_l 24 5 Tryd.underlying24 size_u8 A (b :: r).length c 1 1 rfl .i64 (by simp)
  have hr1 : Rd u8 w A1 r := hcut.drop hr rfl hc
  obtain ⟨bk, off, rfl, d0⟩ := hr.at_ 0 (by simp)
  replace d0 : World.cell? _ ⟨bk, off, none⟩ = some (.int .u8 b) := d0
  obtain ⟨m, hm⟩ : ∃ m, (b :: r).length = m := ⟨_, rfl⟩
  obtain ⟨k, hk⟩ : ∃ k, r.length = k := ⟨_, rfl⟩
  have hmk : m - 1 = k := by rw [← hm, ← hk]; simp
  have hlt : decide ((m : Int) < 1) = false := decide_eq_false (by rw [← hm, List.length_cons]; omega)
  have hlt' : (0 : Int) < m := by rw [← hm, List.length_cons]; omega
  have hck : k ≤ c - 1 := by rw [hm] at hc; omega
  rw [hm, hmk] at hk2 hk3
  generalize c - 1 = c1 at hk2 hk3 hck
  clear hcut hr
  subst e0
  have hfx := isfixint_calls 208 w (by omega) (by omega)
  rw [show decide ((208 : Int) < 128) = false from rfl] at hfx
  rw [hk] at hn
  obtain ⟨T, v, hg⟩ := hs
  have hdn : decide ((k : Int) < 1) = true := decide_eq_true (by omega)
  rw [hm]
  clear hm hmk hk
  go_enter Tryd.func28, Tryd.ntmps28
  go_wp2_with fail
  refine hfx.mono ?_
  rintro e w1 ⟨rfl, rfl⟩
  go_wp2_with fail
  go_ret3
  exact ⟨_, by omega, by omega, _, T, v, rfl, Ch.refl _ _⟩
set_option maxRecDepth 100000 in
set_option maxHeartbeats 1000000 in
theorem readU_s8 (A : Option Addr) (c : Nat) (b : Int) (r : List Int) (w : World) (hr : Rd u8 w A (b :: r)) (hc : (b :: r).length ≤ c) (hb : Byt r) (hn : 1 ≤ r.length) (hz : beN (r.take 1) < 128) (e0 : b = 208) :
    Calls Tryd.prog 28 #[.slice A (b :: r).length c] w (RuOk (beN (r.take 1)) (r.drop 1) w) := by
  obtain ⟨A1, hk2, hk3, hcut⟩ := Cut.ahead_l 24 5 Tryd.underlying24 size_u8 A (b :: r).length c 1 1 rfl .i64 (by simp)
  have hr1 : Rd u8 w A1 r := hcut.drop hr rfl hc
  obtain ⟨bk, off, rfl, d0⟩ := hr.at_ 0 (by simp)
  replace d0 : World.cell? _ ⟨bk, off, none⟩ = some (.int .u8 b) := d0
  obtain ⟨m, hm⟩ : ∃ m, (b :: r).length = m := ⟨_, rfl⟩
  obtain ⟨k, hk⟩ : ∃ k, r.length = k := ⟨_, rfl⟩
  have hmk : m - 1 = k := by rw [← hm, ← hk]; simp
  have hlt : decide ((m : Int) < 1) = false := decide_eq_false (by rw [← hm, List.length_cons]; omega)
  have hlt' : (0 : Int) < m := by rw [← hm, List.length_cons]; omega
  have hck : k ≤ c - 1 := by rw [hm] at hc; omega
  rw [hm, hmk] at hk2 hk3
  generalize c - 1 = c1 at hk2 hk3 hck
  clear hcut hr
  subst e0
  have hfx := isfixint_calls 208 w (by omega) (by omega)
  rw [show decide ((208 : Int) < 128) = false from rfl] at hfx
  obtain ⟨A2, hj2, hj3, hcut2⟩ := Cut.ahead_l 24 5 Tryd.underlying24 size_u8 A1 r.length c1 1 1 rfl .i64 hn
  have hr2 := fun W (h : Rd u8 W A1 r) => hcut2.drop h rfl (by omega)
  have hl2 : (r.drop 1).length = r.length - 1 := by simp
  obtain ⟨bk1, off1, rfl, f0⟩ := hr1.at_ 0 (by omega)
  replace f0 : World.cell? _ ⟨bk1, off1, none⟩ = some (.int .u8 r[0]) := f0
  have hq0 : beN (r.take 1) = r[0] := beN_one r[0] r.tail (by cases r with | nil => simp at hn | cons _ _ => rfl)
  have hq := beN_range 1 (r.take 1) (by rw [List.length_take]; omega) (hb.take 1)
  rw [← hq0] at f0
  clear hq0
  obtain ⟨R, hR⟩ : ∃ R, r.drop 1 = R := ⟨_, rfl⟩
  have HR : Hid (∀ W : World, Rd u8 W (some ⟨bk1, off1, none⟩) r → Rd u8 W A2 R) := fun W h => by rw [← hR]; exact hr2 W h
  rw [hR] at hl2 ⊢
  rw [hk] at hj2 hj3 hl2 hn
  generalize beN (r.take 1) = q at f0 hq hz ⊢
  have hdn : decide ((k : Int) < 1) = false := decide_eq_false (by omega)
  rw [hm]
  have hk0 : (0 : Int) < k := by omega
  obtain ⟨s, hs⟩ : ∃ s, IntKind.i8.wrap q = s := ⟨_, rfl⟩
  have hsr : -128 ≤ s ∧ s < 128 ∧ (s = q ∨ s = q - 256) := by rw [← hs]; simp [IntKind.wrap, IntKind.bits, IntKind.signed]; omega
  have hsq : s = q := by omega
  have hneg : decide (s < 0) = false := decide_eq_false (by omega)
  rw [hsq] at hs hneg hsr
  clear hsq
  have hw64 : 0 ≤ q := hq.1
  have hq2 : q < 256 := hq.2
  have hle2 : R.length ≤ c1 - 1 := by omega
  generalize c1 - 1 = c2 at hj2 hj3 hle2
  obtain ⟨k2, hk2e⟩ : ∃ k2, k - 1 = k2 := ⟨_, rfl⟩
  rw [hk2e] at hj2 hj3 hl2
  have HL2 := hid hl2
  clear hm hmk hk hl2 hr2 hcut2 hR hk2e hn hb hz
  go_enter Tryd.func28, Tryd.ntmps28
  go_wp2_with fail
  refine hfx.mono ?_
  rintro e w1 ⟨rfl, rfl⟩
  go_wp2_with fail
  go_ret3
  obtain rfl := HL2.out
  exact ⟨A2, c2, rfl, HR _ hr1, hle2, Ch.refl _ _⟩
set_option maxRecDepth 100000 in
set_option maxHeartbeats 1000000 in
theorem readU_s8_no (A : Option Addr) (c : Nat) (b : Int) (r : List Int) (w : World) (hr : Rd u8 w A (b :: r)) (hc : (b :: r).length ≤ c) (hb : Byt r) (hn : 1 ≤ r.length) (hz : 128 ≤ beN (r.take 1)) (e0 : b = 208) :
    Calls Tryd.prog 28 #[.slice A (b :: r).length c] w (RuNo w) := by
  obtain ⟨A1, hk2, hk3, hcut⟩ := Cut.ahead_l 24 5 Tryd.underlying24 size_u8 A (b :: r).length c 1 1 rfl .i64 (by simp)
  have hr1 : Rd u8 w A1 r := hcut.drop hr rfl hc
  obtain ⟨bk, off, rfl, d0⟩ := hr.at_ 0 (by simp)
  replace d0 : World.cell? _ ⟨bk, off, none⟩ = some (.int .u8 b) := d0
  obtain ⟨m, hm⟩ : ∃ m, (b :: r).length = m := ⟨_, rfl⟩
  obtain ⟨k, hk⟩ : ∃ k, r.length = k := ⟨_, rfl⟩
  have hmk : m - 1 = k := by rw [← hm, ← hk]; simp
  have hlt : decide ((m : Int) < 1) = false := decide_eq_false (by rw [← hm, List.length_cons]; omega)
  have hlt' : (0 : Int) < m := by rw [← hm, List.length_cons]; omega
  have hck : k ≤ c - 1 := by rw [hm] at hc; omega
  rw [hm, hmk] at hk2 hk3
  generalize c - 1 = c1 at hk2 hk3 hck
  clear hcut hr
  subst e0
  have hfx := isfixint_calls 208 w (by omega) (by omega)
  rw [show decide ((208 : Int) < 128) = false from rfl] at hfx
  obtain ⟨A2, hj2, hj3, hcut2⟩ := Cut.ahead_l 24 5 Tryd.underlying24 size_u8 A1 r.length c1 1 1 rfl .i64 hn
  have hr2 := fun W (h : Rd u8 W A1 r) => hcut2.drop h rfl (by omega)
  have hl2 : (r.drop 1).length = r.length - 1 := by simp
  obtain ⟨bk1, off1, rfl, f0⟩ := hr1.at_ 0 (by omega)
  replace f0 : World.cell? _ ⟨bk1, off1, none⟩ = some (.int .u8 r[0]) := f0
  have hq0 : beN (r.take 1) = r[0] := beN_one r[0] r.tail (by cases r with | nil => simp at hn | cons _ _ => rfl)
  have hq := beN_range 1 (r.take 1) (by rw [List.length_take]; omega) (hb.take 1)
  rw [← hq0] at f0
  clear hq0
  obtain ⟨R, hR⟩ : ∃ R, r.drop 1 = R := ⟨_, rfl⟩
  have HR : Hid (∀ W : World, Rd u8 W (some ⟨bk1, off1, none⟩) r → Rd u8 W A2 R) := fun W h => by rw [← hR]; exact hr2 W h
  rw [hR] at hl2
  rw [hk] at hj2 hj3 hl2 hn
  generalize beN (r.take 1) = q at f0 hq hz
  have hdn : decide ((k : Int) < 1) = false := decide_eq_false (by omega)
  rw [hm]
  have hk0 : (0 : Int) < k := by omega
  obtain ⟨s, hs⟩ : ∃ s, IntKind.i8.wrap q = s := ⟨_, rfl⟩
  have hsr : -128 ≤ s ∧ s < 128 ∧ (s = q ∨ s = q - 256) := by rw [← hs]; simp [IntKind.wrap, IntKind.bits, IntKind.signed]; omega
  have hneg : decide (s < 0) = true := decide_eq_true (by omega)
  have hw64 : 0 ≤ q := hq.1
  have hq2 : q < 256 := hq.2
  have hle2 : R.length ≤ c1 - 1 := by omega
  generalize c1 - 1 = c2 at hj2 hj3 hle2
  obtain ⟨k2, hk2e⟩ : ∃ k2, k - 1 = k2 := ⟨_, rfl⟩
  rw [hk2e] at hj2 hj3 hl2
  have HL2 := hid hl2
  clear hm hmk hk hl2 hr2 hcut2 hR hk2e hn hb hz
  go_enter Tryd.func28, Tryd.ntmps28
  go_wp2_with fail
  refine hfx.mono ?_
  rintro e w1 ⟨rfl, rfl⟩
  go_wp2_with fail
  go_ret3
  exact ⟨_, by omega, by omega, _, _, _, rfl, Ch.refl _ _⟩
set_option maxRecDepth 100000 in
set_option maxHeartbeats 1000000 in
theorem readU_short_u8 (A : Option Addr) (c : Nat) (b : Int) (r : List Int) (w : World) (hr : Rd u8 w A (b :: r)) (hc : (b :: r).length ≤ c) (hs : Sh w) (hn : r.length < 1) (e0 : b = 204) :
    Calls Tryd.prog 28 #[.slice A (b :: r).length c] w (RuNo w) := by
  obtain ⟨A1, hk2, hk3, hcut⟩ := Cut.ahead_l 24 5 Tryd.underlying24 size_u8 A (b :: r).length c 1 1 rfl .i64 (by simp)
  have hr1 : Rd u8 w A1 r := hcut.drop hr rfl hc
  obtain ⟨bk, off, rfl, d0⟩ := hr.at_ 0 (by simp)
  replace d0 : World.cell? _ ⟨bk, off, none⟩ = some (.int .u8 b) := d0
  obtain ⟨m, hm⟩ : ∃ m, (b :: r).length = m := ⟨_, rfl⟩
  obtain ⟨k, hk⟩ : ∃ k, r.length = k := ⟨_, rfl⟩
  have hmk : m - 1 = k := by rw [← hm, ← hk]; simp
  have hlt : decide ((m : Int) < 1) = false := decide_eq_false (by rw [← hm, List.length_cons]; omega)
  have hlt' : (0 : Int) < m := by rw [← hm, List.length_cons]; omega
  have hck : k ≤ c - 1 := by rw [hm] at hc; omega
  rw [hm, hmk] at hk2 hk3
  generalize c - 1 = c1 at hk2 hk3 hck
  clear hcut hr
  subst e0
  have hfx := isfixint_calls 204 w (by omega) (by omega)
  rw [show decide ((204 : Int) < 128) = false from rfl] at hfx
  rw [hk] at hn
  obtain ⟨T, v, hg⟩ := hs
  have hdn : decide ((k : Int) < 1) = true := decide_eq_true (by omega)
  rw [hm]
  clear hm hmk hk
  go_enter Tryd.func28, Tryd.ntmps28
  go_wp2_with fail
  refine hfx.mono ?_
  rintro e w1 ⟨rfl, rfl⟩
  go_wp2_with fail
  go_ret3
  exact ⟨_, by omega, by omega, _, T, v, rfl, Ch.refl _ _⟩
set_option maxRecDepth 100000 in
set_option maxHeartbeats 1000000 in
theorem readU_u8 (A : Option Addr) (c : Nat) (b : Int) (r : List Int) (w : World) (hr : Rd u8 w A (b :: r)) (hc : (b :: r).length ≤ c) (hb : Byt r) (hn : 1 ≤ r.length) (hz : True) (e0 : b = 204) :
    Calls Tryd.prog 28 #[.slice A (b :: r).length c] w (RuOk (beN (r.take 1)) (r.drop 1) w) := by
  obtain ⟨A1, hk2, hk3, hcut⟩ := Cut.ahead_l 24 5 Tryd.underlying24 size_u8 A (b :: r).length c 1 1 rfl .i64 (by simp)
  have hr1 : Rd u8 w A1 r := hcut.drop hr rfl hc
  obtain ⟨bk, off, rfl, d0⟩ := hr.at_ 0 (by simp)
  replace d0 : World.cell? _ ⟨bk, off, none⟩ = some (.int .u8 b) := d0
  obtain ⟨m, hm⟩ : ∃ m, (b :: r).length = m := ⟨_, rfl⟩
  obtain ⟨k, hk⟩ : ∃ k, r.length = k := ⟨_, rfl⟩
  have hmk : m - 1 = k := by rw [← hm, ← hk]; simp
  have hlt : decide ((m : Int) < 1) = false := decide_eq_false (by rw [← hm, List.length_cons]; omega)
  have hlt' : (0 : Int) < m := by rw [← hm, List.length_cons]; omega
  have hck : k ≤ c - 1 := by rw [hm] at hc; omega
  rw [hm, hmk] at hk2 hk3
  generalize c - 1 = c1 at hk2 hk3 hck
  clear hcut hr
  subst e0
  have hfx := isfixint_calls 204 w (by omega) (by omega)
  rw [show decide ((204 : Int) < 128) = false from rfl] at hfx
  obtain ⟨A2, hj2, hj3, hcut2⟩ := Cut.ahead_l 24 5 Tryd.underlying24 size_u8 A1 r.length c1 1 1 rfl .i64 hn
  have hr2 := fun W (h : Rd u8 W A1 r) => hcut2.drop h rfl (by omega)
  have hl2 : (r.drop 1).length = r.length - 1 := by simp
  obtain ⟨bk1, off1, rfl, f0⟩ := hr1.at_ 0 (by omega)
  replace f0 : World.cell? _ ⟨bk1, off1, none⟩ = some (.int .u8 r[0]) := f0
  have hq0 : beN (r.take 1) = r[0] := beN_one r[0] r.tail (by cases r with | nil => simp at hn | cons _ _ => rfl)
  have hq := beN_range 1 (r.take 1) (by rw [List.length_take]; omega) (hb.take 1)
  rw [← hq0] at f0
  clear hq0
  obtain ⟨R, hR⟩ : ∃ R, r.drop 1 = R := ⟨_, rfl⟩
  have HR : Hid (∀ W : World, Rd u8 W (some ⟨bk1, off1, none⟩) r → Rd u8 W A2 R) := fun W h => by rw [← hR]; exact hr2 W h
  rw [hR] at hl2 ⊢
  rw [hk] at hj2 hj3 hl2 hn
  generalize beN (r.take 1) = q at f0 hq hz ⊢
  have hdn : decide ((k : Int) < 1) = false := decide_eq_false (by omega)
  rw [hm]
  have hk0 : (0 : Int) < k := by omega
  have hw64 : 0 ≤ q := hq.1
  have hq2 : q < 256 := hq.2
  have hle2 : R.length ≤ c1 - 1 := by omega
  generalize c1 - 1 = c2 at hj2 hj3 hle2
  obtain ⟨k2, hk2e⟩ : ∃ k2, k - 1 = k2 := ⟨_, rfl⟩
  rw [hk2e] at hj2 hj3 hl2
  have HL2 := hid hl2
  clear hm hmk hk hl2 hr2 hcut2 hR hk2e hn hb hz
  go_enter Tryd.func28, Tryd.ntmps28
  go_wp2_with fail
  refine hfx.mono ?_
  rintro e w1 ⟨rfl, rfl⟩
  go_wp2_with fail
  go_ret3
  obtain rfl := HL2.out
  exact ⟨A2, c2, rfl, HR _ hr1, hle2, Ch.refl _ _⟩
set_option maxRecDepth 100000 in
set_option maxHeartbeats 1000000 in
theorem readU_short_s16 (A : Option Addr) (c : Nat) (b : Int) (r : List Int) (w : World) (hr : Rd u8 w A (b :: r)) (hc : (b :: r).length ≤ c) (hs : Sh w) (hn : r.length < 2) (e0 : b = 209) :
    Calls Tryd.prog 28 #[.slice A (b :: r).length c] w (RuNo w) := by
  obtain ⟨A1, hk2, hk3, hcut⟩ := Cut.ahead_l 24 5 Tryd.underlying24 size_u8 A (b :: r).length c 1 1 rfl .i64 (by simp)
  have hr1 : Rd u8 w A1 r := hcut.drop hr rfl hc
  obtain ⟨bk, off, rfl, d0⟩ := hr.at_ 0 (by simp)
  replace d0 : World.cell? _ ⟨bk, off, none⟩ = some (.int .u8 b) := d0
  obtain ⟨m, hm⟩ : ∃ m, (b :: r).length = m := ⟨_, rfl⟩
  obtain ⟨k, hk⟩ : ∃ k, r.length = k := ⟨_, rfl⟩
  have hmk : m - 1 = k := by rw [← hm, ← hk]; simp
  have hlt : decide ((m : Int) < 1) = false := decide_eq_false (by rw [← hm, List.length_cons]; omega)
  have hlt' : (0 : Int) < m := by rw [← hm, List.length_cons]; omega
  have hck : k ≤ c - 1 := by rw [hm] at hc; omega
  rw [hm, hmk] at hk2 hk3
  generalize c - 1 = c1 at hk2 hk3 hck
  clear hcut hr
  subst e0
  have hfx := isfixint_calls 209 w (by omega) (by omega)
  rw [show decide ((209 : Int) < 128) = false from rfl] at hfx
  rw [hk] at hn
  obtain ⟨T, v, hg⟩ := hs
  have hdn : decide ((k : Int) < 2) = true := decide_eq_true (by omega)
  rw [hm]
  clear hm hmk hk
  go_enter Tryd.func28, Tryd.ntmps28
  go_wp2_with fail
  refine hfx.mono ?_
  rintro e w1 ⟨rfl, rfl⟩
  go_wp2_with fail
  go_ret3
  exact ⟨_, by omega, by omega, _, T, v, rfl, Ch.refl _ _⟩
set_option maxRecDepth 100000 in
set_option maxHeartbeats 1000000 in
theorem readU_s16 (A : Option Addr) (c : Nat) (b : Int) (r : List Int) (w : World) (hr : Rd u8 w A (b :: r)) (hc : (b :: r).length ≤ c) (hb : Byt r) (hn : 2 ≤ r.length) (hz : beN (r.take 2) < 32768) (e0 : b = 209) :
    Calls Tryd.prog 28 #[.slice A (b :: r).length c] w (RuOk (beN (r.take 2)) (r.drop 2) w) := by
  obtain ⟨A1, hk2, hk3, hcut⟩ := Cut.ahead_l 24 5 Tryd.underlying24 size_u8 A (b :: r).length c 1 1 rfl .i64 (by simp)
  have hr1 : Rd u8 w A1 r := hcut.drop hr rfl hc
  obtain ⟨bk, off, rfl, d0⟩ := hr.at_ 0 (by simp)
  replace d0 : World.cell? _ ⟨bk, off, none⟩ = some (.int .u8 b) := d0
  obtain ⟨m, hm⟩ : ∃ m, (b :: r).length = m := ⟨_, rfl⟩
  obtain ⟨k, hk⟩ : ∃ k, r.length = k := ⟨_, rfl⟩
  have hmk : m - 1 = k := by rw [← hm, ← hk]; simp
  have hlt : decide ((m : Int) < 1) = false := decide_eq_false (by rw [← hm, List.length_cons]; omega)
  have hlt' : (0 : Int) < m := by rw [← hm, List.length_cons]; omega
  have hck : k ≤ c - 1 := by rw [hm] at hc; omega
  rw [hm, hmk] at hk2 hk3
  generalize c - 1 = c1 at hk2 hk3 hck
  clear hcut hr
  subst e0
  have hfx := isfixint_calls 209 w (by omega) (by omega)
  rw [show decide ((209 : Int) < 128) = false from rfl] at hfx
  obtain ⟨A2, hj2, hj3, hcut2⟩ := Cut.ahead_l 24 5 Tryd.underlying24 size_u8 A1 r.length c1 2 2 rfl .i64 hn
  have hr2 := fun W (h : Rd u8 W A1 r) => hcut2.drop h rfl (by omega)
  have hl2 : (r.drop 2).length = r.length - 2 := by simp
  obtain ⟨bk1, off1, rfl, f0⟩ := hr1.at_ 0 (by omega)
  obtain ⟨bk1', off1', he, f1⟩ := hr1.at_ 1 (by omega)
  injection he with he
  injection he with he1 he2
  subst he1; subst he2
  replace f0 : World.cell? _ ⟨bk1, off1, none⟩ = some (.int .u8 r[0]) := f0
  replace f1 : World.cell? _ ⟨bk1, off1 + 1, none⟩ = some (.int .u8 r[1]) := f1
  have g0 := hb _ (List.getElem_mem (show 0 < r.length by omega))
  have g1 := hb _ (List.getElem_mem (show 1 < r.length by omega))
  have hq0 : beN (r.take 2) = r[0] * 256 + r[1] := by
    have h2 := beN_take r 1 (by omega)
    rw [h2, beN_one r[0] r.tail (by cases r with | nil => simp at hn | cons _ _ => rfl)]
    rfl
  rw [hq0] at hz ⊢
  obtain ⟨R, hR⟩ : ∃ R, r.drop 2 = R := ⟨_, rfl⟩
  have HR : Hid (∀ W : World, Rd u8 W (some ⟨bk1, off1, none⟩) r → Rd u8 W A2 R) := fun W h => by rw [← hR]; exact hr2 W h
  rw [hR] at hl2 ⊢
  rw [hk] at hj2 hj3 hl2 hn
  clear hq0 hb
  generalize r[0] = y0 at f0 g0 hz ⊢
  generalize r[1] = y1 at f1 g1 hz ⊢
  have hdn : decide ((k : Int) < 2) = false := decide_eq_false (by omega)
  rw [hm]
  have hk0 : (0 : Int) < k := by omega
  have hk1 : (1 : Int) < k := by omega
  have hle2 : R.length ≤ c1 - 2 := by omega
  generalize c1 - 2 = c2 at hj2 hj3 hle2
  obtain ⟨k2, hk2e⟩ : ∃ k2, k - 2 = k2 := ⟨_, rfl⟩
  rw [hk2e] at hj2 hj3 hl2
  have HL2 := hid hl2
  clear hm hmk hk hl2 hr2 hcut2 hR hk2e hn
  have hz0 : IntKind.i16.wrap (y0 * 256) = y0 * 256 := by simp [IntKind.wrap, IntKind.bits, IntKind.signed]; omega
  have hz1 : bits .or .i16 (y0 * 256) y1 = y0 * 256 + y1 := bits_join .i16 15 (by decide) (fun n h0 h1 => by simp [IntKind.wrap, IntKind.bits, IntKind.signed]; omega) 8 (y0 * 256) y1 (by omega) (by omega) (by omega) (by omega) (by omega) (by omega)
  have hneg : decide (y0 * 256 + y1 < 0) = false := decide_eq_false (by omega)
  have hb0 : 0 ≤ y0 * 256 + y1 := by omega
  clear hz
  go_enter Tryd.func28, Tryd.ntmps28
  go_wp2_with (go_quiet (fail))
  refine hfx.mono ?_
  rintro e w1 ⟨rfl, rfl⟩
  go_wp2_with (go_quiet (fail))
  go_ret3
  obtain rfl := HL2.out
  exact ⟨A2, c2, rfl, HR _ (by repeat (first | exact hr1 | refine Rd.keep0 ?_ (Ch.refl No _).drew | refine Rd.keep0 ?_ ((Ch.refl No _).drewN _))), hle2, by repeat (first | exact Ch.refl _ _ | apply Ch.drewN | apply Ch.drew)⟩
set_option maxRecDepth 100000 in
set_option maxHeartbeats 1000000 in
theorem readU_s16_no (A : Option Addr) (c : Nat) (b : Int) (r : List Int) (w : World) (hr : Rd u8 w A (b :: r)) (hc : (b :: r).length ≤ c) (hb : Byt r) (hn : 2 ≤ r.length) (hz : 32768 ≤ beN (r.take 2)) (e0 : b = 209) :
    Calls Tryd.prog 28 #[.slice A (b :: r).length c] w (RuNo w) := by
  obtain ⟨A1, hk2, hk3, hcut⟩ := Cut.ahead_l 24 5 Tryd.underlying24 size_u8 A (b :: r).length c 1 1 rfl .i64 (by simp)
  have hr1 : Rd u8 w A1 r := hcut.drop hr rfl hc
  obtain ⟨bk, off, rfl, d0⟩ := hr.at_ 0 (by simp)
  replace d0 : World.cell? _ ⟨bk, off, none⟩ = some (.int .u8 b) := d0
  obtain ⟨m, hm⟩ : ∃ m, (b :: r).length = m := ⟨_, rfl⟩
  obtain ⟨k, hk⟩ : ∃ k, r.length = k := ⟨_, rfl⟩
  have hmk : m - 1 = k := by rw [← hm, ← hk]; simp
  have hlt : decide ((m : Int) < 1) = false := decide_eq_false (by rw [← hm, List.length_cons]; omega)
  have hlt' : (0 : Int) < m := by rw [← hm, List.length_cons]; omega
  have hck : k ≤ c - 1 := by rw [hm] at hc; omega
  rw [hm, hmk] at hk2 hk3
  generalize c - 1 = c1 at hk2 hk3 hck
  clear hcut hr
  subst e0
  have hfx := isfixint_calls 209 w (by omega) (by omega)
  rw [show decide ((209 : Int) < 128) = false from rfl] at hfx
  obtain ⟨A2, hj2, hj3, hcut2⟩ := Cut.ahead_l 24 5 Tryd.underlying24 size_u8 A1 r.length c1 2 2 rfl .i64 hn
  have hr2 := fun W (h : Rd u8 W A1 r) => hcut2.drop h rfl (by omega)
  have hl2 : (r.drop 2).length = r.length - 2 := by simp
  obtain ⟨bk1, off1, rfl, f0⟩ := hr1.at_ 0 (by omega)
  obtain ⟨bk1', off1', he, f1⟩ := hr1.at_ 1 (by omega)
  injection he with he
  injection he with he1 he2
  subst he1; subst he2
  replace f0 : World.cell? _ ⟨bk1, off1, none⟩ = some (.int .u8 r[0]) := f0
  replace f1 : World.cell? _ ⟨bk1, off1 + 1, none⟩ = some (.int .u8 r[1]) := f1
  have g0 := hb _ (List.getElem_mem (show 0 < r.length by omega))
  have g1 := hb _ (List.getElem_mem (show 1 < r.length by omega))
  have hq0 : beN (r.take 2) = r[0] * 256 + r[1] := by
    have h2 := beN_take r 1 (by omega)
    rw [h2, beN_one r[0] r.tail (by cases r with | nil => simp at hn | cons _ _ => rfl)]
    rfl
  rw [hq0] at hz
  obtain ⟨R, hR⟩ : ∃ R, r.drop 2 = R := ⟨_, rfl⟩
  have HR : Hid (∀ W : World, Rd u8 W (some ⟨bk1, off1, none⟩) r → Rd u8 W A2 R) := fun W h => by rw [← hR]; exact hr2 W h
  rw [hR] at hl2
  rw [hk] at hj2 hj3 hl2 hn
  clear hq0 hb
  generalize r[0] = y0 at f0 g0 hz
  generalize r[1] = y1 at f1 g1 hz
  have hdn : decide ((k : Int) < 2) = false := decide_eq_false (by omega)
  rw [hm]
  have hk0 : (0 : Int) < k := by omega
  have hk1 : (1 : Int) < k := by omega
  have hle2 : R.length ≤ c1 - 2 := by omega
  generalize c1 - 2 = c2 at hj2 hj3 hle2
  obtain ⟨k2, hk2e⟩ : ∃ k2, k - 2 = k2 := ⟨_, rfl⟩
  rw [hk2e] at hj2 hj3 hl2
  have HL2 := hid hl2
  clear hm hmk hk hl2 hr2 hcut2 hR hk2e hn
  obtain ⟨t, ht⟩ : ∃ t, bits .or .i16 (y0 * 256 - 65536) y1 = t := ⟨_, rfl⟩
  have hz0 : IntKind.i16.wrap (y0 * 256) = y0 * 256 - 65536 := by simp [IntKind.wrap, IntKind.bits, IntKind.signed]; omega
  have htl : -32768 ≤ t ∧ t < 0 := by rw [← ht]; exact or_neg16 y0 y1 (by omega) (by omega) g1.1 g1.2
  have htn : t < 0 := htl.2
  have htm : -32768 ≤ t := htl.1
  have hneg : decide (t < 0) = true := decide_eq_true htn
  clear hz
  go_enter Tryd.func28, Tryd.ntmps28
  go_wp2_with (go_quiet (fail))
  refine hfx.mono ?_
  rintro e w1 ⟨rfl, rfl⟩
  go_wp2_with (go_quiet (fail))
  go_ret3
  exact ⟨_, by omega, by omega, _, _, _, rfl, by repeat (first | exact Ch.refl _ _ | apply Ch.drewN | apply Ch.drew)⟩
set_option maxRecDepth 100000 in
set_option maxHeartbeats 1000000 in
theorem readU_short_u16 (A : Option Addr) (c : Nat) (b : Int) (r : List Int) (w : World) (hr : Rd u8 w A (b :: r)) (hc : (b :: r).length ≤ c) (hs : Sh w) (hn : r.length < 2) (e0 : b = 205) :
    Calls Tryd.prog 28 #[.slice A (b :: r).length c] w (RuNo w) := by
  obtain ⟨A1, hk2, hk3, hcut⟩ := Cut.ahead_l 24 5 Tryd.underlying24 size_u8 A (b :: r).length c 1 1 rfl .i64 (by simp)
  have hr1 : Rd u8 w A1 r := hcut.drop hr rfl hc
  obtain ⟨bk, off, rfl, d0⟩ := hr.at_ 0 (by simp)
  replace d0 : World.cell? _ ⟨bk, off, none⟩ = some (.int .u8 b) := d0
  obtain ⟨m, hm⟩ : ∃ m, (b :: r).length = m := ⟨_, rfl⟩
  obtain ⟨k, hk⟩ : ∃ k, r.length = k := ⟨_, rfl⟩
  have hmk : m - 1 = k := by rw [← hm, ← hk]; simp
  have hlt : decide ((m : Int) < 1) = false := decide_eq_false (by rw [← hm, List.length_cons]; omega)
  have hlt' : (0 : Int) < m := by rw [← hm, List.length_cons]; omega
  have hck : k ≤ c - 1 := by rw [hm] at hc; omega
  rw [hm, hmk] at hk2 hk3
  generalize c - 1 = c1 at hk2 hk3 hck
  clear hcut hr
  subst e0
  have hfx := isfixint_calls 205 w (by omega) (by omega)
  rw [show decide ((205 : Int) < 128) = false from rfl] at hfx
  rw [hk] at hn
  obtain ⟨T, v, hg⟩ := hs
  have hdn : decide ((k : Int) < 2) = true := decide_eq_true (by omega)
  rw [hm]
  clear hm hmk hk
  go_enter Tryd.func28, Tryd.ntmps28
  go_wp2_with fail
  refine hfx.mono ?_
  rintro e w1 ⟨rfl, rfl⟩
  go_wp2_with fail
  go_ret3
  exact ⟨_, by omega, by omega, _, T, v, rfl, Ch.refl _ _⟩
set_option maxRecDepth 100000 in
set_option maxHeartbeats 1000000 in
theorem readU_u16 (A : Option Addr) (c : Nat) (b : Int) (r : List Int) (w : World) (hr : Rd u8 w A (b :: r)) (hc : (b :: r).length ≤ c) (hb : Byt r) (hn : 2 ≤ r.length) (hz : True) (e0 : b = 205) :
    Calls Tryd.prog 28 #[.slice A (b :: r).length c] w (RuOk (beN (r.take 2)) (r.drop 2) w) := by
  obtain ⟨A1, hk2, hk3, hcut⟩ := Cut.ahead_l 24 5 Tryd.underlying24 size_u8 A (b :: r).length c 1 1 rfl .i64 (by simp)
  have hr1 : Rd u8 w A1 r := hcut.drop hr rfl hc
  obtain ⟨bk, off, rfl, d0⟩ := hr.at_ 0 (by simp)
  replace d0 : World.cell? _ ⟨bk, off, none⟩ = some (.int .u8 b) := d0
  obtain ⟨m, hm⟩ : ∃ m, (b :: r).length = m := ⟨_, rfl⟩
  obtain ⟨k, hk⟩ : ∃ k, r.length = k := ⟨_, rfl⟩
  have hmk : m - 1 = k := by rw [← hm, ← hk]; simp
  have hlt : decide ((m : Int) < 1) = false := decide_eq_false (by rw [← hm, List.length_cons]; omega)
  have hlt' : (0 : Int) < m := by rw [← hm, List.length_cons]; omega
  have hck : k ≤ c - 1 := by rw [hm] at hc; omega
  rw [hm, hmk] at hk2 hk3
  generalize c - 1 = c1 at hk2 hk3 hck
  clear hcut hr
  subst e0
  have hfx := isfixint_calls 205 w (by omega) (by omega)
  rw [show decide ((205 : Int) < 128) = false from rfl] at hfx
  obtain ⟨A2, hj2, hj3, hcut2⟩ := Cut.ahead_l 24 5 Tryd.underlying24 size_u8 A1 r.length c1 2 2 rfl .i64 hn
  have hr2 := fun W (h : Rd u8 W A1 r) => hcut2.drop h rfl (by omega)
  have hl2 : (r.drop 2).length = r.length - 2 := by simp
  have hbe := be16_calls A1 c1 r w hr1 hb hn
  have hq := beN_range 2 (r.take 2) (by rw [List.length_take]; omega) (hb.take 2)
  obtain ⟨R, hR⟩ : ∃ R, r.drop 2 = R := ⟨_, rfl⟩
  have HR : Hid (∀ W : World, Rd u8 W A1 r → Rd u8 W A2 R) := fun W h => by rw [← hR]; exact hr2 W h
  rw [hR] at hl2 ⊢
  rw [hk] at hbe hj2 hj3 hl2 hn
  generalize beN (r.take 2) = q at hbe hq hz ⊢
  have hdn : decide ((k : Int) < 2) = false := decide_eq_false (by omega)
  rw [hm]
  have hw64 : 0 ≤ q := hq.1
  have hq2 : q < 65536 := hq.2
  have hle2 : R.length ≤ c1 - 2 := by omega
  generalize c1 - 2 = c2 at hj2 hj3 hle2
  obtain ⟨k2, hk2e⟩ : ∃ k2, k - 2 = k2 := ⟨_, rfl⟩
  rw [hk2e] at hj2 hj3 hl2
  have HL2 := hid hl2
  clear hm hmk hk hl2 hr2 hcut2 hR hk2e hn hb hz
  go_enter Tryd.func28, Tryd.ntmps28
  go_wp2_with fail
  refine hfx.mono ?_
  rintro e w1 ⟨rfl, rfl⟩
  go_wp2_with fail
  refine hbe.mono ?_
  rintro e w1 ⟨rfl, hch1⟩
  go_wp2_with fail
  go_ret3
  obtain rfl := HL2.out
  exact ⟨A2, c2, rfl, HR _ (hr1.keep0 hch1), hle2, hch1⟩
set_option maxRecDepth 100000 in
set_option maxHeartbeats 1000000 in
theorem readU_short_s32 (A : Option Addr) (c : Nat) (b : Int) (r : List Int) (w : World) (hr : Rd u8 w A (b :: r)) (hc : (b :: r).length ≤ c) (hs : Sh w) (hn : r.length < 4) (e0 : b = 210) :
    Calls Tryd.prog 28 #[.slice A (b :: r).length c] w (RuNo w) := by
  obtain ⟨A1, hk2, hk3, hcut⟩ := Cut.ahead_l 24 5 Tryd.underlying24 size_u8 A (b :: r).length c 1 1 rfl .i64 (by simp)
  have hr1 : Rd u8 w A1 r := hcut.drop hr rfl hc
  obtain ⟨bk, off, rfl, d0⟩ := hr.at_ 0 (by simp)
  replace d0 : World.cell? _ ⟨bk, off, none⟩ = some (.int .u8 b) := d0
  obtain ⟨m, hm⟩ : ∃ m, (b :: r).length = m := ⟨_, rfl⟩
  obtain ⟨k, hk⟩ : ∃ k, r.length = k := ⟨_, rfl⟩
  have hmk : m - 1 = k := by rw [← hm, ← hk]; simp
  have hlt : decide ((m : Int) < 1) = false := decide_eq_false (by rw [← hm, List.length_cons]; omega)
  have hlt' : (0 : Int) < m := by rw [← hm, List.length_cons]; omega
  have hck : k ≤ c - 1 := by rw [hm] at hc; omega
  rw [hm, hmk] at hk2 hk3
  generalize c - 1 = c1 at hk2 hk3 hck
  clear hcut hr
  subst e0
  have hfx := isfixint_calls 210 w (by omega) (by omega)
  rw [show decide ((210 : Int) < 128) = false from rfl] at hfx
  rw [hk] at hn
  obtain ⟨T, v, hg⟩ := hs
  have hdn : decide ((k : Int) < 4) = true := decide_eq_true (by omega)
  rw [hm]
  clear hm hmk hk
  go_enter Tryd.func28, Tryd.ntmps28
  go_wp2_with fail
  refine hfx.mono ?_
  rintro e w1 ⟨rfl, rfl⟩
  go_wp2_with fail
  go_ret3
  exact ⟨_, by omega, by omega, _, T, v, rfl, Ch.refl _ _⟩
set_option maxRecDepth 100000 in
set_option maxHeartbeats 1000000 in
theorem readU_s32 (A : Option Addr) (c : Nat) (b : Int) (r : List Int) (w : World) (hr : Rd u8 w A (b :: r)) (hc : (b :: r).length ≤ c) (hb : Byt r) (hn : 4 ≤ r.length) (hz : beN (r.take 4) < 2147483648) (e0 : b = 210) :
    Calls Tryd.prog 28 #[.slice A (b :: r).length c] w (RuOk (beN (r.take 4)) (r.drop 4) w) := by
  obtain ⟨A1, hk2, hk3, hcut⟩ := Cut.ahead_l 24 5 Tryd.underlying24 size_u8 A (b :: r).length c 1 1 rfl .i64 (by simp)
  have hr1 : Rd u8 w A1 r := hcut.drop hr rfl hc
  obtain ⟨bk, off, rfl, d0⟩ := hr.at_ 0 (by simp)
  replace d0 : World.cell? _ ⟨bk, off, none⟩ = some (.int .u8 b) := d0
  obtain ⟨m, hm⟩ : ∃ m, (b :: r).length = m := ⟨_, rfl⟩
  obtain ⟨k, hk⟩ : ∃ k, r.length = k := ⟨_, rfl⟩
  have hmk : m - 1 = k := by rw [← hm, ← hk]; simp
  have hlt : decide ((m : Int) < 1) = false := decide_eq_false (by rw [← hm, List.length_cons]; omega)
  have hlt' : (0 : Int) < m := by rw [← hm, List.length_cons]; omega
  have hck : k ≤ c - 1 := by rw [hm] at hc; omega
  rw [hm, hmk] at hk2 hk3
  generalize c - 1 = c1 at hk2 hk3 hck
  clear hcut hr
  subst e0
  have hfx := isfixint_calls 210 w (by omega) (by omega)
  rw [show decide ((210 : Int) < 128) = false from rfl] at hfx
  obtain ⟨A2, hj2, hj3, hcut2⟩ := Cut.ahead_l 24 5 Tryd.underlying24 size_u8 A1 r.length c1 4 4 rfl .i64 hn
  have hr2 := fun W (h : Rd u8 W A1 r) => hcut2.drop h rfl (by omega)
  have hl2 : (r.drop 4).length = r.length - 4 := by simp
  have hbe := be32_calls A1 c1 r w hr1 hb hn
  have hq := beN_range 4 (r.take 4) (by rw [List.length_take]; omega) (hb.take 4)
  obtain ⟨R, hR⟩ : ∃ R, r.drop 4 = R := ⟨_, rfl⟩
  have HR : Hid (∀ W : World, Rd u8 W A1 r → Rd u8 W A2 R) := fun W h => by rw [← hR]; exact hr2 W h
  rw [hR] at hl2 ⊢
  rw [hk] at hbe hj2 hj3 hl2 hn
  generalize beN (r.take 4) = q at hbe hq hz ⊢
  have hdn : decide ((k : Int) < 4) = false := decide_eq_false (by omega)
  rw [hm]
  obtain ⟨s, hs⟩ : ∃ s, IntKind.i32.wrap q = s := ⟨_, rfl⟩
  have hsr : -2147483648 ≤ s ∧ s < 2147483648 ∧ (s = q ∨ s = q - 4294967296) := by rw [← hs]; simp [IntKind.wrap, IntKind.bits, IntKind.signed]; omega
  have hsq : s = q := by omega
  have hneg : decide (s < 0) = false := decide_eq_false (by omega)
  rw [hsq] at hs hneg hsr
  clear hsq
  have hw64 : 0 ≤ q := hq.1
  have hq2 : q < 4294967296 := hq.2
  have hle2 : R.length ≤ c1 - 4 := by omega
  generalize c1 - 4 = c2 at hj2 hj3 hle2
  obtain ⟨k2, hk2e⟩ : ∃ k2, k - 4 = k2 := ⟨_, rfl⟩
  rw [hk2e] at hj2 hj3 hl2
  have HL2 := hid hl2
  clear hm hmk hk hl2 hr2 hcut2 hR hk2e hn hb hz
  go_enter Tryd.func28, Tryd.ntmps28
  go_wp2_with fail
  refine hfx.mono ?_
  rintro e w1 ⟨rfl, rfl⟩
  go_wp2_with fail
  refine hbe.mono ?_
  rintro e w1 ⟨rfl, hch1⟩
  go_wp2_with fail
  go_ret3
  obtain rfl := HL2.out
  exact ⟨A2, c2, rfl, HR _ (hr1.keep0 hch1), hle2, hch1⟩
set_option maxRecDepth 100000 in
set_option maxHeartbeats 1000000 in
theorem readU_s32_no (A : Option Addr) (c : Nat) (b : Int) (r : List Int) (w : World) (hr : Rd u8 w A (b :: r)) (hc : (b :: r).length ≤ c) (hb : Byt r) (hn : 4 ≤ r.length) (hz : 2147483648 ≤ beN (r.take 4)) (e0 : b = 210) :
    Calls Tryd.prog 28 #[.slice A (b :: r).length c] w (RuNo w) := by
  obtain ⟨A1, hk2, hk3, hcut⟩ := Cut.ahead_l 24 5 Tryd.underlying24 size_u8 A (b :: r).length c 1 1 rfl .i64 (by simp)
  have hr1 : Rd u8 w A1 r := hcut.drop hr rfl hc
  obtain ⟨bk, off, rfl, d0⟩ := hr.at_ 0 (by simp)
  replace d0 : World.cell? _ ⟨bk, off, none⟩ = some (.int .u8 b) := d0
  obtain ⟨m, hm⟩ : ∃ m, (b :: r).length = m := ⟨_, rfl⟩
  obtain ⟨k, hk⟩ : ∃ k, r.length = k := ⟨_, rfl⟩
  have hmk : m - 1 = k := by rw [← hm, ← hk]; simp
  have hlt : decide ((m : Int) < 1) = false := decide_eq_false (by rw [← hm, List.length_cons]; omega)
  have hlt' : (0 : Int) < m := by rw [← hm, List.length_cons]; omega
  have hck : k ≤ c - 1 := by rw [hm] at hc; omega
  rw [hm, hmk] at hk2 hk3
  generalize c - 1 = c1 at hk2 hk3 hck
  clear hcut hr
  subst e0
  have hfx := isfixint_calls 210 w (by omega) (by omega)
  rw [show decide ((210 : Int) < 128) = false from rfl] at hfx
  obtain ⟨A2, hj2, hj3, hcut2⟩ := Cut.ahead_l 24 5 Tryd.underlying24 size_u8 A1 r.length c1 4 4 rfl .i64 hn
  have hr2 := fun W (h : Rd u8 W A1 r) => hcut2.drop h rfl (by omega)
  have hl2 : (r.drop 4).length = r.length - 4 := by simp
  have hbe := be32_calls A1 c1 r w hr1 hb hn
  have hq := beN_range 4 (r.take 4) (by rw [List.length_take]; omega) (hb.take 4)
  obtain ⟨R, hR⟩ : ∃ R, r.drop 4 = R := ⟨_, rfl⟩
  have HR : Hid (∀ W : World, Rd u8 W A1 r → Rd u8 W A2 R) := fun W h => by rw [← hR]; exact hr2 W h
  rw [hR] at hl2
  rw [hk] at hbe hj2 hj3 hl2 hn
  generalize beN (r.take 4) = q at hbe hq hz
  have hdn : decide ((k : Int) < 4) = false := decide_eq_false (by omega)
  rw [hm]
  obtain ⟨s, hs⟩ : ∃ s, IntKind.i32.wrap q = s := ⟨_, rfl⟩
  have hsr : -2147483648 ≤ s ∧ s < 2147483648 ∧ (s = q ∨ s = q - 4294967296) := by rw [← hs]; simp [IntKind.wrap, IntKind.bits, IntKind.signed]; omega
  have hneg : decide (s < 0) = true := decide_eq_true (by omega)
  have hw64 : 0 ≤ q := hq.1
  have hq2 : q < 4294967296 := hq.2
  have hle2 : R.length ≤ c1 - 4 := by omega
  generalize c1 - 4 = c2 at hj2 hj3 hle2
  obtain ⟨k2, hk2e⟩ : ∃ k2, k - 4 = k2 := ⟨_, rfl⟩
  rw [hk2e] at hj2 hj3 hl2
  have HL2 := hid hl2
  clear hm hmk hk hl2 hr2 hcut2 hR hk2e hn hb hz
  go_enter Tryd.func28, Tryd.ntmps28
  go_wp2_with fail
  refine hfx.mono ?_
  rintro e w1 ⟨rfl, rfl⟩
  go_wp2_with fail
  refine hbe.mono ?_
  rintro e w1 ⟨rfl, hch1⟩
  go_wp2_with fail
  go_ret3
  exact ⟨_, by omega, by omega, _, _, _, rfl, hch1⟩
set_option maxRecDepth 100000 in
set_option maxHeartbeats 1000000 in
theorem readU_short_u32 (A : Option Addr) (c : Nat) (b : Int) (r : List Int) (w : World) (hr : Rd u8 w A (b :: r)) (hc : (b :: r).length ≤ c) (hs : Sh w) (hn : r.length < 4) (e0 : b = 206) :
    Calls Tryd.prog 28 #[.slice A (b :: r).length c] w (RuNo w) := by
  obtain ⟨A1, hk2, hk3, hcut⟩ := Cut.ahead_l 24 5 Tryd.underlying24 size_u8 A (b :: r).length c 1 1 rfl .i64 (by simp)
  have hr1 : Rd u8 w A1 r := hcut.drop hr rfl hc
  obtain ⟨bk, off, rfl, d0⟩ := hr.at_ 0 (by simp)
  replace d0 : World.cell? _ ⟨bk, off, none⟩ = some (.int .u8 b) := d0
  obtain ⟨m, hm⟩ : ∃ m, (b :: r).length = m := ⟨_, rfl⟩
  obtain ⟨k, hk⟩ : ∃ k, r.length = k := ⟨_, rfl⟩
  have hmk : m - 1 = k := by rw [← hm, ← hk]; simp
  have hlt : decide ((m : Int) < 1) = false := decide_eq_false (by rw [← hm, List.length_cons]; omega)
  have hlt' : (0 : Int) < m := by rw [← hm, List.length_cons]; omega
  have hck : k ≤ c - 1 := by rw [hm] at hc; omega
  rw [hm, hmk] at hk2 hk3
  generalize c - 1 = c1 at hk2 hk3 hck
  clear hcut hr
  subst e0
  have hfx := isfixint_calls 206 w (by omega) (by omega)
  rw [show decide ((206 : Int) < 128) = false from rfl] at hfx
  rw [hk] at hn
  obtain ⟨T, v, hg⟩ := hs
  have hdn : decide ((k : Int) < 4) = true := decide_eq_true (by omega)
  rw [hm]
  clear hm hmk hk
  go_enter Tryd.func28, Tryd.ntmps28
  go_wp2_with fail
  refine hfx.mono ?_
  rintro e w1 ⟨rfl, rfl⟩
  go_wp2_with fail
  go_ret3
  exact ⟨_, by omega, by omega, _, T, v, rfl, Ch.refl _ _⟩
set_option maxRecDepth 100000 in
set_option maxHeartbeats 1000000 in
theorem readU_u32 (A : Option Addr) (c : Nat) (b : Int) (r : List Int) (w : World) (hr : Rd u8 w A (b :: r)) (hc : (b :: r).length ≤ c) (hb : Byt r) (hn : 4 ≤ r.length) (hz : True) (e0 : b = 206) :
    Calls Tryd.prog 28 #[.slice A (b :: r).length c] w (RuOk (beN (r.take 4)) (r.drop 4) w) := by
  obtain ⟨A1, hk2, hk3, hcut⟩ := Cut.ahead_l 24 5 Tryd.underlying24 size_u8 A (b :: r).length c 1 1 rfl .i64 (by simp)
  have hr1 : Rd u8 w A1 r := hcut.drop hr rfl hc
  obtain ⟨bk, off, rfl, d0⟩ := hr.at_ 0 (by simp)
  replace d0 : World.cell? _ ⟨bk, off, none⟩ = some (.int .u8 b) := d0
  obtain ⟨m, hm⟩ : ∃ m, (b :: r).length = m := ⟨_, rfl⟩
  obtain ⟨k, hk⟩ : ∃ k, r.length = k := ⟨_, rfl⟩
  have hmk : m - 1 = k := by rw [← hm, ← hk]; simp
  have hlt : decide ((m : Int) < 1) = false := decide_eq_false (by rw [← hm, List.length_cons]; omega)
  have hlt' : (0 : Int) < m := by rw [← hm, List.length_cons]; omega
  have hck : k ≤ c - 1 := by rw [hm] at hc; omega
  rw [hm, hmk] at hk2 hk3
  generalize c - 1 = c1 at hk2 hk3 hck
  clear hcut hr
  subst e0
  have hfx := isfixint_calls 206 w (by omega) (by omega)
  rw [show decide ((206 : Int) < 128) = false from rfl] at hfx
  obtain ⟨A2, hj2, hj3, hcut2⟩ := Cut.ahead_l 24 5 Tryd.underlying24 size_u8 A1 r.length c1 4 4 rfl .i64 hn
  have hr2 := fun W (h : Rd u8 W A1 r) => hcut2.drop h rfl (by omega)
  have hl2 : (r.drop 4).length = r.length - 4 := by simp
  have hbe := be32_calls A1 c1 r w hr1 hb hn
  have hq := beN_range 4 (r.take 4) (by rw [List.length_take]; omega) (hb.take 4)
  obtain ⟨R, hR⟩ : ∃ R, r.drop 4 = R := ⟨_, rfl⟩
  have HR : Hid (∀ W : World, Rd u8 W A1 r → Rd u8 W A2 R) := fun W h => by rw [← hR]; exact hr2 W h
  rw [hR] at hl2 ⊢
  rw [hk] at hbe hj2 hj3 hl2 hn
  generalize beN (r.take 4) = q at hbe hq hz ⊢
  have hdn : decide ((k : Int) < 4) = false := decide_eq_false (by omega)
  rw [hm]
  have hw64 : 0 ≤ q := hq.1
  have hq2 : q < 4294967296 := hq.2
  have hle2 : R.length ≤ c1 - 4 := by omega
  generalize c1 - 4 = c2 at hj2 hj3 hle2
  obtain ⟨k2, hk2e⟩ : ∃ k2, k - 4 = k2 := ⟨_, rfl⟩
  rw [hk2e] at hj2 hj3 hl2
  have HL2 := hid hl2
  clear hm hmk hk hl2 hr2 hcut2 hR hk2e hn hb hz
  go_enter Tryd.func28, Tryd.ntmps28
  go_wp2_with fail
  refine hfx.mono ?_
  rintro e w1 ⟨rfl, rfl⟩
  go_wp2_with fail
  refine hbe.mono ?_
  rintro e w1 ⟨rfl, hch1⟩
  go_wp2_with fail
  go_ret3
  obtain rfl := HL2.out
  exact ⟨A2, c2, rfl, HR _ (hr1.keep0 hch1), hle2, hch1⟩
set_option maxRecDepth 100000 in
set_option maxHeartbeats 1000000 in
theorem readU_short_s64 (A : Option Addr) (c : Nat) (b : Int) (r : List Int) (w : World) (hr : Rd u8 w A (b :: r)) (hc : (b :: r).length ≤ c) (hs : Sh w) (hn : r.length < 8) (e0 : b = 211) :
    Calls Tryd.prog 28 #[.slice A (b :: r).length c] w (RuNo w) := by
  obtain ⟨A1, hk2, hk3, hcut⟩ := Cut.ahead_l 24 5 Tryd.underlying24 size_u8 A (b :: r).length c 1 1 rfl .i64 (by simp)
  have hr1 : Rd u8 w A1 r := hcut.drop hr rfl hc
  obtain ⟨bk, off, rfl, d0⟩ := hr.at_ 0 (by simp)
  replace d0 : World.cell? _ ⟨bk, off, none⟩ = some (.int .u8 b) := d0
  obtain ⟨m, hm⟩ : ∃ m, (b :: r).length = m := ⟨_, rfl⟩
  obtain ⟨k, hk⟩ : ∃ k, r.length = k := ⟨_, rfl⟩
  have hmk : m - 1 = k := by rw [← hm, ← hk]; simp
  have hlt : decide ((m : Int) < 1) = false := decide_eq_false (by rw [← hm, List.length_cons]; omega)
  have hlt' : (0 : Int) < m := by rw [← hm, List.length_cons]; omega
  have hck : k ≤ c - 1 := by rw [hm] at hc; omega
  rw [hm, hmk] at hk2 hk3
  generalize c - 1 = c1 at hk2 hk3 hck
  clear hcut hr
  subst e0
  have hfx := isfixint_calls 211 w (by omega) (by omega)
  rw [show decide ((211 : Int) < 128) = false from rfl] at hfx
  rw [hk] at hn
  obtain ⟨T, v, hg⟩ := hs
  have hdn : decide ((k : Int) < 8) = true := decide_eq_true (by omega)
  rw [hm]
  clear hm hmk hk
  go_enter Tryd.func28, Tryd.ntmps28
  go_wp2_with fail
  refine hfx.mono ?_
  rintro e w1 ⟨rfl, rfl⟩
  go_wp2_with fail
  go_ret3
  exact ⟨_, by omega, by omega, _, T, v, rfl, Ch.refl _ _⟩
set_option maxRecDepth 100000 in
set_option maxHeartbeats 1000000 in
theorem readU_s64 (A : Option Addr) (c : Nat) (b : Int) (r : List Int) (w : World) (hr : Rd u8 w A (b :: r)) (hc : (b :: r).length ≤ c) (hb : Byt r) (hn : 8 ≤ r.length) (hz : beN (r.take 8) < 9223372036854775808) (e0 : b = 211) :
    Calls Tryd.prog 28 #[.slice A (b :: r).length c] w (RuOk (beN (r.take 8)) (r.drop 8) w) := by
  obtain ⟨A1, hk2, hk3, hcut⟩ := Cut.ahead_l 24 5 Tryd.underlying24 size_u8 A (b :: r).length c 1 1 rfl .i64 (by simp)
  have hr1 : Rd u8 w A1 r := hcut.drop hr rfl hc
  obtain ⟨bk, off, rfl, d0⟩ := hr.at_ 0 (by simp)
  replace d0 : World.cell? _ ⟨bk, off, none⟩ = some (.int .u8 b) := d0
  obtain ⟨m, hm⟩ : ∃ m, (b :: r).length = m := ⟨_, rfl⟩
  obtain ⟨k, hk⟩ : ∃ k, r.length = k := ⟨_, rfl⟩
  have hmk : m - 1 = k := by rw [← hm, ← hk]; simp
  have hlt : decide ((m : Int) < 1) = false := decide_eq_false (by rw [← hm, List.length_cons]; omega)
  have hlt' : (0 : Int) < m := by rw [← hm, List.length_cons]; omega
  have hck : k ≤ c - 1 := by rw [hm] at hc; omega
  rw [hm, hmk] at hk2 hk3
  generalize c - 1 = c1 at hk2 hk3 hck
  clear hcut hr
  subst e0
  have hfx := isfixint_calls 211 w (by omega) (by omega)
  rw [show decide ((211 : Int) < 128) = false from rfl] at hfx
  obtain ⟨A2, hj2, hj3, hcut2⟩ := Cut.ahead_l 24 5 Tryd.underlying24 size_u8 A1 r.length c1 8 8 rfl .i64 hn
  have hr2 := fun W (h : Rd u8 W A1 r) => hcut2.drop h rfl (by omega)
  have hl2 : (r.drop 8).length = r.length - 8 := by simp
  have hbe := be64_calls A1 c1 r w hr1 hb hn
  have hq := beN_range 8 (r.take 8) (by rw [List.length_take]; omega) (hb.take 8)
  obtain ⟨R, hR⟩ : ∃ R, r.drop 8 = R := ⟨_, rfl⟩
  have HR : Hid (∀ W : World, Rd u8 W A1 r → Rd u8 W A2 R) := fun W h => by rw [← hR]; exact hr2 W h
  rw [hR] at hl2 ⊢
  rw [hk] at hbe hj2 hj3 hl2 hn
  generalize beN (r.take 8) = q at hbe hq hz ⊢
  have hdn : decide ((k : Int) < 8) = false := decide_eq_false (by omega)
  rw [hm]
  obtain ⟨s, hs⟩ : ∃ s, IntKind.i64.wrap q = s := ⟨_, rfl⟩
  have hsr : -9223372036854775808 ≤ s ∧ s < 9223372036854775808 ∧ (s = q ∨ s = q - 18446744073709551616) := by rw [← hs]; simp [IntKind.wrap, IntKind.bits, IntKind.signed]; omega
  have hsq : s = q := by omega
  have hneg : decide (s < 0) = false := decide_eq_false (by omega)
  rw [hsq] at hs hneg hsr
  clear hsq
  have hw64 : 0 ≤ q := hq.1
  have hq2 : q < 18446744073709551616 := hq.2
  have hle2 : R.length ≤ c1 - 8 := by omega
  generalize c1 - 8 = c2 at hj2 hj3 hle2
  obtain ⟨k2, hk2e⟩ : ∃ k2, k - 8 = k2 := ⟨_, rfl⟩
  rw [hk2e] at hj2 hj3 hl2
  have HL2 := hid hl2
  clear hm hmk hk hl2 hr2 hcut2 hR hk2e hn hb hz
  go_enter Tryd.func28, Tryd.ntmps28
  go_wp2_with fail
  refine hfx.mono ?_
  rintro e w1 ⟨rfl, rfl⟩
  go_wp2_with fail
  refine hbe.mono ?_
  rintro e w1 ⟨rfl, hch1⟩
  go_wp2_with fail
  go_ret3
  obtain rfl := HL2.out
  exact ⟨A2, c2, rfl, HR _ (hr1.keep0 hch1), hle2, hch1⟩
set_option maxRecDepth 100000 in
set_option maxHeartbeats 1000000 in
theorem readU_s64_no (A : Option Addr) (c : Nat) (b : Int) (r : List Int) (w : World) (hr : Rd u8 w A (b :: r)) (hc : (b :: r).length ≤ c) (hb : Byt r) (hn : 8 ≤ r.length) (hz : 9223372036854775808 ≤ beN (r.take 8)) (e0 : b = 211) :
    Calls Tryd.prog 28 #[.slice A (b :: r).length c] w (RuNo w) := by
  obtain ⟨A1, hk2, hk3, hcut⟩ := Cut.ahead_l 24 5 Tryd.underlying24 size_u8 A (b :: r).length c 1 1 rfl .i64 (by simp)
  have hr1 : Rd u8 w A1 r := hcut.drop hr rfl hc
  obtain ⟨bk, off, rfl, d0⟩ := hr.at_ 0 (by simp)
  replace d0 : World.cell? _ ⟨bk, off, none⟩ = some (.int .u8 b) := d0
  obtain ⟨m, hm⟩ : ∃ m, (b :: r).length = m := ⟨_, rfl⟩
  obtain ⟨k, hk⟩ : ∃ k, r.length = k := ⟨_, rfl⟩
  have hmk : m - 1 = k := by rw [← hm, ← hk]; simp
  have hlt : decide ((m : Int) < 1) = false := decide_eq_false (by rw [← hm, List.length_cons]; omega)
  have hlt' : (0 : Int) < m := by rw [← hm, List.length_cons]; omega
  have hck : k ≤ c - 1 := by rw [hm] at hc; omega
  rw [hm, hmk] at hk2 hk3
  generalize c - 1 = c1 at hk2 hk3 hck
  clear hcut hr
  subst e0
  have hfx := isfixint_calls 211 w (by omega) (by omega)
  rw [show decide ((211 : Int) < 128) = false from rfl] at hfx
  obtain ⟨A2, hj2, hj3, hcut2⟩ := Cut.ahead_l 24 5 Tryd.underlying24 size_u8 A1 r.length c1 8 8 rfl .i64 hn
  have hr2 := fun W (h : Rd u8 W A1 r) => hcut2.drop h rfl (by omega)
  have hl2 : (r.drop 8).length = r.length - 8 := by simp
  have hbe := be64_calls A1 c1 r w hr1 hb hn
  have hq := beN_range 8 (r.take 8) (by rw [List.length_take]; omega) (hb.take 8)
  obtain ⟨R, hR⟩ : ∃ R, r.drop 8 = R := ⟨_, rfl⟩
  have HR : Hid (∀ W : World, Rd u8 W A1 r → Rd u8 W A2 R) := fun W h => by rw [← hR]; exact hr2 W h
  rw [hR] at hl2
  rw [hk] at hbe hj2 hj3 hl2 hn
  generalize beN (r.take 8) = q at hbe hq hz
  have hdn : decide ((k : Int) < 8) = false := decide_eq_false (by omega)
  rw [hm]
  obtain ⟨s, hs⟩ : ∃ s, IntKind.i64.wrap q = s := ⟨_, rfl⟩
  have hsr : -9223372036854775808 ≤ s ∧ s < 9223372036854775808 ∧ (s = q ∨ s = q - 18446744073709551616) := by rw [← hs]; simp [IntKind.wrap, IntKind.bits, IntKind.signed]; omega
  have hneg : decide (s < 0) = true := decide_eq_true (by omega)
  have hw64 : 0 ≤ q := hq.1
  have hq2 : q < 18446744073709551616 := hq.2
  have hle2 : R.length ≤ c1 - 8 := by omega
  generalize c1 - 8 = c2 at hj2 hj3 hle2
  obtain ⟨k2, hk2e⟩ : ∃ k2, k - 8 = k2 := ⟨_, rfl⟩
  rw [hk2e] at hj2 hj3 hl2
  have HL2 := hid hl2
  clear hm hmk hk hl2 hr2 hcut2 hR hk2e hn hb hz
  go_enter Tryd.func28, Tryd.ntmps28
  go_wp2_with fail
  refine hfx.mono ?_
  rintro e w1 ⟨rfl, rfl⟩
  go_wp2_with fail
  refine hbe.mono ?_
  rintro e w1 ⟨rfl, hch1⟩
  go_wp2_with fail
  go_ret3
  exact ⟨_, by omega, by omega, _, _, _, rfl, hch1⟩
set_option maxRecDepth 100000 in
set_option maxHeartbeats 1000000 in
theorem readU_short_u64 (A : Option Addr) (c : Nat) (b : Int) (r : List Int) (w : World) (hr : Rd u8 w A (b :: r)) (hc : (b :: r).length ≤ c) (hs : Sh w) (hn : r.length < 8) (e0 : b = 207) :
    Calls Tryd.prog 28 #[.slice A (b :: r).length c] w (RuNo w) := by
  obtain ⟨A1, hk2, hk3, hcut⟩ := Cut.ahead_l 24 5 Tryd.underlying24 size_u8 A (b :: r).length c 1 1 rfl .i64 (by simp)
  have hr1 : Rd u8 w A1 r := hcut.drop hr rfl hc
  obtain ⟨bk, off, rfl, d0⟩ := hr.at_ 0 (by simp)
  replace d0 : World.cell? _ ⟨bk, off, none⟩ = some (.int .u8 b) := d0
  obtain ⟨m, hm⟩ : ∃ m, (b :: r).length = m := ⟨_, rfl⟩
  obtain ⟨k, hk⟩ : ∃ k, r.length = k := ⟨_, rfl⟩
  have hmk : m - 1 = k := by rw [← hm, ← hk]; simp
  have hlt : decide ((m : Int) < 1) = false := decide_eq_false (by rw [← hm, List.length_cons]; omega)
  have hlt' : (0 : Int) < m := by rw [← hm, List.length_cons]; omega
  have hck : k ≤ c - 1 := by rw [hm] at hc; omega
  rw [hm, hmk] at hk2 hk3
  generalize c - 1 = c1 at hk2 hk3 hck
  clear hcut hr
  subst e0
  have hfx := isfixint_calls 207 w (by omega) (by omega)
  rw [show decide ((207 : Int) < 128) = false from rfl] at hfx
  rw [hk] at hn
  obtain ⟨T, v, hg⟩ := hs
  have hdn : decide ((k : Int) < 8) = true := decide_eq_true (by omega)
  rw [hm]
  clear hm hmk hk
  go_enter Tryd.func28, Tryd.ntmps28
  go_wp2_with fail
  refine hfx.mono ?_
  rintro e w1 ⟨rfl, rfl⟩
  go_wp2_with fail
  go_ret3
  exact ⟨_, by omega, by omega, _, T, v, rfl, Ch.refl _ _⟩
set_option maxRecDepth 100000 in
set_option maxHeartbeats 1000000 in
theorem readU_u64 (A : Option Addr) (c : Nat) (b : Int) (r : List Int) (w : World) (hr : Rd u8 w A (b :: r)) (hc : (b :: r).length ≤ c) (hb : Byt r) (hn : 8 ≤ r.length) (hz : True) (e0 : b = 207) :
    Calls Tryd.prog 28 #[.slice A (b :: r).length c] w (RuOk (beN (r.take 8)) (r.drop 8) w) := by
  obtain ⟨A1, hk2, hk3, hcut⟩ := Cut.ahead_l 24 5 Tryd.underlying24 size_u8 A (b :: r).length c 1 1 rfl .i64 (by simp)
  have hr1 : Rd u8 w A1 r := hcut.drop hr rfl hc
  obtain ⟨bk, off, rfl, d0⟩ := hr.at_ 0 (by simp)
  replace d0 : World.cell? _ ⟨bk, off, none⟩ = some (.int .u8 b) := d0
  obtain ⟨m, hm⟩ : ∃ m, (b :: r).length = m := ⟨_, rfl⟩
  obtain ⟨k, hk⟩ : ∃ k, r.length = k := ⟨_, rfl⟩
  have hmk : m - 1 = k := by rw [← hm, ← hk]; simp
  have hlt : decide ((m : Int) < 1) = false := decide_eq_false (by rw [← hm, List.length_cons]; omega)
  have hlt' : (0 : Int) < m := by rw [← hm, List.length_cons]; omega
  have hck : k ≤ c - 1 := by rw [hm] at hc; omega
  rw [hm, hmk] at hk2 hk3
  generalize c - 1 = c1 at hk2 hk3 hck
  clear hcut hr
  subst e0
  have hfx := isfixint_calls 207 w (by omega) (by omega)
  rw [show decide ((207 : Int) < 128) = false from rfl] at hfx
  obtain ⟨A2, hj2, hj3, hcut2⟩ := Cut.ahead_l 24 5 Tryd.underlying24 size_u8 A1 r.length c1 8 8 rfl .i64 hn
  have hr2 := fun W (h : Rd u8 W A1 r) => hcut2.drop h rfl (by omega)
  have hl2 : (r.drop 8).length = r.length - 8 := by simp
  have hbe := be64_calls A1 c1 r w hr1 hb hn
  have hq := beN_range 8 (r.take 8) (by rw [List.length_take]; omega) (hb.take 8)
  obtain ⟨R, hR⟩ : ∃ R, r.drop 8 = R := ⟨_, rfl⟩
  have HR : Hid (∀ W : World, Rd u8 W A1 r → Rd u8 W A2 R) := fun W h => by rw [← hR]; exact hr2 W h
  rw [hR] at hl2 ⊢
  rw [hk] at hbe hj2 hj3 hl2 hn
  generalize beN (r.take 8) = q at hbe hq hz ⊢
  have hdn : decide ((k : Int) < 8) = false := decide_eq_false (by omega)
  rw [hm]
  have hw64 : 0 ≤ q := hq.1
  have hq2 : q < 18446744073709551616 := hq.2
  have hle2 : R.length ≤ c1 - 8 := by omega
  generalize c1 - 8 = c2 at hj2 hj3 hle2
  obtain ⟨k2, hk2e⟩ : ∃ k2, k - 8 = k2 := ⟨_, rfl⟩
  rw [hk2e] at hj2 hj3 hl2
  have HL2 := hid hl2
  clear hm hmk hk hl2 hr2 hcut2 hR hk2e hn hb hz
  go_enter Tryd.func28, Tryd.ntmps28
  go_wp2_with fail
  refine hfx.mono ?_
  rintro e w1 ⟨rfl, rfl⟩
  go_wp2_with fail
  refine hbe.mono ?_
  rintro e w1 ⟨rfl, hch1⟩
  go_wp2_with fail
  go_ret3
  obtain rfl := HL2.out
  exact ⟨A2, c2, rfl, HR _ (hr1.keep0 hch1), hle2, hch1⟩
set_option maxRecDepth 100000 in
set_option maxHeartbeats 1000000 in
theorem readU_other (A : Option Addr) (c : Nat) (b : Int) (r : List Int) (w : World) (hr : Rd u8 w A (b :: r)) (hc : (b :: r).length ≤ c) (h0 : 0 ≤ b) (h1 : b < 256) (hf : 128 ≤ b ∧ b < 224 ∧ (b < 204 ∨ 211 < b)) :
    Calls Tryd.prog 28 #[.slice A (b :: r).length c] w (RuNo w) := by
  obtain ⟨A1, hk2, hk3, hcut⟩ := Cut.ahead_l 24 5 Tryd.underlying24 size_u8 A (b :: r).length c 1 1 rfl .i64 (by simp)
  have hr1 : Rd u8 w A1 r := hcut.drop hr rfl hc
  obtain ⟨bk, off, rfl, d0⟩ := hr.at_ 0 (by simp)
  replace d0 : World.cell? _ ⟨bk, off, none⟩ = some (.int .u8 b) := d0
  obtain ⟨m, hm⟩ : ∃ m, (b :: r).length = m := ⟨_, rfl⟩
  obtain ⟨k, hk⟩ : ∃ k, r.length = k := ⟨_, rfl⟩
  have hmk : m - 1 = k := by rw [← hm, ← hk]; simp
  have hlt : decide ((m : Int) < 1) = false := decide_eq_false (by rw [← hm, List.length_cons]; omega)
  have hlt' : (0 : Int) < m := by rw [← hm, List.length_cons]; omega
  have hck : k ≤ c - 1 := by rw [hm] at hc; omega
  rw [hm, hmk] at hk2 hk3
  generalize c - 1 = c1 at hk2 hk3 hck
  clear hcut hr
  have hfx := isfixint_calls b w h0 h1
  rw [show decide (b < 128) = false from decide_eq_false (by omega)] at hfx
  have hnx := isnfixint_calls b w h0 h1
  rw [show decide (224 ≤ b) = false from decide_eq_false (by omega)] at hnx
  have hbp := fun t => badPrefix_calls t b w h0 h1
  have x208 : (b == 208) = false := beq_eq_false_iff_ne.2 (by omega)
  have x204 : (b == 204) = false := beq_eq_false_iff_ne.2 (by omega)
  have x209 : (b == 209) = false := beq_eq_false_iff_ne.2 (by omega)
  have x205 : (b == 205) = false := beq_eq_false_iff_ne.2 (by omega)
  have x210 : (b == 210) = false := beq_eq_false_iff_ne.2 (by omega)
  have x206 : (b == 206) = false := beq_eq_false_iff_ne.2 (by omega)
  have x211 : (b == 211) = false := beq_eq_false_iff_ne.2 (by omega)
  have x207 : (b == 207) = false := beq_eq_false_iff_ne.2 (by omega)
  rw [hm]
  clear hm hmk hk hf
  go_enter Tryd.func28, Tryd.ntmps28
  go_wp2_with fail
  refine hfx.mono ?_
  rintro e w1 ⟨rfl, rfl⟩
  go_wp2_with fail
  refine hnx.mono ?_
  rintro e w1 ⟨rfl, rfl⟩
  go_wp2_with fail
  refine (hbp _).mono ?_
  rintro e w1 ⟨T, v, rfl, hch1⟩
  go_wp2_with fail
  go_ret3
  exact ⟨_, by omega, by omega, _, T, v, rfl, hch1⟩
set_option maxRecDepth 100000 in
set_option maxHeartbeats 1000000 in
theorem readU_nfix (A : Option Addr) (c : Nat) (b : Int) (r : List Int) (w : World) (hr : Rd u8 w A (b :: r)) (hc : (b :: r).length ≤ c) (h0 : 224 ≤ b) (h1 : b < 256) :
    Calls Tryd.prog 28 #[.slice A (b :: r).length c] w (RuNo w) := by
  obtain ⟨A1, hk2, hk3, hcut⟩ := Cut.ahead_l 24 5 Tryd.underlying24 size_u8 A (b :: r).length c 1 1 rfl .i64 (by simp)
  have hr1 : Rd u8 w A1 r := hcut.drop hr rfl hc
  obtain ⟨bk, off, rfl, d0⟩ := hr.at_ 0 (by simp)
  replace d0 : World.cell? _ ⟨bk, off, none⟩ = some (.int .u8 b) := d0
  obtain ⟨m, hm⟩ : ∃ m, (b :: r).length = m := ⟨_, rfl⟩
  obtain ⟨k, hk⟩ : ∃ k, r.length = k := ⟨_, rfl⟩
  have hmk : m - 1 = k := by rw [← hm, ← hk]; simp
  have hlt : decide ((m : Int) < 1) = false := decide_eq_false (by rw [← hm, List.length_cons]; omega)
  have hlt' : (0 : Int) < m := by rw [← hm, List.length_cons]; omega
  have hck : k ≤ c - 1 := by rw [hm] at hc; omega
  rw [hm, hmk] at hk2 hk3
  generalize c - 1 = c1 at hk2 hk3 hck
  clear hcut hr
  have hfx := isfixint_calls b w (by omega) (by omega)
  rw [show decide (b < 128) = false from decide_eq_false (by omega)] at hfx
  have hnx := isnfixint_calls b w (by omega) (by omega)
  rw [show decide (224 ≤ b) = true from decide_eq_true h0] at hnx
  have hrf := rnfixint_calls b w h0 h1
  have x208 : (b == 208) = false := beq_eq_false_iff_ne.2 (by omega)
  have x204 : (b == 204) = false := beq_eq_false_iff_ne.2 (by omega)
  have x209 : (b == 209) = false := beq_eq_false_iff_ne.2 (by omega)
  have x205 : (b == 205) = false := beq_eq_false_iff_ne.2 (by omega)
  have x210 : (b == 210) = false := beq_eq_false_iff_ne.2 (by omega)
  have x206 : (b == 206) = false := beq_eq_false_iff_ne.2 (by omega)
  have x211 : (b == 211) = false := beq_eq_false_iff_ne.2 (by omega)
  have x207 : (b == 207) = false := beq_eq_false_iff_ne.2 (by omega)
  rw [hm]
  clear hm hmk hk
  go_enter Tryd.func28, Tryd.ntmps28
  go_wp2_with fail
  refine hfx.mono ?_
  rintro e w1 ⟨rfl, rfl⟩
  go_wp2_with fail
  refine hnx.mono ?_
  rintro e w1 ⟨rfl, rfl⟩
  go_wp2_with fail
  refine hrf.mono ?_
  rintro e w1 ⟨rfl, rfl⟩
  go_wp2_with fail
  go_ret3
  exact ⟨_, by omega, by omega, _, _, _, rfl, Ch.refl _ _⟩

end Go.Proofs.YtcipapjlkibleaaDoor
