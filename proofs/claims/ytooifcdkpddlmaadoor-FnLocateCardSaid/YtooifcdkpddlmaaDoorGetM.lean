/- The walks of MessagePack's reader of heads of maps. No condition. -/
import Derived.Test.YtooifcdkpddlmaaDoorGet
import Derived.Test.YtooifcdkpddlmaaDoorPutA
import Derived.LaidLaws
namespace Go.Proofs.YtooifcdkpddlmaaDoor
set_option linter.unusedVariables false
set_option linter.unusedSimpArgs false
open Go.RowKit

/-- What a refusal hands back: the variable's cell holds an error. -/
def Sh (w : World) : Prop := ∃ T v, w.cell? ⟨0, 0, none⟩ = some (.iface T v)
theorem Sh.keep0 {w w' : World} (h : Sh w) (k : Ch No w w') : Sh w' := by
  obtain ⟨T, v, h⟩ := h
  exact ⟨T, v, k.cell0 h⟩
theorem gShort : Tryd.prog.globalNamed "given.example/pub-saddlebag/pub/msgp/msgp.ErrShortBytes" = some 0 := by kernel_rfl
theorem gShortT : (Tryd.prog.globals[0]?).map (·.type) = some 56 := by kernel_rfl
/-- What the row's list gives. -/
theorem short_of_laid {w : World} {d : DataW Unit} {n : String} (h : laidMet Tryd.prog [("given.example/pub-saddlebag/pub/msgp/msgp.ErrShortBytes", .iface n d)] w) : Sh w := by
  obtain ⟨ps, ⟨g, t, cs, fuel, p, q, hg, ht, hvar, hd, _, _⟩, _⟩ := h
  obtain rfl := Option.some.inj (gShort.symm.trans hg)
  obtain rfl := Option.some.inj (gShortT.symm.trans ht)
  obtain ⟨_, T, v, hc, _, _⟩ := iface_of_trod Tryd.underlying56 hd
  have := World.var?_cell gShort hvar 0
  rw [show cs[0]? = some (.iface T v) by rw [← Array.getElem?_toList, hc]; rfl] at this
  exact ⟨T, v, this⟩
def RmNo (w : World) (e : Ending) (w' : World) : Prop := ∃ T v, e = .returned (.tuple #[.int .u32 0, .slice none 0 0, .iface T v]) ∧ Ch No w w'
def RmOk (n : Int) (r : List Int) (w : World) (e : Ending) (w' : World) : Prop := ∃ A' c', e = .returned (.tuple #[.int .u32 n, .slice A' r.length c', .nilIface]) ∧ Rd u8 w' A' r ∧ r.length ≤ c' ∧ Ch No w w'
theorem readMap_nil (A : Option Addr) (c : Nat) (w : World) (hs : Sh w) : Calls Tryd.prog 17 #[.slice A 0 c] w (RmNo w) := by
  obtain ⟨T, v, hg⟩ := hs
  go_enter Tryd.func17, Tryd.ntmps17
  go_wp2
  go_ret3
  exact ⟨T, v, rfl, Ch.refl _ _⟩
set_option maxRecDepth 100000 in
set_option maxHeartbeats 1000000 in
theorem readMap_fix (A : Option Addr) (c : Nat) (b : Int) (r : List Int) (w : World) (hr : Rd u8 w A (b :: r)) (hc : (b :: r).length ≤ c) (h0 : 128 ≤ b) (h1 : b < 144) :
    Calls Tryd.prog 17 #[.slice A (b :: r).length c] w (RmOk (b - 128) r w) := by
  obtain ⟨A1, hk2, hk3, hcut⟩ := Cut.ahead_l 24 5 Tryd.underlying24 size_u8 A (b :: r).length c 1 1 rfl .i64 (by simp)
  have hr1 : Rd u8 w A1 r := hcut.drop hr rfl hc
  obtain ⟨bk, off, rfl, d0⟩ := hr.at_ 0 (by simp)
  replace d0 : World.cell? _ ⟨bk, off, none⟩ = some (.int .u8 b) := d0
  obtain ⟨m, hm⟩ : ∃ m, (b :: r).length = m := ⟨_, rfl⟩
  obtain ⟨k, hk⟩ : ∃ k, r.length = k := ⟨_, rfl⟩
  have hmk : m - 1 = k := by rw [← hm, ← hk]; simp
  have hlt : decide ((m : Int) < 1) = false := decide_eq_false (by rw [← hm, List.length_cons]; omega)
  have hlt' : (0 : Int) < m := by rw [← hm, List.length_cons]; omega
  have hck : k ≤ c - 1 := by rw [hm] at hc; omega
  rw [hm, hmk] at hk2 hk3
  generalize c - 1 = c1 at hk2 hk3 hck
  clear hcut hr
  have hfx := isfixmap_calls b w (by omega) (by omega)
  rw [show decide (128 ≤ b ∧ b < 144) = true from decide_eq_true ⟨h0, h1⟩] at hfx
  have hrf := rfixmap_calls b w h0 h1
  rw [hm]
  clear hm hmk
  have HK := hid hk
  clear hk
  go_enter Tryd.func17, Tryd.ntmps17
  go_wp2_with fail
  refine hfx.mono ?_
  rintro e w1 ⟨rfl, rfl⟩
  go_wp2_with fail
  refine hrf.mono ?_
  rintro e w1 ⟨rfl, rfl⟩
  go_wp2_with fail
  go_ret3
  obtain rfl := HK.out
  exact ⟨A1, c1, rfl, hr1, hck, Ch.refl _ _⟩
set_option maxRecDepth 100000 in
set_option maxHeartbeats 1000000 in
theorem readMap_16 (A : Option Addr) (c : Nat) (b : Int) (r : List Int) (w : World) (hr : Rd u8 w A (b :: r)) (hc : (b :: r).length ≤ c) (hb : Byt r) (hn : 2 ≤ r.length) (e0 : b = 222) :
    Calls Tryd.prog 17 #[.slice A (b :: r).length c] w (RmOk (beN (r.take 2)) (r.drop 2) w) := by
  obtain ⟨A1, hk2, hk3, hcut⟩ := Cut.ahead_l 24 5 Tryd.underlying24 size_u8 A (b :: r).length c 1 1 rfl .i64 (by simp)
  have hr1 : Rd u8 w A1 r := hcut.drop hr rfl hc
  obtain ⟨bk, off, rfl, d0⟩ := hr.at_ 0 (by simp)
  replace d0 : World.cell? _ ⟨bk, off, none⟩ = some (.int .u8 b) := d0
  obtain ⟨m, hm⟩ : ∃ m, (b :: r).length = m := ⟨_, rfl⟩
  obtain ⟨k, hk⟩ : ∃ k, r.length = k := ⟨_, rfl⟩
  have hmk : m - 1 = k := by rw [← hm, ← hk]; simp
  have hlt : decide ((m : Int) < 1) = false := decide_eq_false (by rw [← hm, List.length_cons]; omega)
  have hlt' : (0 : Int) < m := by rw [← hm, List.length_cons]; omega
  have hck : k ≤ c - 1 := by rw [hm] at hc; omega
  rw [hm, hmk] at hk2 hk3
  generalize c - 1 = c1 at hk2 hk3 hck
  clear hcut hr
  subst e0
  have hfx := isfixmap_calls 222 w (by omega) (by omega)
  rw [show decide ((128 : Int) ≤ 222 ∧ (222 : Int) < 144) = false from rfl] at hfx
  have hbe := be16_calls A1 c1 r w hr1 hb hn
  have hq := beN_range 2 (r.take 2) (by rw [List.length_take]; omega) (hb.take 2)
  obtain ⟨A2, hj2, hj3, hcut2⟩ := Cut.ahead_l 24 5 Tryd.underlying24 size_u8 A1 r.length c1 2 2 rfl .i64 hn
  have hr2 := fun W (h : Rd u8 W A1 r) => hcut2.drop h rfl (by omega)
  have hl2 : (r.drop 2).length = r.length - 2 := by simp
  obtain ⟨R, hR⟩ : ∃ R, r.drop 2 = R := ⟨_, rfl⟩
  have HR : Hid (∀ W : World, Rd u8 W A1 r → Rd u8 W A2 R) := fun W h => by rw [← hR]; exact hr2 W h
  rw [hR] at hl2 ⊢
  rw [hk] at hbe hj2 hj3 hl2 hn
  generalize beN (r.take 2) = q at hbe hq ⊢
  have hdn : decide ((k : Int) < 2) = false := decide_eq_false (by omega)
  rw [hm]
  have hw : IntKind.u32.wrap q = q := by simp [IntKind.wrap, IntKind.bits, IntKind.signed]; omega
  have hle2 : R.length ≤ c1 - 2 := by omega
  generalize c1 - 2 = c2 at hj2 hj3 hle2
  obtain ⟨k2, hk2e⟩ : ∃ k2, k - 2 = k2 := ⟨_, rfl⟩
  rw [hk2e] at hj2 hj3 hl2
  have HL2 := hid hl2
  clear hm hmk hk hl2 hr2 hcut2 hR hk2e hn hb
  go_enter Tryd.func17, Tryd.ntmps17
  go_wp2_with fail
  refine hfx.mono ?_
  rintro e w1 ⟨rfl, rfl⟩
  go_wp2_with fail
  refine hbe.mono ?_
  rintro e w1 ⟨rfl, hch1⟩
  go_wp2_with fail
  go_ret3
  obtain rfl := HL2.out
  exact ⟨A2, c2, rfl, HR _ (hr1.keep0 hch1), hle2, hch1⟩
set_option maxRecDepth 100000 in
set_option maxHeartbeats 1000000 in
theorem readMap_32 (A : Option Addr) (c : Nat) (b : Int) (r : List Int) (w : World) (hr : Rd u8 w A (b :: r)) (hc : (b :: r).length ≤ c) (hb : Byt r) (hn : 4 ≤ r.length) (e0 : b = 223) :
    Calls Tryd.prog 17 #[.slice A (b :: r).length c] w (RmOk (beN (r.take 4)) (r.drop 4) w) := by
  obtain ⟨A1, hk2, hk3, hcut⟩ := Cut.ahead_l 24 5 Tryd.underlying24 size_u8 A (b :: r).length c 1 1 rfl .i64 (by simp)
  have hr1 : Rd u8 w A1 r := hcut.drop hr rfl hc
  obtain ⟨bk, off, rfl, d0⟩ := hr.at_ 0 (by simp)
  replace d0 : World.cell? _ ⟨bk, off, none⟩ = some (.int .u8 b) := d0
  obtain ⟨m, hm⟩ : ∃ m, (b :: r).length = m := ⟨_, rfl⟩
  obtain ⟨k, hk⟩ : ∃ k, r.length = k := ⟨_, rfl⟩
  have hmk : m - 1 = k := by rw [← hm, ← hk]; simp
  have hlt : decide ((m : Int) < 1) = false := decide_eq_false (by rw [← hm, List.length_cons]; omega)
  have hlt' : (0 : Int) < m := by rw [← hm, List.length_cons]; omega
  have hck : k ≤ c - 1 := by rw [hm] at hc; omega
  rw [hm, hmk] at hk2 hk3
  generalize c - 1 = c1 at hk2 hk3 hck
  clear hcut hr
  subst e0
  have hfx := isfixmap_calls 223 w (by omega) (by omega)
  rw [show decide ((128 : Int) ≤ 223 ∧ (223 : Int) < 144) = false from rfl] at hfx
  have hbe := be32_calls A1 c1 r w hr1 hb hn
  have hq := beN_range 4 (r.take 4) (by rw [List.length_take]; omega) (hb.take 4)
  obtain ⟨A2, hj2, hj3, hcut2⟩ := Cut.ahead_l 24 5 Tryd.underlying24 size_u8 A1 r.length c1 4 4 rfl .i64 hn
  have hr2 := fun W (h : Rd u8 W A1 r) => hcut2.drop h rfl (by omega)
  have hl2 : (r.drop 4).length = r.length - 4 := by simp
  obtain ⟨R, hR⟩ : ∃ R, r.drop 4 = R := ⟨_, rfl⟩
  have HR : Hid (∀ W : World, Rd u8 W A1 r → Rd u8 W A2 R) := fun W h => by rw [← hR]; exact hr2 W h
  rw [hR] at hl2 ⊢
  rw [hk] at hbe hj2 hj3 hl2 hn
  generalize beN (r.take 4) = q at hbe hq ⊢
  have hdn : decide ((k : Int) < 4) = false := decide_eq_false (by omega)
  rw [hm]
  have hw : IntKind.u32.wrap q = q := by simp [IntKind.wrap, IntKind.bits, IntKind.signed]; omega
  have hle2 : R.length ≤ c1 - 4 := by omega
  generalize c1 - 4 = c2 at hj2 hj3 hle2
  obtain ⟨k2, hk2e⟩ : ∃ k2, k - 4 = k2 := ⟨_, rfl⟩
  rw [hk2e] at hj2 hj3 hl2
  have HL2 := hid hl2
  clear hm hmk hk hl2 hr2 hcut2 hR hk2e hn hb
  go_enter Tryd.func17, Tryd.ntmps17
  go_wp2_with fail
  refine hfx.mono ?_
  rintro e w1 ⟨rfl, rfl⟩
  go_wp2_with fail
  refine hbe.mono ?_
  rintro e w1 ⟨rfl, hch1⟩
  go_wp2_with fail
  go_ret3
  obtain rfl := HL2.out
  exact ⟨A2, c2, rfl, HR _ (hr1.keep0 hch1), hle2, hch1⟩
set_option maxRecDepth 100000 in
set_option maxHeartbeats 1000000 in
theorem readMap_s16 (A : Option Addr) (c : Nat) (b : Int) (r : List Int) (w : World) (hr : Rd u8 w A (b :: r)) (hc : (b :: r).length ≤ c) (hs : Sh w) (hn : r.length < 2) (e0 : b = 222) :
    Calls Tryd.prog 17 #[.slice A (b :: r).length c] w (RmNo w) := by
  obtain ⟨A1, hk2, hk3, hcut⟩ := Cut.ahead_l 24 5 Tryd.underlying24 size_u8 A (b :: r).length c 1 1 rfl .i64 (by simp)
  have hr1 : Rd u8 w A1 r := hcut.drop hr rfl hc
  obtain ⟨bk, off, rfl, d0⟩ := hr.at_ 0 (by simp)
  replace d0 : World.cell? _ ⟨bk, off, none⟩ = some (.int .u8 b) := d0
  obtain ⟨m, hm⟩ : ∃ m, (b :: r).length = m := ⟨_, rfl⟩
  obtain ⟨k, hk⟩ : ∃ k, r.length = k := ⟨_, rfl⟩
  have hmk : m - 1 = k := by rw [← hm, ← hk]; simp
  have hlt : decide ((m : Int) < 1) = false := decide_eq_false (by rw [← hm, List.length_cons]; omega)
  have hlt' : (0 : Int) < m := by rw [← hm, List.length_cons]; omega
  have hck : k ≤ c - 1 := by rw [hm] at hc; omega
  rw [hm, hmk] at hk2 hk3
  generalize c - 1 = c1 at hk2 hk3 hck
  clear hcut hr
  subst e0
  have hfx := isfixmap_calls 222 w (by omega) (by omega)
  rw [show decide ((128 : Int) ≤ 222 ∧ (222 : Int) < 144) = false from rfl] at hfx
  rw [hk] at hn
  obtain ⟨T, v, hg⟩ := hs
  have hdn : decide ((k : Int) < 2) = true := decide_eq_true (by omega)
  rw [hm]
  clear hm hmk hk
  go_enter Tryd.func17, Tryd.ntmps17
  go_wp2_with fail
  refine hfx.mono ?_
  rintro e w1 ⟨rfl, rfl⟩
  go_wp2_with fail
  go_ret3
  exact ⟨T, v, rfl, Ch.refl _ _⟩
set_option maxRecDepth 100000 in
set_option maxHeartbeats 1000000 in
theorem readMap_s32 (A : Option Addr) (c : Nat) (b : Int) (r : List Int) (w : World) (hr : Rd u8 w A (b :: r)) (hc : (b :: r).length ≤ c) (hs : Sh w) (hn : r.length < 4) (e0 : b = 223) :
    Calls Tryd.prog 17 #[.slice A (b :: r).length c] w (RmNo w) := by
  obtain ⟨A1, hk2, hk3, hcut⟩ := Cut.ahead_l 24 5 Tryd.underlying24 size_u8 A (b :: r).length c 1 1 rfl .i64 (by simp)
  have hr1 : Rd u8 w A1 r := hcut.drop hr rfl hc
  obtain ⟨bk, off, rfl, d0⟩ := hr.at_ 0 (by simp)
  replace d0 : World.cell? _ ⟨bk, off, none⟩ = some (.int .u8 b) := d0
  obtain ⟨m, hm⟩ : ∃ m, (b :: r).length = m := ⟨_, rfl⟩
  obtain ⟨k, hk⟩ : ∃ k, r.length = k := ⟨_, rfl⟩
  have hmk : m - 1 = k := by rw [← hm, ← hk]; simp
  have hlt : decide ((m : Int) < 1) = false := decide_eq_false (by rw [← hm, List.length_cons]; omega)
  have hlt' : (0 : Int) < m := by rw [← hm, List.length_cons]; omega
  have hck : k ≤ c - 1 := by rw [hm] at hc; omega
  rw [hm, hmk] at hk2 hk3
  generalize c - 1 = c1 at hk2 hk3 hck
  clear hcut hr
  subst e0
  have hfx := isfixmap_calls 223 w (by omega) (by omega)
  rw [show decide ((128 : Int) ≤ 223 ∧ (223 : Int) < 144) = false from rfl] at hfx
  rw [hk] at hn
  obtain ⟨T, v, hg⟩ := hs
  have hdn : decide ((k : Int) < 4) = true := decide_eq_true (by omega)
  rw [hm]
  clear hm hmk hk
  go_enter Tryd.func17, Tryd.ntmps17
  go_wp2_with fail
  refine hfx.mono ?_
  rintro e w1 ⟨rfl, rfl⟩
  go_wp2_with fail
  go_ret3
  exact ⟨T, v, rfl, Ch.refl _ _⟩
set_option maxRecDepth 100000 in
set_option maxHeartbeats 1000000 in
theorem readMap_other (A : Option Addr) (c : Nat) (b : Int) (r : List Int) (w : World) (hr : Rd u8 w A (b :: r)) (hc : (b :: r).length ≤ c) (h0 : 0 ≤ b) (h1 : b < 256) (hf : ¬ (128 ≤ b ∧ b < 144)) (e1 : b ≠ 222) (e2 : b ≠ 223) :
    Calls Tryd.prog 17 #[.slice A (b :: r).length c] w (RmNo w) := by
  obtain ⟨A1, hk2, hk3, hcut⟩ := Cut.ahead_l 24 5 Tryd.underlying24 size_u8 A (b :: r).length c 1 1 rfl .i64 (by simp)
  have hr1 : Rd u8 w A1 r := hcut.drop hr rfl hc
  obtain ⟨bk, off, rfl, d0⟩ := hr.at_ 0 (by simp)
  replace d0 : World.cell? _ ⟨bk, off, none⟩ = some (.int .u8 b) := d0
  obtain ⟨m, hm⟩ : ∃ m, (b :: r).length = m := ⟨_, rfl⟩
  obtain ⟨k, hk⟩ : ∃ k, r.length = k := ⟨_, rfl⟩
  have hmk : m - 1 = k := by rw [← hm, ← hk]; simp
  have hlt : decide ((m : Int) < 1) = false := decide_eq_false (by rw [← hm, List.length_cons]; omega)
  have hlt' : (0 : Int) < m := by rw [← hm, List.length_cons]; omega
  have hck : k ≤ c - 1 := by rw [hm] at hc; omega
  rw [hm, hmk] at hk2 hk3
  generalize c - 1 = c1 at hk2 hk3 hck
  clear hcut hr
  have hfx := isfixmap_calls b w h0 h1
  rw [show decide (128 ≤ b ∧ b < 144) = false from decide_eq_false hf] at hfx
  have hx1 : (b == 222) = false := beq_eq_false_iff_ne.2 e1
  have hx2 : (b == 223) = false := beq_eq_false_iff_ne.2 e2
  have hbp := badPrefix_calls 3 b w h0 h1
  rw [hm]
  clear hm hmk hk e1 e2 hf
  go_enter Tryd.func17, Tryd.ntmps17
  go_wp2_with fail
  refine hfx.mono ?_
  rintro e w1 ⟨rfl, rfl⟩
  go_wp2_with fail
  refine hbp.mono ?_
  rintro e w1 ⟨T, v, rfl, hch1⟩
  go_wp2_with fail
  go_ret3
  exact ⟨T, v, rfl, hch1⟩

end Go.Proofs.YtooifcdkpddlmaaDoor
