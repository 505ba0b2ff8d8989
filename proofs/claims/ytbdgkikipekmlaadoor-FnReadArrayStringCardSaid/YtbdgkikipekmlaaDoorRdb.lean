/- The walks of the reader of integers without a sign. The walks of the readers of the heads of lists and arrays. The walk of the reader of bytes. The walks of impl.ReadMilliseconds and impl.ReadListHead. The walk of impl.ReadListHead. No condition. -/
import Derived.Test.YtbdgkikipekmlaaDoorRda
namespace Go.Proofs.YtbdgkikipekmlaaDoor
set_option linter.unusedVariables false
set_option linter.unusedSimpArgs false
open Go.RowKit

/-- It is refused. -/
def RuNo (p : Nat) (w : World) (e : Ending) (w' : World) : Prop := ∃ (z : Int) (T : TypeId) (v : Value), e = .returned (.tuple #[.int .u64 z, .iface T v]) ∧ 0 ≤ z ∧ z < 18446744073709551616 ∧ Ch (fun b => b = p) w w'
/-- It has been read. -/
def RuYes (p : Nat) (A : Option Addr) (c : Nat) (l : List Int) (j : Nat) (z : Int) (w : World) (e : Ending) (w' : World) : Prop := e = .returned (.tuple #[.int .u64 z, .nilIface]) ∧ RbS p A c l j w' ∧ Ch (fun b => b = p) w w'
theorem beN_one (x : Int) : beN [x] = x := by simp [beN]
theorem take_one {l : List Int} {j : Nat} (h : j < l.length) : (l.drop j).take 1 = [l[j]] := by
  rw [List.drop_eq_getElem_cons h]
  rfl
set_option maxRecDepth 100000 in
set_option maxHeartbeats 1000000 in
theorem runum_67_ok {p : Nat} {A : Option Addr} {c : Nat} {l : List Int} {i : Nat} {w : World} (h : RbS p A c l i w) (hi : i + 1 ≤ l.length) (h0 : l[i]'(by omega) = 67) (hby : Byt l) :
    Calls Tryd.prog 71 #[.pointer (some ⟨p, 0, none⟩)] w (RuYes p A c l (i + 1) (beN ((l.drop (i + 1)).take 0)) w) := by
  have hr := hid (rtype_ok h (by omega))
  rw [h0] at hr
  rw [show beN ((l.drop (i + 1)).take 0) = 0 by simp [beN]]
  clear h h0
  go_enter Tryd.func71, Tryd.ntmps71
  go_wp2_with fail
  refine hr.out.mono ?_
  rintro e w1 ⟨rfl, h1, hch1⟩
  go_wp2_with fail
  go_ret2
  exact ⟨rfl, h1, hch1⟩
set_option maxRecDepth 100000 in
set_option maxHeartbeats 1000000 in
theorem runum_68_ok {p : Nat} {A : Option Addr} {c : Nat} {l : List Int} {i : Nat} {w : World} (h : RbS p A c l i w) (hi : i + 1 ≤ l.length) (h0 : l[i]'(by omega) = 68) (hby : Byt l) :
    Calls Tryd.prog 71 #[.pointer (some ⟨p, 0, none⟩)] w (RuYes p A c l (i + 1) (beN ((l.drop (i + 1)).take 0)) w) := by
  have hr := hid (rtype_ok h (by omega))
  rw [h0] at hr
  rw [show beN ((l.drop (i + 1)).take 0) = 0 by simp [beN]]
  clear h h0
  go_enter Tryd.func71, Tryd.ntmps71
  go_wp2_with fail
  refine hr.out.mono ?_
  rintro e w1 ⟨rfl, h1, hch1⟩
  go_wp2_with fail
  go_ret2
  exact ⟨rfl, h1, hch1⟩
set_option maxRecDepth 100000 in
set_option maxHeartbeats 1000000 in
theorem runum_80_ok {p : Nat} {A : Option Addr} {c : Nat} {l : List Int} {i : Nat} {w : World} (h : RbS p A c l i w) (hi : i + 2 ≤ l.length) (h0 : l[i]'(by omega) = 80) (hby : Byt l) :
    Calls Tryd.prog 71 #[.pointer (some ⟨p, 0, none⟩)] w (RuYes p A c l (i + 2) (beN ((l.drop (i + 1)).take 1)) w) := by
  have hr := hid (rtype_ok h (by omega))
  rw [h0] at hr
  have hx := hby (l[i + 1]'(by omega)) (List.getElem_mem _)
  have hu := hid (fun W (hW : RbS p A c l (i + 1) W) => rbyte_ok hW (by omega))
  rw [take_one (show i + 1 < l.length by omega), beN_one]
  generalize l[i + 1]'(by omega) = z at hx hu ⊢
  have hw : IntKind.u64.wrap z = z := by simp [IntKind.wrap, IntKind.bits, IntKind.signed]; omega
  clear h h0
  go_enter Tryd.func71, Tryd.ntmps71
  go_wp2_with fail
  refine hr.out.mono ?_
  rintro e w1 ⟨rfl, h1, hch1⟩
  go_wp2_with fail
  refine (hu.out w1 h1).mono ?_
  rintro e w2 ⟨rfl, h2, hch2⟩
  go_wp2_with fail
  go_ret2
  exact ⟨rfl, h2, hch1.trans hch2 (fun _ h => h) (fun _ h => .inl h)⟩
set_option maxRecDepth 100000 in
set_option maxHeartbeats 1000000 in
theorem runum_80_no {p : Nat} {A : Option Addr} {c : Nat} {l : List Int} {i : Nat} {w : World} (h : RbS p A c l i w) (hi : i < l.length) (hs : l.length < i + 2) (h0 : l[i] = 80) (hE : Eof w) (hpE : 4 ≠ p) :
    Calls Tryd.prog 71 #[.pointer (some ⟨p, 0, none⟩)] w (RuNo p w) := by
  have hr := hid (rtype_ok h hi)
  rw [h0] at hr
  have hu := hid (fun W (hW : RbS p A c l (i + 1) W) (hEW : Eof W) => rbyte_no hW (by omega) hEW)
  have HE : Hid (∀ W, Ch (fun b => b = p) w W → Eof W) := hid (fun W hW => by
    obtain ⟨T, v, hv⟩ := hE
    exact ⟨T, v, hW.cell hv hpE⟩)
  clear h h0 hi hs hE
  go_enter Tryd.func71, Tryd.ntmps71
  go_wp2_with fail
  refine hr.out.mono ?_
  rintro e w1 ⟨rfl, h1, hch1⟩
  go_wp2_with fail
  refine (hu.out w1 h1 (HE.out w1 hch1)).mono ?_
  rintro e w2 ⟨T, v, rfl, hch2⟩
  go_wp2_with fail
  go_ret2
  exact ⟨_, T, v, rfl, by omega, by omega, hch1.then_no hch2⟩
set_option maxRecDepth 100000 in
set_option maxHeartbeats 1000000 in
theorem runum_82_ok {p : Nat} {A : Option Addr} {c : Nat} {l : List Int} {i : Nat} {w : World} (h : RbS p A c l i w) (hi : i + 2 ≤ l.length) (h0 : l[i]'(by omega) = 82) (hby : Byt l) :
    Calls Tryd.prog 71 #[.pointer (some ⟨p, 0, none⟩)] w (RuYes p A c l (i + 2) (beN ((l.drop (i + 1)).take 1)) w) := by
  have hr := hid (rtype_ok h (by omega))
  rw [h0] at hr
  have hx := hby (l[i + 1]'(by omega)) (List.getElem_mem _)
  have hu := hid (fun W (hW : RbS p A c l (i + 1) W) => rbyte_ok hW (by omega))
  rw [take_one (show i + 1 < l.length by omega), beN_one]
  generalize l[i + 1]'(by omega) = z at hx hu ⊢
  have hw : IntKind.u64.wrap z = z := by simp [IntKind.wrap, IntKind.bits, IntKind.signed]; omega
  clear h h0
  go_enter Tryd.func71, Tryd.ntmps71
  go_wp2_with fail
  refine hr.out.mono ?_
  rintro e w1 ⟨rfl, h1, hch1⟩
  go_wp2_with fail
  refine (hu.out w1 h1).mono ?_
  rintro e w2 ⟨rfl, h2, hch2⟩
  go_wp2_with fail
  go_ret2
  exact ⟨rfl, h2, hch1.trans hch2 (fun _ h => h) (fun _ h => .inl h)⟩
set_option maxRecDepth 100000 in
set_option maxHeartbeats 1000000 in
theorem runum_82_no {p : Nat} {A : Option Addr} {c : Nat} {l : List Int} {i : Nat} {w : World} (h : RbS p A c l i w) (hi : i < l.length) (hs : l.length < i + 2) (h0 : l[i] = 82) (hE : Eof w) (hpE : 4 ≠ p) :
    Calls Tryd.prog 71 #[.pointer (some ⟨p, 0, none⟩)] w (RuNo p w) := by
  have hr := hid (rtype_ok h hi)
  rw [h0] at hr
  have hu := hid (fun W (hW : RbS p A c l (i + 1) W) (hEW : Eof W) => rbyte_no hW (by omega) hEW)
  have HE : Hid (∀ W, Ch (fun b => b = p) w W → Eof W) := hid (fun W hW => by
    obtain ⟨T, v, hv⟩ := hE
    exact ⟨T, v, hW.cell hv hpE⟩)
  clear h h0 hi hs hE
  go_enter Tryd.func71, Tryd.ntmps71
  go_wp2_with fail
  refine hr.out.mono ?_
  rintro e w1 ⟨rfl, h1, hch1⟩
  go_wp2_with fail
  refine (hu.out w1 h1 (HE.out w1 hch1)).mono ?_
  rintro e w2 ⟨T, v, rfl, hch2⟩
  go_wp2_with fail
  go_ret2
  exact ⟨_, T, v, rfl, by omega, by omega, hch1.then_no hch2⟩
set_option maxRecDepth 100000 in
set_option maxHeartbeats 1000000 in
theorem runum_83_ok {p : Nat} {A : Option Addr} {c : Nat} {l : List Int} {i : Nat} {w : World} (h : RbS p A c l i w) (hi : i + 2 ≤ l.length) (h0 : l[i]'(by omega) = 83) (hby : Byt l) :
    Calls Tryd.prog 71 #[.pointer (some ⟨p, 0, none⟩)] w (RuYes p A c l (i + 2) (beN ((l.drop (i + 1)).take 1)) w) := by
  have hr := hid (rtype_ok h (by omega))
  rw [h0] at hr
  have hx := hby (l[i + 1]'(by omega)) (List.getElem_mem _)
  have hu := hid (fun W (hW : RbS p A c l (i + 1) W) => rbyte_ok hW (by omega))
  rw [take_one (show i + 1 < l.length by omega), beN_one]
  generalize l[i + 1]'(by omega) = z at hx hu ⊢
  have hw : IntKind.u64.wrap z = z := by simp [IntKind.wrap, IntKind.bits, IntKind.signed]; omega
  clear h h0
  go_enter Tryd.func71, Tryd.ntmps71
  go_wp2_with fail
  refine hr.out.mono ?_
  rintro e w1 ⟨rfl, h1, hch1⟩
  go_wp2_with fail
  refine (hu.out w1 h1).mono ?_
  rintro e w2 ⟨rfl, h2, hch2⟩
  go_wp2_with fail
  go_ret2
  exact ⟨rfl, h2, hch1.trans hch2 (fun _ h => h) (fun _ h => .inl h)⟩
set_option maxRecDepth 100000 in
set_option maxHeartbeats 1000000 in
theorem runum_83_no {p : Nat} {A : Option Addr} {c : Nat} {l : List Int} {i : Nat} {w : World} (h : RbS p A c l i w) (hi : i < l.length) (hs : l.length < i + 2) (h0 : l[i] = 83) (hE : Eof w) (hpE : 4 ≠ p) :
    Calls Tryd.prog 71 #[.pointer (some ⟨p, 0, none⟩)] w (RuNo p w) := by
  have hr := hid (rtype_ok h hi)
  rw [h0] at hr
  have hu := hid (fun W (hW : RbS p A c l (i + 1) W) (hEW : Eof W) => rbyte_no hW (by omega) hEW)
  have HE : Hid (∀ W, Ch (fun b => b = p) w W → Eof W) := hid (fun W hW => by
    obtain ⟨T, v, hv⟩ := hE
    exact ⟨T, v, hW.cell hv hpE⟩)
  clear h h0 hi hs hE
  go_enter Tryd.func71, Tryd.ntmps71
  go_wp2_with fail
  refine hr.out.mono ?_
  rintro e w1 ⟨rfl, h1, hch1⟩
  go_wp2_with fail
  refine (hu.out w1 h1 (HE.out w1 hch1)).mono ?_
  rintro e w2 ⟨T, v, rfl, hch2⟩
  go_wp2_with fail
  go_ret2
  exact ⟨_, T, v, rfl, by omega, by omega, hch1.then_no hch2⟩
set_option maxRecDepth 100000 in
set_option maxHeartbeats 1000000 in
theorem runum_96_ok {p : Nat} {A : Option Addr} {c : Nat} {l : List Int} {i : Nat} {w : World} (h : RbS p A c l i w) (hi : i + 3 ≤ l.length) (h0 : l[i]'(by omega) = 96) (hby : Byt l) :
    Calls Tryd.prog 71 #[.pointer (some ⟨p, 0, none⟩)] w (RuYes p A c l (i + 3) (beN ((l.drop (i + 1)).take 2)) w) := by
  have hr := hid (rtype_ok h (by omega))
  rw [h0] at hr
  have hx := beN_lt8 (l := (l.drop (i + 1)).take 2) (by rw [List.length_take, List.length_drop]; omega) ((hby.drop (i + 1)).take 2)
  have hu := hid (fun W (hW : RbS p A c l (i + 1) W) => ru16_ok hW (by omega) hby)
  generalize beN ((l.drop (i + 1)).take 2) = z at hx hu ⊢
  have hw : IntKind.u64.wrap z = z := by simp [IntKind.wrap, IntKind.bits, IntKind.signed]; omega
  clear h h0
  go_enter Tryd.func71, Tryd.ntmps71
  go_wp2_with fail
  refine hr.out.mono ?_
  rintro e w1 ⟨rfl, h1, hch1⟩
  go_wp2_with fail
  refine (hu.out w1 h1).mono ?_
  rintro e w2 ⟨rfl, h2, hch2⟩
  go_wp2_with fail
  go_ret2
  exact ⟨rfl, h2, hch1.trans hch2 (fun _ h => h) (fun _ h => .inl h)⟩
set_option maxRecDepth 100000 in
set_option maxHeartbeats 1000000 in
theorem runum_96_no {p : Nat} {A : Option Addr} {c : Nat} {l : List Int} {i : Nat} {w : World} (h : RbS p A c l i w) (hi : i < l.length) (hs : l.length < i + 3) (h0 : l[i] = 96) (hE : Eof w) (hpE : 4 ≠ p) :
    Calls Tryd.prog 71 #[.pointer (some ⟨p, 0, none⟩)] w (RuNo p w) := by
  have hr := hid (rtype_ok h hi)
  rw [h0] at hr
  have hu := hid (fun W (hW : RbS p A c l (i + 1) W) (hEW : Eof W) => ru16_no hW (by omega) hEW)
  have HE : Hid (∀ W, Ch (fun b => b = p) w W → Eof W) := hid (fun W hW => by
    obtain ⟨T, v, hv⟩ := hE
    exact ⟨T, v, hW.cell hv hpE⟩)
  clear h h0 hi hs hE
  go_enter Tryd.func71, Tryd.ntmps71
  go_wp2_with fail
  refine hr.out.mono ?_
  rintro e w1 ⟨rfl, h1, hch1⟩
  go_wp2_with fail
  refine (hu.out w1 h1 (HE.out w1 hch1)).mono ?_
  rintro e w2 ⟨T, v, rfl, hch2⟩
  go_wp2_with fail
  go_ret2
  exact ⟨_, T, v, rfl, by omega, by omega, hch1.then_no hch2⟩
set_option maxRecDepth 100000 in
set_option maxHeartbeats 1000000 in
theorem runum_112_ok {p : Nat} {A : Option Addr} {c : Nat} {l : List Int} {i : Nat} {w : World} (h : RbS p A c l i w) (hi : i + 5 ≤ l.length) (h0 : l[i]'(by omega) = 112) (hby : Byt l) :
    Calls Tryd.prog 71 #[.pointer (some ⟨p, 0, none⟩)] w (RuYes p A c l (i + 5) (beN ((l.drop (i + 1)).take 4)) w) := by
  have hr := hid (rtype_ok h (by omega))
  rw [h0] at hr
  have hx := beN_lt8 (l := (l.drop (i + 1)).take 4) (by rw [List.length_take, List.length_drop]; omega) ((hby.drop (i + 1)).take 4)
  have hu := hid (fun W (hW : RbS p A c l (i + 1) W) => ru32_ok hW (by omega) hby)
  generalize beN ((l.drop (i + 1)).take 4) = z at hx hu ⊢
  have hw : IntKind.u64.wrap z = z := by simp [IntKind.wrap, IntKind.bits, IntKind.signed]; omega
  clear h h0
  go_enter Tryd.func71, Tryd.ntmps71
  go_wp2_with fail
  refine hr.out.mono ?_
  rintro e w1 ⟨rfl, h1, hch1⟩
  go_wp2_with fail
  refine (hu.out w1 h1).mono ?_
  rintro e w2 ⟨rfl, h2, hch2⟩
  go_wp2_with fail
  go_ret2
  exact ⟨rfl, h2, hch1.trans hch2 (fun _ h => h) (fun _ h => .inl h)⟩
set_option maxRecDepth 100000 in
set_option maxHeartbeats 1000000 in
theorem runum_112_no {p : Nat} {A : Option Addr} {c : Nat} {l : List Int} {i : Nat} {w : World} (h : RbS p A c l i w) (hi : i < l.length) (hs : l.length < i + 5) (h0 : l[i] = 112) (hE : Eof w) (hpE : 4 ≠ p) :
    Calls Tryd.prog 71 #[.pointer (some ⟨p, 0, none⟩)] w (RuNo p w) := by
  have hr := hid (rtype_ok h hi)
  rw [h0] at hr
  have hu := hid (fun W (hW : RbS p A c l (i + 1) W) (hEW : Eof W) => ru32_no hW (by omega) hEW)
  have HE : Hid (∀ W, Ch (fun b => b = p) w W → Eof W) := hid (fun W hW => by
    obtain ⟨T, v, hv⟩ := hE
    exact ⟨T, v, hW.cell hv hpE⟩)
  clear h h0 hi hs hE
  go_enter Tryd.func71, Tryd.ntmps71
  go_wp2_with fail
  refine hr.out.mono ?_
  rintro e w1 ⟨rfl, h1, hch1⟩
  go_wp2_with fail
  refine (hu.out w1 h1 (HE.out w1 hch1)).mono ?_
  rintro e w2 ⟨T, v, rfl, hch2⟩
  go_wp2_with fail
  go_ret2
  exact ⟨_, T, v, rfl, by omega, by omega, hch1.then_no hch2⟩
set_option maxRecDepth 100000 in
set_option maxHeartbeats 1000000 in
theorem runum_128_ok {p : Nat} {A : Option Addr} {c : Nat} {l : List Int} {i : Nat} {w : World} (h : RbS p A c l i w) (hi : i + 9 ≤ l.length) (h0 : l[i]'(by omega) = 128) (hby : Byt l) :
    Calls Tryd.prog 71 #[.pointer (some ⟨p, 0, none⟩)] w (RuYes p A c l (i + 9) (beN ((l.drop (i + 1)).take 8)) w) := by
  have hr := hid (rtype_ok h (by omega))
  rw [h0] at hr
  have hx := beN_lt8 (l := (l.drop (i + 1)).take 8) (by rw [List.length_take, List.length_drop]; omega) ((hby.drop (i + 1)).take 8)
  have hu := hid (fun W (hW : RbS p A c l (i + 1) W) => ru64_ok hW (by omega) hby)
  generalize beN ((l.drop (i + 1)).take 8) = z at hx hu ⊢
  clear h h0
  go_enter Tryd.func71, Tryd.ntmps71
  go_wp2_with fail
  refine hr.out.mono ?_
  rintro e w1 ⟨rfl, h1, hch1⟩
  go_wp2_with fail
  refine (hu.out w1 h1).mono ?_
  rintro e w2 ⟨rfl, h2, hch2⟩
  go_wp2_with fail
  go_ret2
  exact ⟨rfl, h2, hch1.trans hch2 (fun _ h => h) (fun _ h => .inl h)⟩
set_option maxRecDepth 100000 in
set_option maxHeartbeats 1000000 in
theorem runum_128_no {p : Nat} {A : Option Addr} {c : Nat} {l : List Int} {i : Nat} {w : World} (h : RbS p A c l i w) (hi : i < l.length) (hs : l.length < i + 9) (h0 : l[i] = 128) (hE : Eof w) (hpE : 4 ≠ p) :
    Calls Tryd.prog 71 #[.pointer (some ⟨p, 0, none⟩)] w (RuNo p w) := by
  have hr := hid (rtype_ok h hi)
  rw [h0] at hr
  have hu := hid (fun W (hW : RbS p A c l (i + 1) W) (hEW : Eof W) => ru64_no hW (by omega) hEW)
  have HE : Hid (∀ W, Ch (fun b => b = p) w W → Eof W) := hid (fun W hW => by
    obtain ⟨T, v, hv⟩ := hE
    exact ⟨T, v, hW.cell hv hpE⟩)
  clear h h0 hi hs hE
  go_enter Tryd.func71, Tryd.ntmps71
  go_wp2_with fail
  refine hr.out.mono ?_
  rintro e w1 ⟨rfl, h1, hch1⟩
  go_wp2_with fail
  refine (hu.out w1 h1 (HE.out w1 hch1)).mono ?_
  rintro e w2 ⟨T, v, rfl, hch2⟩
  go_wp2_with fail
  go_ret2
  exact ⟨_, T, v, rfl, by omega, by omega, hch1.then_no hch2⟩
set_option maxRecDepth 100000 in
theorem runum_end {p : Nat} {A : Option Addr} {c : Nat} {l : List Int} {i : Nat} {w : World} (h : RbS p A c l i w) (hi : l.length ≤ i) (hE : Eof w) :
    Calls Tryd.prog 71 #[.pointer (some ⟨p, 0, none⟩)] w (RuNo p w) := by
  have hr := hid (rtype_no h hi hE)
  clear h hi
  go_enter Tryd.func71, Tryd.ntmps71
  go_wp2_with fail
  refine hr.out.mono ?_
  rintro e w1 ⟨T, v, rfl, hch1⟩
  go_wp2_with fail
  go_ret2
  exact ⟨_, T, v, rfl, by omega, by omega, Ch.of_no hch1⟩
set_option maxRecDepth 100000 in
theorem runum_other {p : Nat} {A : Option Addr} {c : Nat} {l : List Int} {i : Nat} {w : World} (h : RbS p A c l i w) (hi : i < l.length) (h0 : l[i] ≠ 67 ∧ l[i] ≠ 68 ∧ l[i] ≠ 80 ∧ l[i] ≠ 82 ∧ l[i] ≠ 83 ∧ l[i] ≠ 96 ∧ l[i] ≠ 112 ∧ l[i] ≠ 128) :
    Calls Tryd.prog 71 #[.pointer (some ⟨p, 0, none⟩)] w (RuNo p w) := by
  have hr := hid (rtype_ok h hi)
  generalize l[i] = x at hr h0
  have e67 : (x == 67) = false := beq_eq_false_iff_ne.2 (by omega)
  have g67 : decide (x = 67) = false := decide_eq_false (by omega)
  have e68 : (x == 68) = false := beq_eq_false_iff_ne.2 (by omega)
  have g68 : decide (x = 68) = false := decide_eq_false (by omega)
  have e80 : (x == 80) = false := beq_eq_false_iff_ne.2 (by omega)
  have g80 : decide (x = 80) = false := decide_eq_false (by omega)
  have e82 : (x == 82) = false := beq_eq_false_iff_ne.2 (by omega)
  have g82 : decide (x = 82) = false := decide_eq_false (by omega)
  have e83 : (x == 83) = false := beq_eq_false_iff_ne.2 (by omega)
  have g83 : decide (x = 83) = false := decide_eq_false (by omega)
  have e96 : (x == 96) = false := beq_eq_false_iff_ne.2 (by omega)
  have g96 : decide (x = 96) = false := decide_eq_false (by omega)
  have e112 : (x == 112) = false := beq_eq_false_iff_ne.2 (by omega)
  have g112 : decide (x = 112) = false := decide_eq_false (by omega)
  have e128 : (x == 128) = false := beq_eq_false_iff_ne.2 (by omega)
  have g128 : decide (x = 128) = false := decide_eq_false (by omega)
  clear h hi h0
  go_enter Tryd.func71, Tryd.ntmps71
  go_wp2_with fail
  refine hr.out.mono ?_
  rintro e w1 ⟨rfl, _, hch1⟩
  go_wp2_with (go_at_call 76; refine (errNew_calls _ _).mono ?_; rintro e w2 ⟨T, v, rfl, hch2⟩)
  go_ret2
  exact ⟨_, T, v, rfl, by omega, by omega, hch1.then_no hch2⟩

end Go.Proofs.YtbdgkikipekmlaaDoor

namespace Go.Proofs.YtbdgkikipekmlaaDoor
set_option linter.unusedVariables false
set_option linter.unusedSimpArgs false
open Go.RowKit

/-- A head is refused. -/
def HdNo (p : Nat) (w : World) (e : Ending) (w' : World) : Prop := ∃ (z : Int) (T : TypeId) (v : Value), e = .returned (.tuple #[.int .i64 z, .iface T v]) ∧ Ch (fun b => b = p) w w'
def HdYes (p : Nat) (A : Option Addr) (c : Nat) (l : List Int) (j : Nat) (z : Int) (w : World) (e : Ending) (w' : World) : Prop := e = .returned (.tuple #[.int .i64 z, .nilIface]) ∧ RbS p A c l j w' ∧ Ch (fun b => b = p) w w'
theorem len_calls' {p : Nat} {A : Option Addr} {c : Nat} {l : List Int} {i : Nat} {w : World} (h : RbS p A c l i w) (L : Int) (hL : L = (l.length : Int) - i) :
    Calls Tryd.prog 88 #[.pointer (some ⟨p, 0, none⟩)] w fun e w' => e = .returned (.int .i64 L) ∧ Ch No w w' := by
  subst hL
  exact len_calls h
theorem pair_cells {w : World} {A : Option Addr} {l : List Int} {j : Nat} (h : Rd u8 w A ((l.drop j).take 2)) (hj : j + 2 ≤ l.length) :
    ∃ b o, A = some ⟨b, o, none⟩ ∧ w.cell? ⟨b, o, none⟩ = some (.int .u8 (l[j]'(by omega))) ∧ w.cell? ⟨b, o + 1, none⟩ = some (.int .u8 (l[j + 1]'(by omega))) := by
  have hl : ((l.drop j).take 2).length = 2 := by rw [List.length_take, List.length_drop]; omega
  obtain ⟨b, o, rfl, h0⟩ := h.at_ 0 (by omega)
  obtain ⟨b', o', he, h1⟩ := h.at_ 1 (by omega)
  injection he with he
  injection he with e1 e2
  subst e1; subst e2
  refine ⟨b, o, rfl, ?_, ?_⟩
  · rw [show ((l.drop j).take 2)[0] = l[j] by simp] at h0
    exact h0
  · rw [show ((l.drop j).take 2)[1] = l[j + 1] by simp] at h1
    exact h1
theorem beN_lt4 {l : List Int} (hl : l.length ≤ 4) (hb : Byt l) : 0 ≤ beN l ∧ beN l < 4294967296 := by
  obtain ⟨h0, h1⟩ := beN_range _ l rfl hb
  have hf : ∀ k : Fin 5, (256 : Int) ^ k.val ≤ 4294967296 := by decide
  exact ⟨h0, Int.lt_of_lt_of_le h1 (hf ⟨l.length, by omega⟩)⟩
set_option maxRecDepth 100000 in
set_option maxHeartbeats 2000000 in
theorem rlist_end {p : Nat} {A : Option Addr} {c : Nat} {l : List Int} {i : Nat} {w : World} (h : RbS p A c l i w) (hi : l.length ≤ i) (hE : Eof w) :
    Calls Tryd.prog 72 #[.pointer (some ⟨p, 0, none⟩)] w (HdNo p w) := by
  have hr := hid (rtype_no h hi hE)
  clear h hi
  go_enter Tryd.func72, Tryd.ntmps72
  go_wp2_with fail
  refine hr.out.mono ?_
  rintro e w1 ⟨T, v, rfl, hch1⟩
  go_wp2_with fail
  go_ret2
  exact ⟨_, T, v, rfl, Ch.of_no hch1⟩
set_option maxRecDepth 100000 in
set_option maxHeartbeats 2000000 in
theorem rlist_other {p : Nat} {A : Option Addr} {c : Nat} {l : List Int} {i : Nat} {w : World} (h : RbS p A c l i w) (hi : i < l.length) (h0 : l[i] ≠ 69 ∧ l[i] ≠ 192 ∧ l[i] ≠ 208) :
    Calls Tryd.prog 72 #[.pointer (some ⟨p, 0, none⟩)] w (HdNo p w) := by
  have hr := hid (rtype_ok h hi)
  have hln := hid (fun W (hW : RbS p A c l (i + 1) W) => len_calls hW)
  generalize l[i] = x at hr h0
  have e69 : (x == 69) = false := beq_eq_false_iff_ne.2 (by omega)
  have g69 : decide (x = 69) = false := decide_eq_false (by omega)
  have e192 : (x == 192) = false := beq_eq_false_iff_ne.2 (by omega)
  have g192 : decide (x = 192) = false := decide_eq_false (by omega)
  have e208 : (x == 208) = false := beq_eq_false_iff_ne.2 (by omega)
  have g208 : decide (x = 208) = false := decide_eq_false (by omega)
  generalize (l.length : Int) - ((i + 1 : Nat) : Int) = LL at hln
  clear h hi h0
  go_enter Tryd.func72, Tryd.ntmps72
  go_wp2_with fail
  refine hr.out.mono ?_
  rintro e w1 ⟨rfl, h1, hch1⟩
  go_wp2_with fail
  refine (hln.out w1 h1).mono ?_
  rintro e w2 ⟨rfl, hch2⟩
  go_wp2_with (go_at_call 76; refine (errNew_calls _ _).mono ?_; rintro e w9 ⟨T, v, rfl, hch9⟩)
  go_ret2
  exact ⟨_, T, v, rfl, (hch1.then_no hch2).then_no hch9⟩
set_option maxRecDepth 100000 in
set_option maxHeartbeats 2000000 in
theorem rlist_nil {p : Nat} {A : Option Addr} {c : Nat} {l : List Int} {i : Nat} {w : World} (h : RbS p A c l i w) (hi : i < l.length) (h0 : l[i] = 69) :
    Calls Tryd.prog 72 #[.pointer (some ⟨p, 0, none⟩)] w (HdYes p A c l (i + 1) 0 w) := by
  have hr := hid (rtype_ok h hi)
  rw [h0] at hr
  have hln := hid (fun W (hW : RbS p A c l (i + 1) W) => len_calls hW)
  generalize (l.length : Int) - ((i + 1 : Nat) : Int) = LL at hln
  clear h hi h0
  go_enter Tryd.func72, Tryd.ntmps72
  go_wp2_with fail
  refine hr.out.mono ?_
  rintro e w1 ⟨rfl, h1, hch1⟩
  go_wp2_with fail
  refine (hln.out w1 h1).mono ?_
  rintro e w2 ⟨rfl, hch2⟩
  go_wp2_with fail
  go_ret2
  exact ⟨rfl, h1.keep0 hch2, hch1.then_no hch2⟩
set_option maxRecDepth 100000 in
set_option maxHeartbeats 2000000 in
theorem rlist_192_cut {p : Nat} {A : Option Addr} {c : Nat} {l : List Int} {i : Nat} {w : World} (h : RbS p A c l i w) (hi : i < l.length) (hs : l.length < i + 3) (h0 : l[i] = 192) :
    Calls Tryd.prog 72 #[.pointer (some ⟨p, 0, none⟩)] w (HdNo p w) := by
  have hr := hid (rtype_ok h hi)
  rw [h0] at hr
  have hln := hid (fun W (hW : RbS p A c l (i + 1) W) => len_calls hW)
  have hnx := hid (fun W (hW : RbS p A c l (i + 1) W) => next_no hW 2 (by omega) (by omega) (by omega))
  generalize (l.length : Int) - ((i + 1 : Nat) : Int) = LL at hln
  clear h hi hs h0
  go_enter Tryd.func72, Tryd.ntmps72
  go_wp2_with fail
  refine hr.out.mono ?_
  rintro e w1 ⟨rfl, h1, hch1⟩
  go_wp2_with fail
  refine (hln.out w1 h1).mono ?_
  rintro e w2 ⟨rfl, hch2⟩
  go_wp2_with fail
  refine (hnx.out w2 (h1.keep0 hch2)).mono ?_
  rintro e w3 ⟨vb, rfl, hch3⟩
  go_wp2_with (go_at_call 76; refine (errNew_calls _ _).mono ?_; rintro e w9 ⟨T, v, rfl, hch9⟩)
  go_ret2
  exact ⟨_, T, v, rfl, ((hch1.then_no hch2).trans hch3 (fun _ h => h) (fun _ h => .inl h)).then_no hch9⟩
set_option maxRecDepth 100000 in
set_option maxHeartbeats 2000000 in
theorem rlist_208_cut {p : Nat} {A : Option Addr} {c : Nat} {l : List Int} {i : Nat} {w : World} (h : RbS p A c l i w) (hi : i < l.length) (hs : l.length < i + 9) (h0 : l[i] = 208) :
    Calls Tryd.prog 72 #[.pointer (some ⟨p, 0, none⟩)] w (HdNo p w) := by
  have hr := hid (rtype_ok h hi)
  rw [h0] at hr
  have hln := hid (fun W (hW : RbS p A c l (i + 1) W) => len_calls hW)
  have hnx := hid (fun W (hW : RbS p A c l (i + 1) W) => next_no hW 8 (by omega) (by omega) (by omega))
  generalize (l.length : Int) - ((i + 1 : Nat) : Int) = LL at hln
  clear h hi hs h0
  go_enter Tryd.func72, Tryd.ntmps72
  go_wp2_with fail
  refine hr.out.mono ?_
  rintro e w1 ⟨rfl, h1, hch1⟩
  go_wp2_with fail
  refine (hln.out w1 h1).mono ?_
  rintro e w2 ⟨rfl, hch2⟩
  go_wp2_with fail
  refine (hnx.out w2 (h1.keep0 hch2)).mono ?_
  rintro e w3 ⟨vb, rfl, hch3⟩
  go_wp2_with (go_at_call 76; refine (errNew_calls _ _).mono ?_; rintro e w9 ⟨T, v, rfl, hch9⟩)
  go_ret2
  exact ⟨_, T, v, rfl, ((hch1.then_no hch2).trans hch3 (fun _ h => h) (fun _ h => .inl h)).then_no hch9⟩
set_option maxRecDepth 100000 in
set_option maxHeartbeats 2000000 in
theorem rlist_192 {p : Nat} {A : Option Addr} {c : Nat} {l : List Int} {i : Nat} {w : World} (h : RbS p A c l i w) (hi : i + 3 ≤ l.length) (h0 : l[i]'(by omega) = 192) (hby : Byt l) (s n : Int) (hs : s = l[i + 1]'(by omega)) (hn : n = l[i + 2]'(by omega)) :
    Calls Tryd.prog 72 #[.pointer (some ⟨p, 0, none⟩)] w (fun e w' => if (i : Int) + 2 + s ≤ l.length ∧ n + 1 ≤ s then HdYes p A c l (i + 3) n w e w' else HdNo p w e w') := by
  have hr := hid (rtype_ok h (by omega))
  rw [h0] at hr
  have hs1 := hby (l[i + 1]'(by omega)) (List.getElem_mem _)
  have hn1 := hby (l[i + 2]'(by omega)) (List.getElem_mem _)
  rw [← hs] at hs1
  rw [← hn] at hn1
  have hcell := hid (fun (W : World) (A' : Option Addr) (hR : Rd u8 W A' ((l.drop (i + 1)).take 2)) => pair_cells hR (by omega))
  rw [← hs, ← hn] at hcell
  obtain ⟨LL, hLL⟩ : ∃ LL : Int, LL = (l.length : Int) - ((i + 1 : Nat) : Int) := ⟨_, rfl⟩
  have hln := hid (fun W (hW : RbS p A c l (i + 1) W) => len_calls' hW LL hLL)
  have hnx := hid (fun W (hW : RbS p A c l (i + 1) W) => next_ok hW 2 (by omega) (by omega))
  have hlb := h.lb
  have hws : IntKind.i64.wrap s = s := by simp [IntKind.wrap, IntKind.bits, IntKind.signed]; omega
  have hwn : IntKind.i64.wrap n = n := by simp [IntKind.wrap, IntKind.bits, IntKind.signed]; omega
  have hwl : IntKind.i64.wrap (LL - 1) = LL - 1 := by simp [IntKind.wrap, IntKind.bits, IntKind.signed]; omega
  have hws1 : IntKind.i64.wrap (s - 1) = s - 1 := by simp [IntKind.wrap, IntKind.bits, IntKind.signed]; omega
  have hd0 : decide ((65536 : Int) < n) = false := decide_eq_false (by omega)
  have hcond : ((i : Int) + 2 + s ≤ l.length ∧ n + 1 ≤ s) ↔ (¬ (LL - 1 < s) ∧ ¬ (s < 1) ∧ ¬ (s - 1 < n)) := by omega
  simp only [hcond]
  have HL2 : Hid (0 ≤ LL ∧ LL ≤ 1099511627776) := hid (by omega)
  clear h hi h0 hs hn hcond hLL hlb hby
  by_cases hc1 : LL - 1 < s
  · have hcc : (¬ (LL - 1 < s) ∧ ¬ (s < 1) ∧ ¬ (s - 1 < n)) = False := eq_false (fun hq => by omega)
    simp only [hcc, if_false]
    clear hcc
    have hd1 : decide (LL - 1 < s) = true := decide_eq_true hc1
    clear hc1
    go_enter Tryd.func72, Tryd.ntmps72
    go_wp2_with fail
    refine hr.out.mono ?_
    rintro e w1 ⟨rfl, h1, hch1⟩
    go_wp2_with fail
    refine (hln.out w1 h1).mono ?_
    rintro e w2 ⟨rfl, hch2⟩
    go_wp2_with fail
    refine (hnx.out w2 (h1.keep0 hch2)).mono ?_
    rintro e w3 ⟨A3, c3, rfl, hR3, hc3, h3, hch3, _⟩
    obtain ⟨b3, o3, rfl, q0, q1⟩ := hcell.out w3 A3 hR3
    go_wp2_with (go_at_call 76; refine (errNew_calls _ _).mono ?_; rintro e w9 ⟨T, v, rfl, hch9⟩)
    go_ret2
    exact ⟨_, T, v, rfl, ((hch1.then_no hch2).trans hch3 (fun _ h => h) (fun _ h => .inl h)).then_no hch9⟩
  have hd1 : decide (LL - 1 < s) = false := decide_eq_false hc1
  by_cases hc2 : s < 1
  · have hcc : (¬ (LL - 1 < s) ∧ ¬ (s < 1) ∧ ¬ (s - 1 < n)) = False := eq_false (fun hq => by omega)
    simp only [hcc, if_false]
    clear hcc
    have hd2 : decide (s < 1) = true := decide_eq_true hc2
    clear hc1 hc2
    go_enter Tryd.func72, Tryd.ntmps72
    go_wp2_with fail
    refine hr.out.mono ?_
    rintro e w1 ⟨rfl, h1, hch1⟩
    go_wp2_with fail
    refine (hln.out w1 h1).mono ?_
    rintro e w2 ⟨rfl, hch2⟩
    go_wp2_with fail
    refine (hnx.out w2 (h1.keep0 hch2)).mono ?_
    rintro e w3 ⟨A3, c3, rfl, hR3, hc3, h3, hch3, _⟩
    obtain ⟨b3, o3, rfl, q0, q1⟩ := hcell.out w3 A3 hR3
    go_wp2_with (go_at_call 76; refine (errNew_calls _ _).mono ?_; rintro e w9 ⟨T, v, rfl, hch9⟩)
    go_ret2
    exact ⟨_, T, v, rfl, ((hch1.then_no hch2).trans hch3 (fun _ h => h) (fun _ h => .inl h)).then_no hch9⟩
  have hd2 : decide (s < 1) = false := decide_eq_false hc2
  by_cases hc3 : s - 1 < n
  · have hcc : (¬ (LL - 1 < s) ∧ ¬ (s < 1) ∧ ¬ (s - 1 < n)) = False := eq_false (fun hq => by omega)
    simp only [hcc, if_false]
    clear hcc
    have hd3 : decide (s - 1 < n) = true := decide_eq_true hc3
    clear hc1 hc2 hc3
    go_enter Tryd.func72, Tryd.ntmps72
    go_wp2_with fail
    refine hr.out.mono ?_
    rintro e w1 ⟨rfl, h1, hch1⟩
    go_wp2_with fail
    refine (hln.out w1 h1).mono ?_
    rintro e w2 ⟨rfl, hch2⟩
    go_wp2_with fail
    refine (hnx.out w2 (h1.keep0 hch2)).mono ?_
    rintro e w3 ⟨A3, c3, rfl, hR3, hc3, h3, hch3, _⟩
    obtain ⟨b3, o3, rfl, q0, q1⟩ := hcell.out w3 A3 hR3
    go_wp2_with (go_at_call 76; refine (errNew_calls _ _).mono ?_; rintro e w9 ⟨T, v, rfl, hch9⟩)
    go_ret2
    exact ⟨_, T, v, rfl, ((hch1.then_no hch2).trans hch3 (fun _ h => h) (fun _ h => .inl h)).then_no hch9⟩
  have hd3 : decide (s - 1 < n) = false := decide_eq_false hc3
  have hcc : (¬ (LL - 1 < s) ∧ ¬ (s < 1) ∧ ¬ (s - 1 < n)) = True := eq_true ⟨hc1, hc2, hc3⟩
  simp only [hcc, if_true]
  clear hcc
  clear hc1 hc2 hc3
  go_enter Tryd.func72, Tryd.ntmps72
  go_wp2_with fail
  refine hr.out.mono ?_
  rintro e w1 ⟨rfl, h1, hch1⟩
  go_wp2_with fail
  refine (hln.out w1 h1).mono ?_
  rintro e w2 ⟨rfl, hch2⟩
  go_wp2_with fail
  refine (hnx.out w2 (h1.keep0 hch2)).mono ?_
  rintro e w3 ⟨A3, c3, rfl, hR3, hc3, h3, hch3, _⟩
  obtain ⟨b3, o3, rfl, q0, q1⟩ := hcell.out w3 A3 hR3
  go_wp2_with fail
  go_ret2
  exact ⟨rfl, h3, (hch1.then_no hch2).trans hch3 (fun _ h => h) (fun _ h => .inl h)⟩
set_option maxRecDepth 100000 in
set_option maxHeartbeats 2000000 in
theorem rlist_208 {p : Nat} {A : Option Addr} {c : Nat} {l : List Int} {i : Nat} {w : World} (h : RbS p A c l i w) (hi : i + 9 ≤ l.length) (h0 : l[i]'(by omega) = 208) (hby : Byt l) (s n : Int) (hs : beN ((l.drop (i + 1)).take 4) = s) (hn : beN ((l.drop (i + 5)).take 4) = n) :
    Calls Tryd.prog 72 #[.pointer (some ⟨p, 0, none⟩)] w (fun e w' => if (i : Int) + 5 + s ≤ l.length ∧ n ≤ 65536 ∧ n + 4 ≤ s then HdYes p A c l (i + 9) n w e w' else HdNo p w e w') := by
  have hr := hid (rtype_ok h (by omega))
  rw [h0] at hr
  have hs1 := beN_lt4 (l := (l.drop (i + 1)).take 4) (by rw [List.length_take]; omega) ((hby.drop (i + 1)).take 4)
  have hn1 := beN_lt4 (l := (l.drop (i + 5)).take 4) (by rw [List.length_take]; omega) ((hby.drop (i + 5)).take 4)
  rw [hs] at hs1
  rw [hn] at hn1
  have e4 : ((l.drop (i + 1)).take 4).length = 4 := by rw [List.length_take, List.length_drop]; omega
  have e5 : ((l.drop (i + 5)).take 4).length = 4 := by rw [List.length_take, List.length_drop]; omega
  have e8 : ((l.drop (i + 1)).take 8).length = 8 := by rw [List.length_take, List.length_drop]; omega
  have hb4 := hid (fun (W : World) (A' : Option Addr) (c' : Nat) (hR : Rd u8 W A' ((l.drop (i + 1)).take 8)) => be32_calls A' c' ((l.drop (i + 1)).take 4) W (by have h9 := hR.take 4; rw [List.take_take] at h9; exact h9) ((hby.drop (i + 1)).take 4) (by omega))
  have hb5 := hid (fun (W : World) (A' : Option Addr) (c' : Nat) (hR : Rd u8 W A' ((l.drop (i + 5)).take 4)) => be32_calls A' c' ((l.drop (i + 5)).take 4) W hR ((hby.drop (i + 5)).take 4) (by omega))
  rw [List.take_take, show min 4 4 = 4 from rfl] at hb4 hb5
  rw [e4, hs] at hb4
  rw [e5, hn] at hb5
  have hcut := hid (fun (W : World) (A' : Option Addr) (c' : Nat) (hc' : 8 ≤ c') (hR : Rd u8 W A' ((l.drop (i + 1)).take 8)) (A2 : Option Addr) (hq : Cut A' 8 c' 4 8 A2) => (show Rd u8 W A2 ((l.drop (i + 5)).take 4) from by
    have h9 := hq.rd u8 W _ hR e8 hc' (Nat.le_refl _)
    rw [List.take_take, Nat.min_self, List.drop_take, List.drop_drop] at h9
    exact h9))
  obtain ⟨LL, hLL⟩ : ∃ LL : Int, LL = (l.length : Int) - ((i + 1 : Nat) : Int) := ⟨_, rfl⟩
  have hln := hid (fun W (hW : RbS p A c l (i + 1) W) => len_calls' hW LL hLL)
  have hnx := hid (fun W (hW : RbS p A c l (i + 1) W) => next_ok hW 8 (by omega) (by omega))
  have hlb := h.lb
  have hws : IntKind.i64.wrap s = s := by simp [IntKind.wrap, IntKind.bits, IntKind.signed]; omega
  have hwn : IntKind.i64.wrap n = n := by simp [IntKind.wrap, IntKind.bits, IntKind.signed]; omega
  have hwl : IntKind.i64.wrap (LL - 4) = LL - 4 := by simp [IntKind.wrap, IntKind.bits, IntKind.signed]; omega
  have hws1 : IntKind.i64.wrap (s - 4) = s - 4 := by simp [IntKind.wrap, IntKind.bits, IntKind.signed]; omega
  have hcond : ((i : Int) + 5 + s ≤ l.length ∧ n ≤ 65536 ∧ n + 4 ≤ s) ↔ (¬ (LL - 4 < s) ∧ ¬ (65536 < n) ∧ ¬ (s < 4) ∧ ¬ (s - 4 < n)) := by omega
  simp only [hcond]
  have HL2 : Hid (0 ≤ LL ∧ LL ≤ 1099511627776) := hid (by omega)
  have HE8 := hid e8
  clear h hi h0 hs hn hcond hLL hlb hby e4 e5 e8
  by_cases hc0 : LL - 4 < s
  · have hcc : (¬ (LL - 4 < s) ∧ ¬ (65536 < n) ∧ ¬ (s < 4) ∧ ¬ (s - 4 < n)) = False := eq_false (fun hq => by omega)
    simp only [hcc, if_false]
    clear hcc
    have hd0 : decide (LL - 4 < s) = true := decide_eq_true hc0
    clear hc0
    go_enter Tryd.func72, Tryd.ntmps72
    go_wp2_with fail
    refine hr.out.mono ?_
    rintro e w1 ⟨rfl, h1, hch1⟩
    go_wp2_with fail
    refine (hln.out w1 h1).mono ?_
    rintro e w2 ⟨rfl, hch2⟩
    go_wp2_with fail
    refine (hnx.out w2 (h1.keep0 hch2)).mono ?_
    rintro e w3 ⟨A3, c3, rfl, hR3, hc3, h3, hch3, _⟩
    obtain ⟨A4, k2, k3, hq⟩ := Cut.ahead_lh2 26 5 Tryd.underlying26 size_u8' A3 8 c3 4 8 4 8 rfl rfl .i64 .i64 (by omega) hc3
    obtain ⟨k4, k5⟩ := Cut.ahead_h 26 5 Tryd.underlying26 size_u8' A3 8 c3 4 4 rfl .i64 (by omega)
    have hR4 := hcut.out w3 A3 c3 hc3 hR3 A4 hq
    obtain ⟨b3, o3, rfl, _⟩ : ∃ b o, A3 = some ⟨b, o, none⟩ ∧ True := by
      obtain ⟨b, o, h9, _⟩ := hR3 (by rw [HE8.out]; omega)
      exact ⟨b, o, h9, trivial⟩
    obtain ⟨q7⟩ : Nonempty (w3.cell? ⟨b3, o3 + 7, none⟩ = some (.int .u8 (((l.drop (i + 1)).take 8)[7]'(by rw [HE8.out]; omega)))) := by
      obtain ⟨b', o', h9, h8⟩ := hR3.at_ 7 (by rw [HE8.out]; omega)
      injection h9 with h9
      injection h9 with e1 e2
      subst e1; subst e2
      exact ⟨h8⟩
    generalize ((l.drop (i + 1)).take 8)[7]'(by rw [HE8.out]; omega) = x7 at q7
    go_wp2_with fail
    go_region_held3 (fun _ => True) (first | exact trivial) (first | (go_at_call 84; refine (hb4.out _ (some ⟨b3, o3, none⟩) c3 (hR3.keep0 (Ch.refl No w3).drew)).mono ?_; rintro e w4 ⟨rfl, hch4'⟩))
    have hch4 := (Ch.refl No w3).drew.no_no hch4'
    go_wp2_with (go_at_call 76; refine (errNew_calls _ _).mono ?_; rintro e w9 ⟨T, v, rfl, hch9⟩)
    go_ret2
    exact ⟨_, T, v, rfl, (((hch1.then_no hch2).trans hch3 (fun _ h => h) (fun _ h => .inl h)).then_no hch4).then_no hch9⟩
  have hd0 : decide (LL - 4 < s) = false := decide_eq_false hc0
  by_cases hc1 : 65536 < n
  · have hcc : (¬ (LL - 4 < s) ∧ ¬ (65536 < n) ∧ ¬ (s < 4) ∧ ¬ (s - 4 < n)) = False := eq_false (fun hq => by omega)
    simp only [hcc, if_false]
    clear hcc
    have hd1 : decide (65536 < n) = true := decide_eq_true hc1
    clear hc0 hc1
    go_enter Tryd.func72, Tryd.ntmps72
    go_wp2_with fail
    refine hr.out.mono ?_
    rintro e w1 ⟨rfl, h1, hch1⟩
    go_wp2_with fail
    refine (hln.out w1 h1).mono ?_
    rintro e w2 ⟨rfl, hch2⟩
    go_wp2_with fail
    refine (hnx.out w2 (h1.keep0 hch2)).mono ?_
    rintro e w3 ⟨A3, c3, rfl, hR3, hc3, h3, hch3, _⟩
    obtain ⟨A4, k2, k3, hq⟩ := Cut.ahead_lh2 26 5 Tryd.underlying26 size_u8' A3 8 c3 4 8 4 8 rfl rfl .i64 .i64 (by omega) hc3
    obtain ⟨k4, k5⟩ := Cut.ahead_h 26 5 Tryd.underlying26 size_u8' A3 8 c3 4 4 rfl .i64 (by omega)
    have hR4 := hcut.out w3 A3 c3 hc3 hR3 A4 hq
    obtain ⟨b3, o3, rfl, _⟩ : ∃ b o, A3 = some ⟨b, o, none⟩ ∧ True := by
      obtain ⟨b, o, h9, _⟩ := hR3 (by rw [HE8.out]; omega)
      exact ⟨b, o, h9, trivial⟩
    obtain ⟨q7⟩ : Nonempty (w3.cell? ⟨b3, o3 + 7, none⟩ = some (.int .u8 (((l.drop (i + 1)).take 8)[7]'(by rw [HE8.out]; omega)))) := by
      obtain ⟨b', o', h9, h8⟩ := hR3.at_ 7 (by rw [HE8.out]; omega)
      injection h9 with h9
      injection h9 with e1 e2
      subst e1; subst e2
      exact ⟨h8⟩
    generalize ((l.drop (i + 1)).take 8)[7]'(by rw [HE8.out]; omega) = x7 at q7
    go_wp2_with fail
    go_region_held3 (fun _ => True) (first | exact trivial) (first | (go_at_call 84; refine (hb4.out _ (some ⟨b3, o3, none⟩) c3 (hR3.keep0 (Ch.refl No w3).drew)).mono ?_; rintro e w4 ⟨rfl, hch4'⟩))
    have hch4 := (Ch.refl No w3).drew.no_no hch4'
    go_wp2_with fail
    go_region_held3 (fun _ => True) (first | exact trivial) (first | (go_at_call 84; refine (hb5.out _ A4 (c3 - 4) ((hR4.keep0 hch4).keep0 (Ch.refl No w4).drew)).mono ?_; rintro e w5 ⟨rfl, hch5'⟩))
    have hch5 := (Ch.refl No w4).drew.no_no hch5'
    go_wp2_with (go_at_call 76; refine (errNew_calls _ _).mono ?_; rintro e w9 ⟨T, v, rfl, hch9⟩)
    go_ret2
    exact ⟨_, T, v, rfl, ((((hch1.then_no hch2).trans hch3 (fun _ h => h) (fun _ h => .inl h)).then_no hch4).then_no hch5).then_no hch9⟩
  have hd1 : decide (65536 < n) = false := decide_eq_false hc1
  by_cases hc2 : s < 4
  · have hcc : (¬ (LL - 4 < s) ∧ ¬ (65536 < n) ∧ ¬ (s < 4) ∧ ¬ (s - 4 < n)) = False := eq_false (fun hq => by omega)
    simp only [hcc, if_false]
    clear hcc
    have hd2 : decide (s < 4) = true := decide_eq_true hc2
    clear hc0 hc1 hc2
    go_enter Tryd.func72, Tryd.ntmps72
    go_wp2_with fail
    refine hr.out.mono ?_
    rintro e w1 ⟨rfl, h1, hch1⟩
    go_wp2_with fail
    refine (hln.out w1 h1).mono ?_
    rintro e w2 ⟨rfl, hch2⟩
    go_wp2_with fail
    refine (hnx.out w2 (h1.keep0 hch2)).mono ?_
    rintro e w3 ⟨A3, c3, rfl, hR3, hc3, h3, hch3, _⟩
    obtain ⟨A4, k2, k3, hq⟩ := Cut.ahead_lh2 26 5 Tryd.underlying26 size_u8' A3 8 c3 4 8 4 8 rfl rfl .i64 .i64 (by omega) hc3
    obtain ⟨k4, k5⟩ := Cut.ahead_h 26 5 Tryd.underlying26 size_u8' A3 8 c3 4 4 rfl .i64 (by omega)
    have hR4 := hcut.out w3 A3 c3 hc3 hR3 A4 hq
    obtain ⟨b3, o3, rfl, _⟩ : ∃ b o, A3 = some ⟨b, o, none⟩ ∧ True := by
      obtain ⟨b, o, h9, _⟩ := hR3 (by rw [HE8.out]; omega)
      exact ⟨b, o, h9, trivial⟩
    obtain ⟨q7⟩ : Nonempty (w3.cell? ⟨b3, o3 + 7, none⟩ = some (.int .u8 (((l.drop (i + 1)).take 8)[7]'(by rw [HE8.out]; omega)))) := by
      obtain ⟨b', o', h9, h8⟩ := hR3.at_ 7 (by rw [HE8.out]; omega)
      injection h9 with h9
      injection h9 with e1 e2
      subst e1; subst e2
      exact ⟨h8⟩
    generalize ((l.drop (i + 1)).take 8)[7]'(by rw [HE8.out]; omega) = x7 at q7
    go_wp2_with fail
    go_region_held3 (fun _ => True) (first | exact trivial) (first | (go_at_call 84; refine (hb4.out _ (some ⟨b3, o3, none⟩) c3 (hR3.keep0 (Ch.refl No w3).drew)).mono ?_; rintro e w4 ⟨rfl, hch4'⟩))
    have hch4 := (Ch.refl No w3).drew.no_no hch4'
    go_wp2_with fail
    go_region_held3 (fun _ => True) (first | exact trivial) (first | (go_at_call 84; refine (hb5.out _ A4 (c3 - 4) ((hR4.keep0 hch4).keep0 (Ch.refl No w4).drew)).mono ?_; rintro e w5 ⟨rfl, hch5'⟩))
    have hch5 := (Ch.refl No w4).drew.no_no hch5'
    go_wp2_with (go_at_call 76; refine (errNew_calls _ _).mono ?_; rintro e w9 ⟨T, v, rfl, hch9⟩)
    go_ret2
    exact ⟨_, T, v, rfl, ((((hch1.then_no hch2).trans hch3 (fun _ h => h) (fun _ h => .inl h)).then_no hch4).then_no hch5).then_no hch9⟩
  have hd2 : decide (s < 4) = false := decide_eq_false hc2
  by_cases hc3 : s - 4 < n
  · have hcc : (¬ (LL - 4 < s) ∧ ¬ (65536 < n) ∧ ¬ (s < 4) ∧ ¬ (s - 4 < n)) = False := eq_false (fun hq => by omega)
    simp only [hcc, if_false]
    clear hcc
    have hd3 : decide (s - 4 < n) = true := decide_eq_true hc3
    clear hc0 hc1 hc2 hc3
    go_enter Tryd.func72, Tryd.ntmps72
    go_wp2_with fail
    refine hr.out.mono ?_
    rintro e w1 ⟨rfl, h1, hch1⟩
    go_wp2_with fail
    refine (hln.out w1 h1).mono ?_
    rintro e w2 ⟨rfl, hch2⟩
    go_wp2_with fail
    refine (hnx.out w2 (h1.keep0 hch2)).mono ?_
    rintro e w3 ⟨A3, c3, rfl, hR3, hc3, h3, hch3, _⟩
    obtain ⟨A4, k2, k3, hq⟩ := Cut.ahead_lh2 26 5 Tryd.underlying26 size_u8' A3 8 c3 4 8 4 8 rfl rfl .i64 .i64 (by omega) hc3
    obtain ⟨k4, k5⟩ := Cut.ahead_h 26 5 Tryd.underlying26 size_u8' A3 8 c3 4 4 rfl .i64 (by omega)
    have hR4 := hcut.out w3 A3 c3 hc3 hR3 A4 hq
    obtain ⟨b3, o3, rfl, _⟩ : ∃ b o, A3 = some ⟨b, o, none⟩ ∧ True := by
      obtain ⟨b, o, h9, _⟩ := hR3 (by rw [HE8.out]; omega)
      exact ⟨b, o, h9, trivial⟩
    obtain ⟨q7⟩ : Nonempty (w3.cell? ⟨b3, o3 + 7, none⟩ = some (.int .u8 (((l.drop (i + 1)).take 8)[7]'(by rw [HE8.out]; omega)))) := by
      obtain ⟨b', o', h9, h8⟩ := hR3.at_ 7 (by rw [HE8.out]; omega)
      injection h9 with h9
      injection h9 with e1 e2
      subst e1; subst e2
      exact ⟨h8⟩
    generalize ((l.drop (i + 1)).take 8)[7]'(by rw [HE8.out]; omega) = x7 at q7
    go_wp2_with fail
    go_region_held3 (fun _ => True) (first | exact trivial) (first | (go_at_call 84; refine (hb4.out _ (some ⟨b3, o3, none⟩) c3 (hR3.keep0 (Ch.refl No w3).drew)).mono ?_; rintro e w4 ⟨rfl, hch4'⟩))
    have hch4 := (Ch.refl No w3).drew.no_no hch4'
    go_wp2_with fail
    go_region_held3 (fun _ => True) (first | exact trivial) (first | (go_at_call 84; refine (hb5.out _ A4 (c3 - 4) ((hR4.keep0 hch4).keep0 (Ch.refl No w4).drew)).mono ?_; rintro e w5 ⟨rfl, hch5'⟩))
    have hch5 := (Ch.refl No w4).drew.no_no hch5'
    go_wp2_with (go_at_call 76; refine (errNew_calls _ _).mono ?_; rintro e w9 ⟨T, v, rfl, hch9⟩)
    go_ret2
    exact ⟨_, T, v, rfl, ((((hch1.then_no hch2).trans hch3 (fun _ h => h) (fun _ h => .inl h)).then_no hch4).then_no hch5).then_no hch9⟩
  have hd3 : decide (s - 4 < n) = false := decide_eq_false hc3
  have hcc : (¬ (LL - 4 < s) ∧ ¬ (65536 < n) ∧ ¬ (s < 4) ∧ ¬ (s - 4 < n)) = True := eq_true ⟨hc0, hc1, hc2, hc3⟩
  simp only [hcc, if_true]
  clear hcc hc0 hc1 hc2 hc3
  go_enter Tryd.func72, Tryd.ntmps72
  go_wp2_with fail
  refine hr.out.mono ?_
  rintro e w1 ⟨rfl, h1, hch1⟩
  go_wp2_with fail
  refine (hln.out w1 h1).mono ?_
  rintro e w2 ⟨rfl, hch2⟩
  go_wp2_with fail
  refine (hnx.out w2 (h1.keep0 hch2)).mono ?_
  rintro e w3 ⟨A3, c3, rfl, hR3, hc3, h3, hch3, _⟩
  obtain ⟨A4, k2, k3, hq⟩ := Cut.ahead_lh2 26 5 Tryd.underlying26 size_u8' A3 8 c3 4 8 4 8 rfl rfl .i64 .i64 (by omega) hc3
  obtain ⟨k4, k5⟩ := Cut.ahead_h 26 5 Tryd.underlying26 size_u8' A3 8 c3 4 4 rfl .i64 (by omega)
  have hR4 := hcut.out w3 A3 c3 hc3 hR3 A4 hq
  obtain ⟨b3, o3, rfl, _⟩ : ∃ b o, A3 = some ⟨b, o, none⟩ ∧ True := by
    obtain ⟨b, o, h9, _⟩ := hR3 (by rw [HE8.out]; omega)
    exact ⟨b, o, h9, trivial⟩
  obtain ⟨q7⟩ : Nonempty (w3.cell? ⟨b3, o3 + 7, none⟩ = some (.int .u8 (((l.drop (i + 1)).take 8)[7]'(by rw [HE8.out]; omega)))) := by
    obtain ⟨b', o', h9, h8⟩ := hR3.at_ 7 (by rw [HE8.out]; omega)
    injection h9 with h9
    injection h9 with e1 e2
    subst e1; subst e2
    exact ⟨h8⟩
  generalize ((l.drop (i + 1)).take 8)[7]'(by rw [HE8.out]; omega) = x7 at q7
  go_wp2_with fail
  go_region_held3 (fun _ => True) (first | exact trivial) (first | (go_at_call 84; refine (hb4.out _ (some ⟨b3, o3, none⟩) c3 (hR3.keep0 (Ch.refl No w3).drew)).mono ?_; rintro e w4 ⟨rfl, hch4'⟩))
  have hch4 := (Ch.refl No w3).drew.no_no hch4'
  go_wp2_with fail
  go_region_held3 (fun _ => True) (first | exact trivial) (first | (go_at_call 84; refine (hb5.out _ A4 (c3 - 4) ((hR4.keep0 hch4).keep0 (Ch.refl No w4).drew)).mono ?_; rintro e w5 ⟨rfl, hch5'⟩))
  have hch5 := (Ch.refl No w4).drew.no_no hch5'
  go_wp2_with fail
  go_ret2
  exact ⟨rfl, (h3.keep0 hch4).keep0 hch5, (((hch1.then_no hch2).trans hch3 (fun _ h => h) (fun _ h => .inl h)).then_no hch4).then_no hch5⟩
set_option maxRecDepth 100000 in
set_option maxHeartbeats 2000000 in
theorem rarr_end {p : Nat} {A : Option Addr} {c : Nat} {l : List Int} {i : Nat} {w : World} (h : RbS p A c l i w) (hi : l.length ≤ i) (hE : Eof w) :
    Calls Tryd.prog 80 #[.pointer (some ⟨p, 0, none⟩)] w (HdNo p w) := by
  have hr := hid (rtype_no h hi hE)
  clear h hi
  go_enter Tryd.func80, Tryd.ntmps80
  go_wp2_with fail
  refine hr.out.mono ?_
  rintro e w1 ⟨T, v, rfl, hch1⟩
  go_wp2_with fail
  go_ret2
  exact ⟨_, T, v, rfl, Ch.of_no hch1⟩
set_option maxRecDepth 100000 in
set_option maxHeartbeats 2000000 in
theorem rarr_other {p : Nat} {A : Option Addr} {c : Nat} {l : List Int} {i : Nat} {w : World} (h : RbS p A c l i w) (hi : i < l.length) (h0 : l[i] ≠ 224 ∧ l[i] ≠ 240) :
    Calls Tryd.prog 80 #[.pointer (some ⟨p, 0, none⟩)] w (HdNo p w) := by
  have hr := hid (rtype_ok h hi)
  have hln := hid (fun W (hW : RbS p A c l (i + 1) W) => len_calls hW)
  generalize l[i] = x at hr h0
  have e224 : (x == 224) = false := beq_eq_false_iff_ne.2 (by omega)
  have g224 : decide (x = 224) = false := decide_eq_false (by omega)
  have e240 : (x == 240) = false := beq_eq_false_iff_ne.2 (by omega)
  have g240 : decide (x = 240) = false := decide_eq_false (by omega)
  generalize (l.length : Int) - ((i + 1 : Nat) : Int) = LL at hln
  clear h hi h0
  go_enter Tryd.func80, Tryd.ntmps80
  go_wp2_with fail
  refine hr.out.mono ?_
  rintro e w1 ⟨rfl, h1, hch1⟩
  go_wp2_with fail
  refine (hln.out w1 h1).mono ?_
  rintro e w2 ⟨rfl, hch2⟩
  go_wp2_with (go_at_call 76; refine (errNew_calls _ _).mono ?_; rintro e w9 ⟨T, v, rfl, hch9⟩)
  go_ret2
  exact ⟨_, T, v, rfl, (hch1.then_no hch2).then_no hch9⟩
set_option maxRecDepth 100000 in
set_option maxHeartbeats 2000000 in
theorem rarr_224_cut {p : Nat} {A : Option Addr} {c : Nat} {l : List Int} {i : Nat} {w : World} (h : RbS p A c l i w) (hi : i < l.length) (hs : l.length < i + 3) (h0 : l[i] = 224) :
    Calls Tryd.prog 80 #[.pointer (some ⟨p, 0, none⟩)] w (HdNo p w) := by
  have hr := hid (rtype_ok h hi)
  rw [h0] at hr
  have hln := hid (fun W (hW : RbS p A c l (i + 1) W) => len_calls hW)
  have hnx := hid (fun W (hW : RbS p A c l (i + 1) W) => next_no hW 2 (by omega) (by omega) (by omega))
  generalize (l.length : Int) - ((i + 1 : Nat) : Int) = LL at hln
  clear h hi hs h0
  go_enter Tryd.func80, Tryd.ntmps80
  go_wp2_with fail
  refine hr.out.mono ?_
  rintro e w1 ⟨rfl, h1, hch1⟩
  go_wp2_with fail
  refine (hln.out w1 h1).mono ?_
  rintro e w2 ⟨rfl, hch2⟩
  go_wp2_with fail
  refine (hnx.out w2 (h1.keep0 hch2)).mono ?_
  rintro e w3 ⟨vb, rfl, hch3⟩
  go_wp2_with (go_at_call 76; refine (errNew_calls _ _).mono ?_; rintro e w9 ⟨T, v, rfl, hch9⟩)
  go_ret2
  exact ⟨_, T, v, rfl, ((hch1.then_no hch2).trans hch3 (fun _ h => h) (fun _ h => .inl h)).then_no hch9⟩
set_option maxRecDepth 100000 in
set_option maxHeartbeats 2000000 in
theorem rarr_240_cut {p : Nat} {A : Option Addr} {c : Nat} {l : List Int} {i : Nat} {w : World} (h : RbS p A c l i w) (hi : i < l.length) (hs : l.length < i + 9) (h0 : l[i] = 240) :
    Calls Tryd.prog 80 #[.pointer (some ⟨p, 0, none⟩)] w (HdNo p w) := by
  have hr := hid (rtype_ok h hi)
  rw [h0] at hr
  have hln := hid (fun W (hW : RbS p A c l (i + 1) W) => len_calls hW)
  have hnx := hid (fun W (hW : RbS p A c l (i + 1) W) => next_no hW 8 (by omega) (by omega) (by omega))
  generalize (l.length : Int) - ((i + 1 : Nat) : Int) = LL at hln
  clear h hi hs h0
  go_enter Tryd.func80, Tryd.ntmps80
  go_wp2_with fail
  refine hr.out.mono ?_
  rintro e w1 ⟨rfl, h1, hch1⟩
  go_wp2_with fail
  refine (hln.out w1 h1).mono ?_
  rintro e w2 ⟨rfl, hch2⟩
  go_wp2_with fail
  refine (hnx.out w2 (h1.keep0 hch2)).mono ?_
  rintro e w3 ⟨vb, rfl, hch3⟩
  go_wp2_with (go_at_call 76; refine (errNew_calls _ _).mono ?_; rintro e w9 ⟨T, v, rfl, hch9⟩)
  go_ret2
  exact ⟨_, T, v, rfl, ((hch1.then_no hch2).trans hch3 (fun _ h => h) (fun _ h => .inl h)).then_no hch9⟩
set_option maxRecDepth 100000 in
set_option maxHeartbeats 2000000 in
theorem rarr_224 {p : Nat} {A : Option Addr} {c : Nat} {l : List Int} {i : Nat} {w : World} (h : RbS p A c l i w) (hi : i + 3 ≤ l.length) (h0 : l[i]'(by omega) = 224) (hby : Byt l) (s n : Int) (hs : s = l[i + 1]'(by omega)) (hn : n = l[i + 2]'(by omega)) :
    Calls Tryd.prog 80 #[.pointer (some ⟨p, 0, none⟩)] w (fun e w' => if (i : Int) + 2 + s ≤ l.length ∧ n + 1 ≤ s then HdYes p A c l (i + 3) n w e w' else HdNo p w e w') := by
  have hr := hid (rtype_ok h (by omega))
  rw [h0] at hr
  have hs1 := hby (l[i + 1]'(by omega)) (List.getElem_mem _)
  have hn1 := hby (l[i + 2]'(by omega)) (List.getElem_mem _)
  rw [← hs] at hs1
  rw [← hn] at hn1
  have hcell := hid (fun (W : World) (A' : Option Addr) (hR : Rd u8 W A' ((l.drop (i + 1)).take 2)) => pair_cells hR (by omega))
  rw [← hs, ← hn] at hcell
  obtain ⟨LL, hLL⟩ : ∃ LL : Int, LL = (l.length : Int) - ((i + 1 : Nat) : Int) := ⟨_, rfl⟩
  have hln := hid (fun W (hW : RbS p A c l (i + 1) W) => len_calls' hW LL hLL)
  have hnx := hid (fun W (hW : RbS p A c l (i + 1) W) => next_ok hW 2 (by omega) (by omega))
  have hlb := h.lb
  have hws : IntKind.i64.wrap s = s := by simp [IntKind.wrap, IntKind.bits, IntKind.signed]; omega
  have hwn : IntKind.i64.wrap n = n := by simp [IntKind.wrap, IntKind.bits, IntKind.signed]; omega
  have hwl : IntKind.i64.wrap (LL - 1) = LL - 1 := by simp [IntKind.wrap, IntKind.bits, IntKind.signed]; omega
  have hws1 : IntKind.i64.wrap (s - 1) = s - 1 := by simp [IntKind.wrap, IntKind.bits, IntKind.signed]; omega
  have hd0 : decide ((65536 : Int) < n) = false := decide_eq_false (by omega)
  have hcond : ((i : Int) + 2 + s ≤ l.length ∧ n + 1 ≤ s) ↔ (¬ (LL - 1 < s) ∧ ¬ (s < 1) ∧ ¬ (s - 1 < n)) := by omega
  simp only [hcond]
  have HL2 : Hid (0 ≤ LL ∧ LL ≤ 1099511627776) := hid (by omega)
  clear h hi h0 hs hn hcond hLL hlb hby
  by_cases hc1 : LL - 1 < s
  · have hcc : (¬ (LL - 1 < s) ∧ ¬ (s < 1) ∧ ¬ (s - 1 < n)) = False := eq_false (fun hq => by omega)
    simp only [hcc, if_false]
    clear hcc
    have hd1 : decide (LL - 1 < s) = true := decide_eq_true hc1
    clear hc1
    go_enter Tryd.func80, Tryd.ntmps80
    go_wp2_with fail
    refine hr.out.mono ?_
    rintro e w1 ⟨rfl, h1, hch1⟩
    go_wp2_with fail
    refine (hln.out w1 h1).mono ?_
    rintro e w2 ⟨rfl, hch2⟩
    go_wp2_with fail
    refine (hnx.out w2 (h1.keep0 hch2)).mono ?_
    rintro e w3 ⟨A3, c3, rfl, hR3, hc3, h3, hch3, _⟩
    obtain ⟨b3, o3, rfl, q0, q1⟩ := hcell.out w3 A3 hR3
    go_wp2_with (go_at_call 76; refine (errNew_calls _ _).mono ?_; rintro e w9 ⟨T, v, rfl, hch9⟩)
    go_ret2
    exact ⟨_, T, v, rfl, ((hch1.then_no hch2).trans hch3 (fun _ h => h) (fun _ h => .inl h)).then_no hch9⟩
  have hd1 : decide (LL - 1 < s) = false := decide_eq_false hc1
  by_cases hc2 : s < 1
  · have hcc : (¬ (LL - 1 < s) ∧ ¬ (s < 1) ∧ ¬ (s - 1 < n)) = False := eq_false (fun hq => by omega)
    simp only [hcc, if_false]
    clear hcc
    have hd2 : decide (s < 1) = true := decide_eq_true hc2
    clear hc1 hc2
    go_enter Tryd.func80, Tryd.ntmps80
    go_wp2_with fail
    refine hr.out.mono ?_
    rintro e w1 ⟨rfl, h1, hch1⟩
    go_wp2_with fail
    refine (hln.out w1 h1).mono ?_
    rintro e w2 ⟨rfl, hch2⟩
    go_wp2_with fail
    refine (hnx.out w2 (h1.keep0 hch2)).mono ?_
    rintro e w3 ⟨A3, c3, rfl, hR3, hc3, h3, hch3, _⟩
    obtain ⟨b3, o3, rfl, q0, q1⟩ := hcell.out w3 A3 hR3
    go_wp2_with (go_at_call 76; refine (errNew_calls _ _).mono ?_; rintro e w9 ⟨T, v, rfl, hch9⟩)
    go_ret2
    exact ⟨_, T, v, rfl, ((hch1.then_no hch2).trans hch3 (fun _ h => h) (fun _ h => .inl h)).then_no hch9⟩
  have hd2 : decide (s < 1) = false := decide_eq_false hc2
  by_cases hc3 : s - 1 < n
  · have hcc : (¬ (LL - 1 < s) ∧ ¬ (s < 1) ∧ ¬ (s - 1 < n)) = False := eq_false (fun hq => by omega)
    simp only [hcc, if_false]
    clear hcc
    have hd3 : decide (s - 1 < n) = true := decide_eq_true hc3
    clear hc1 hc2 hc3
    go_enter Tryd.func80, Tryd.ntmps80
    go_wp2_with fail
    refine hr.out.mono ?_
    rintro e w1 ⟨rfl, h1, hch1⟩
    go_wp2_with fail
    refine (hln.out w1 h1).mono ?_
    rintro e w2 ⟨rfl, hch2⟩
    go_wp2_with fail
    refine (hnx.out w2 (h1.keep0 hch2)).mono ?_
    rintro e w3 ⟨A3, c3, rfl, hR3, hc3, h3, hch3, _⟩
    obtain ⟨b3, o3, rfl, q0, q1⟩ := hcell.out w3 A3 hR3
    go_wp2_with (go_at_call 76; refine (errNew_calls _ _).mono ?_; rintro e w9 ⟨T, v, rfl, hch9⟩)
    go_ret2
    exact ⟨_, T, v, rfl, ((hch1.then_no hch2).trans hch3 (fun _ h => h) (fun _ h => .inl h)).then_no hch9⟩
  have hd3 : decide (s - 1 < n) = false := decide_eq_false hc3
  have hcc : (¬ (LL - 1 < s) ∧ ¬ (s < 1) ∧ ¬ (s - 1 < n)) = True := eq_true ⟨hc1, hc2, hc3⟩
  simp only [hcc, if_true]
  clear hcc
  clear hc1 hc2 hc3
  go_enter Tryd.func80, Tryd.ntmps80
  go_wp2_with fail
  refine hr.out.mono ?_
  rintro e w1 ⟨rfl, h1, hch1⟩
  go_wp2_with fail
  refine (hln.out w1 h1).mono ?_
  rintro e w2 ⟨rfl, hch2⟩
  go_wp2_with fail
  refine (hnx.out w2 (h1.keep0 hch2)).mono ?_
  rintro e w3 ⟨A3, c3, rfl, hR3, hc3, h3, hch3, _⟩
  obtain ⟨b3, o3, rfl, q0, q1⟩ := hcell.out w3 A3 hR3
  go_wp2_with fail
  go_ret2
  exact ⟨rfl, h3, (hch1.then_no hch2).trans hch3 (fun _ h => h) (fun _ h => .inl h)⟩
set_option maxRecDepth 100000 in
set_option maxHeartbeats 2000000 in
theorem rarr_240 {p : Nat} {A : Option Addr} {c : Nat} {l : List Int} {i : Nat} {w : World} (h : RbS p A c l i w) (hi : i + 9 ≤ l.length) (h0 : l[i]'(by omega) = 240) (hby : Byt l) (s n : Int) (hs : beN ((l.drop (i + 1)).take 4) = s) (hn : beN ((l.drop (i + 5)).take 4) = n) :
    Calls Tryd.prog 80 #[.pointer (some ⟨p, 0, none⟩)] w (fun e w' => if (i : Int) + 5 + s ≤ l.length ∧ n ≤ 65536 ∧ n + 4 ≤ s then HdYes p A c l (i + 9) n w e w' else HdNo p w e w') := by
  have hr := hid (rtype_ok h (by omega))
  rw [h0] at hr
  have hs1 := beN_lt4 (l := (l.drop (i + 1)).take 4) (by rw [List.length_take]; omega) ((hby.drop (i + 1)).take 4)
  have hn1 := beN_lt4 (l := (l.drop (i + 5)).take 4) (by rw [List.length_take]; omega) ((hby.drop (i + 5)).take 4)
  rw [hs] at hs1
  rw [hn] at hn1
  have e4 : ((l.drop (i + 1)).take 4).length = 4 := by rw [List.length_take, List.length_drop]; omega
  have e5 : ((l.drop (i + 5)).take 4).length = 4 := by rw [List.length_take, List.length_drop]; omega
  have e8 : ((l.drop (i + 1)).take 8).length = 8 := by rw [List.length_take, List.length_drop]; omega
  have hb4 := hid (fun (W : World) (A' : Option Addr) (c' : Nat) (hR : Rd u8 W A' ((l.drop (i + 1)).take 8)) => be32_calls A' c' ((l.drop (i + 1)).take 4) W (by have h9 := hR.take 4; rw [List.take_take] at h9; exact h9) ((hby.drop (i + 1)).take 4) (by omega))
  have hb5 := hid (fun (W : World) (A' : Option Addr) (c' : Nat) (hR : Rd u8 W A' ((l.drop (i + 5)).take 4)) => be32_calls A' c' ((l.drop (i + 5)).take 4) W hR ((hby.drop (i + 5)).take 4) (by omega))
  rw [List.take_take, show min 4 4 = 4 from rfl] at hb4 hb5
  rw [e4, hs] at hb4
  rw [e5, hn] at hb5
  have hcut := hid (fun (W : World) (A' : Option Addr) (c' : Nat) (hc' : 8 ≤ c') (hR : Rd u8 W A' ((l.drop (i + 1)).take 8)) (A2 : Option Addr) (hq : Cut A' 8 c' 4 8 A2) => (show Rd u8 W A2 ((l.drop (i + 5)).take 4) from by
    have h9 := hq.rd u8 W _ hR e8 hc' (Nat.le_refl _)
    rw [List.take_take, Nat.min_self, List.drop_take, List.drop_drop] at h9
    exact h9))
  obtain ⟨LL, hLL⟩ : ∃ LL : Int, LL = (l.length : Int) - ((i + 1 : Nat) : Int) := ⟨_, rfl⟩
  have hln := hid (fun W (hW : RbS p A c l (i + 1) W) => len_calls' hW LL hLL)
  have hnx := hid (fun W (hW : RbS p A c l (i + 1) W) => next_ok hW 8 (by omega) (by omega))
  have hlb := h.lb
  have hws : IntKind.i64.wrap s = s := by simp [IntKind.wrap, IntKind.bits, IntKind.signed]; omega
  have hwn : IntKind.i64.wrap n = n := by simp [IntKind.wrap, IntKind.bits, IntKind.signed]; omega
  have hwl : IntKind.i64.wrap (LL - 4) = LL - 4 := by simp [IntKind.wrap, IntKind.bits, IntKind.signed]; omega
  have hws1 : IntKind.i64.wrap (s - 4) = s - 4 := by simp [IntKind.wrap, IntKind.bits, IntKind.signed]; omega
  have hcond : ((i : Int) + 5 + s ≤ l.length ∧ n ≤ 65536 ∧ n + 4 ≤ s) ↔ (¬ (LL - 4 < s) ∧ ¬ (65536 < n) ∧ ¬ (s < 4) ∧ ¬ (s - 4 < n)) := by omega
  simp only [hcond]
  have HL2 : Hid (0 ≤ LL ∧ LL ≤ 1099511627776) := hid (by omega)
  have HE8 := hid e8
  clear h hi h0 hs hn hcond hLL hlb hby e4 e5 e8
  by_cases hc0 : LL - 4 < s
  · have hcc : (¬ (LL - 4 < s) ∧ ¬ (65536 < n) ∧ ¬ (s < 4) ∧ ¬ (s - 4 < n)) = False := eq_false (fun hq => by omega)
    simp only [hcc, if_false]
    clear hcc
    have hd0 : decide (LL - 4 < s) = true := decide_eq_true hc0
    clear hc0
    go_enter Tryd.func80, Tryd.ntmps80
    go_wp2_with fail
    refine hr.out.mono ?_
    rintro e w1 ⟨rfl, h1, hch1⟩
    go_wp2_with fail
    refine (hln.out w1 h1).mono ?_
    rintro e w2 ⟨rfl, hch2⟩
    go_wp2_with fail
    refine (hnx.out w2 (h1.keep0 hch2)).mono ?_
    rintro e w3 ⟨A3, c3, rfl, hR3, hc3, h3, hch3, _⟩
    obtain ⟨A4, k2, k3, hq⟩ := Cut.ahead_lh2 26 5 Tryd.underlying26 size_u8' A3 8 c3 4 8 4 8 rfl rfl .i64 .i64 (by omega) hc3
    obtain ⟨k4, k5⟩ := Cut.ahead_h 26 5 Tryd.underlying26 size_u8' A3 8 c3 4 4 rfl .i64 (by omega)
    have hR4 := hcut.out w3 A3 c3 hc3 hR3 A4 hq
    obtain ⟨b3, o3, rfl, _⟩ : ∃ b o, A3 = some ⟨b, o, none⟩ ∧ True := by
      obtain ⟨b, o, h9, _⟩ := hR3 (by rw [HE8.out]; omega)
      exact ⟨b, o, h9, trivial⟩
    obtain ⟨q7⟩ : Nonempty (w3.cell? ⟨b3, o3 + 7, none⟩ = some (.int .u8 (((l.drop (i + 1)).take 8)[7]'(by rw [HE8.out]; omega)))) := by
      obtain ⟨b', o', h9, h8⟩ := hR3.at_ 7 (by rw [HE8.out]; omega)
      injection h9 with h9
      injection h9 with e1 e2
      subst e1; subst e2
      exact ⟨h8⟩
    generalize ((l.drop (i + 1)).take 8)[7]'(by rw [HE8.out]; omega) = x7 at q7
    go_wp2_with fail
    go_region_held3 (fun _ => True) (first | exact trivial) (first | (go_at_call 84; refine (hb4.out _ (some ⟨b3, o3, none⟩) c3 (hR3.keep0 (Ch.refl No w3).drew)).mono ?_; rintro e w4 ⟨rfl, hch4'⟩))
    have hch4 := (Ch.refl No w3).drew.no_no hch4'
    go_wp2_with (go_at_call 76; refine (errNew_calls _ _).mono ?_; rintro e w9 ⟨T, v, rfl, hch9⟩)
    go_ret2
    exact ⟨_, T, v, rfl, (((hch1.then_no hch2).trans hch3 (fun _ h => h) (fun _ h => .inl h)).then_no hch4).then_no hch9⟩
  have hd0 : decide (LL - 4 < s) = false := decide_eq_false hc0
  by_cases hc1 : 65536 < n
  · have hcc : (¬ (LL - 4 < s) ∧ ¬ (65536 < n) ∧ ¬ (s < 4) ∧ ¬ (s - 4 < n)) = False := eq_false (fun hq => by omega)
    simp only [hcc, if_false]
    clear hcc
    have hd1 : decide (65536 < n) = true := decide_eq_true hc1
    clear hc0 hc1
    go_enter Tryd.func80, Tryd.ntmps80
    go_wp2_with fail
    refine hr.out.mono ?_
    rintro e w1 ⟨rfl, h1, hch1⟩
    go_wp2_with fail
    refine (hln.out w1 h1).mono ?_
    rintro e w2 ⟨rfl, hch2⟩
    go_wp2_with fail
    refine (hnx.out w2 (h1.keep0 hch2)).mono ?_
    rintro e w3 ⟨A3, c3, rfl, hR3, hc3, h3, hch3, _⟩
    obtain ⟨A4, k2, k3, hq⟩ := Cut.ahead_lh2 26 5 Tryd.underlying26 size_u8' A3 8 c3 4 8 4 8 rfl rfl .i64 .i64 (by omega) hc3
    obtain ⟨k4, k5⟩ := Cut.ahead_h 26 5 Tryd.underlying26 size_u8' A3 8 c3 4 4 rfl .i64 (by omega)
    have hR4 := hcut.out w3 A3 c3 hc3 hR3 A4 hq
    obtain ⟨b3, o3, rfl, _⟩ : ∃ b o, A3 = some ⟨b, o, none⟩ ∧ True := by
      obtain ⟨b, o, h9, _⟩ := hR3 (by rw [HE8.out]; omega)
      exact ⟨b, o, h9, trivial⟩
    obtain ⟨q7⟩ : Nonempty (w3.cell? ⟨b3, o3 + 7, none⟩ = some (.int .u8 (((l.drop (i + 1)).take 8)[7]'(by rw [HE8.out]; omega)))) := by
      obtain ⟨b', o', h9, h8⟩ := hR3.at_ 7 (by rw [HE8.out]; omega)
      injection h9 with h9
      injection h9 with e1 e2
      subst e1; subst e2
      exact ⟨h8⟩
    generalize ((l.drop (i + 1)).take 8)[7]'(by rw [HE8.out]; omega) = x7 at q7
    go_wp2_with fail
    go_region_held3 (fun _ => True) (first | exact trivial) (first | (go_at_call 84; refine (hb4.out _ (some ⟨b3, o3, none⟩) c3 (hR3.keep0 (Ch.refl No w3).drew)).mono ?_; rintro e w4 ⟨rfl, hch4'⟩))
    have hch4 := (Ch.refl No w3).drew.no_no hch4'
    go_wp2_with fail
    go_region_held3 (fun _ => True) (first | exact trivial) (first | (go_at_call 84; refine (hb5.out _ A4 (c3 - 4) ((hR4.keep0 hch4).keep0 (Ch.refl No w4).drew)).mono ?_; rintro e w5 ⟨rfl, hch5'⟩))
    have hch5 := (Ch.refl No w4).drew.no_no hch5'
    go_wp2_with (go_at_call 76; refine (errNew_calls _ _).mono ?_; rintro e w9 ⟨T, v, rfl, hch9⟩)
    go_ret2
    exact ⟨_, T, v, rfl, ((((hch1.then_no hch2).trans hch3 (fun _ h => h) (fun _ h => .inl h)).then_no hch4).then_no hch5).then_no hch9⟩
  have hd1 : decide (65536 < n) = false := decide_eq_false hc1
  by_cases hc2 : s < 4
  · have hcc : (¬ (LL - 4 < s) ∧ ¬ (65536 < n) ∧ ¬ (s < 4) ∧ ¬ (s - 4 < n)) = False := eq_false (fun hq => by omega)
    simp only [hcc, if_false]
    clear hcc
    have hd2 : decide (s < 4) = true := decide_eq_true hc2
    clear hc0 hc1 hc2
    go_enter Tryd.func80, Tryd.ntmps80
    go_wp2_with fail
    refine hr.out.mono ?_
    rintro e w1 ⟨rfl, h1, hch1⟩
    go_wp2_with fail
    refine (hln.out w1 h1).mono ?_
    rintro e w2 ⟨rfl, hch2⟩
    go_wp2_with fail
    refine (hnx.out w2 (h1.keep0 hch2)).mono ?_
    rintro e w3 ⟨A3, c3, rfl, hR3, hc3, h3, hch3, _⟩
    obtain ⟨A4, k2, k3, hq⟩ := Cut.ahead_lh2 26 5 Tryd.underlying26 size_u8' A3 8 c3 4 8 4 8 rfl rfl .i64 .i64 (by omega) hc3
    obtain ⟨k4, k5⟩ := Cut.ahead_h 26 5 Tryd.underlying26 size_u8' A3 8 c3 4 4 rfl .i64 (by omega)
    have hR4 := hcut.out w3 A3 c3 hc3 hR3 A4 hq
    obtain ⟨b3, o3, rfl, _⟩ : ∃ b o, A3 = some ⟨b, o, none⟩ ∧ True := by
      obtain ⟨b, o, h9, _⟩ := hR3 (by rw [HE8.out]; omega)
      exact ⟨b, o, h9, trivial⟩
    obtain ⟨q7⟩ : Nonempty (w3.cell? ⟨b3, o3 + 7, none⟩ = some (.int .u8 (((l.drop (i + 1)).take 8)[7]'(by rw [HE8.out]; omega)))) := by
      obtain ⟨b', o', h9, h8⟩ := hR3.at_ 7 (by rw [HE8.out]; omega)
      injection h9 with h9
      injection h9 with e1 e2
      subst e1; subst e2
      exact ⟨h8⟩
    generalize ((l.drop (i + 1)).take 8)[7]'(by rw [HE8.out]; omega) = x7 at q7
    go_wp2_with fail
    go_region_held3 (fun _ => True) (first | exact trivial) (first | (go_at_call 84; refine (hb4.out _ (some ⟨b3, o3, none⟩) c3 (hR3.keep0 (Ch.refl No w3).drew)).mono ?_; rintro e w4 ⟨rfl, hch4'⟩))
    have hch4 := (Ch.refl No w3).drew.no_no hch4'
    go_wp2_with fail
    go_region_held3 (fun _ => True) (first | exact trivial) (first | (go_at_call 84; refine (hb5.out _ A4 (c3 - 4) ((hR4.keep0 hch4).keep0 (Ch.refl No w4).drew)).mono ?_; rintro e w5 ⟨rfl, hch5'⟩))
    have hch5 := (Ch.refl No w4).drew.no_no hch5'
    go_wp2_with (go_at_call 76; refine (errNew_calls _ _).mono ?_; rintro e w9 ⟨T, v, rfl, hch9⟩)
    go_ret2
    exact ⟨_, T, v, rfl, ((((hch1.then_no hch2).trans hch3 (fun _ h => h) (fun _ h => .inl h)).then_no hch4).then_no hch5).then_no hch9⟩
  have hd2 : decide (s < 4) = false := decide_eq_false hc2
  by_cases hc3 : s - 4 < n
  · have hcc : (¬ (LL - 4 < s) ∧ ¬ (65536 < n) ∧ ¬ (s < 4) ∧ ¬ (s - 4 < n)) = False := eq_false (fun hq => by omega)
    simp only [hcc, if_false]
    clear hcc
    have hd3 : decide (s - 4 < n) = true := decide_eq_true hc3
    clear hc0 hc1 hc2 hc3
    go_enter Tryd.func80, Tryd.ntmps80
    go_wp2_with fail
    refine hr.out.mono ?_
    rintro e w1 ⟨rfl, h1, hch1⟩
    go_wp2_with fail
    refine (hln.out w1 h1).mono ?_
    rintro e w2 ⟨rfl, hch2⟩
    go_wp2_with fail
    refine (hnx.out w2 (h1.keep0 hch2)).mono ?_
    rintro e w3 ⟨A3, c3, rfl, hR3, hc3, h3, hch3, _⟩
    obtain ⟨A4, k2, k3, hq⟩ := Cut.ahead_lh2 26 5 Tryd.underlying26 size_u8' A3 8 c3 4 8 4 8 rfl rfl .i64 .i64 (by omega) hc3
    obtain ⟨k4, k5⟩ := Cut.ahead_h 26 5 Tryd.underlying26 size_u8' A3 8 c3 4 4 rfl .i64 (by omega)
    have hR4 := hcut.out w3 A3 c3 hc3 hR3 A4 hq
    obtain ⟨b3, o3, rfl, _⟩ : ∃ b o, A3 = some ⟨b, o, none⟩ ∧ True := by
      obtain ⟨b, o, h9, _⟩ := hR3 (by rw [HE8.out]; omega)
      exact ⟨b, o, h9, trivial⟩
    obtain ⟨q7⟩ : Nonempty (w3.cell? ⟨b3, o3 + 7, none⟩ = some (.int .u8 (((l.drop (i + 1)).take 8)[7]'(by rw [HE8.out]; omega)))) := by
      obtain ⟨b', o', h9, h8⟩ := hR3.at_ 7 (by rw [HE8.out]; omega)
      injection h9 with h9
      injection h9 with e1 e2
      subst e1; subst e2
      exact ⟨h8⟩
    generalize ((l.drop (i + 1)).take 8)[7]'(by rw [HE8.out]; omega) = x7 at q7
    go_wp2_with fail
    go_region_held3 (fun _ => True) (first | exact trivial) (first | (go_at_call 84; refine (hb4.out _ (some ⟨b3, o3, none⟩) c3 (hR3.keep0 (Ch.refl No w3).drew)).mono ?_; rintro e w4 ⟨rfl, hch4'⟩))
    have hch4 := (Ch.refl No w3).drew.no_no hch4'
    go_wp2_with fail
    go_region_held3 (fun _ => True) (first | exact trivial) (first | (go_at_call 84; refine (hb5.out _ A4 (c3 - 4) ((hR4.keep0 hch4).keep0 (Ch.refl No w4).drew)).mono ?_; rintro e w5 ⟨rfl, hch5'⟩))
    have hch5 := (Ch.refl No w4).drew.no_no hch5'
    go_wp2_with (go_at_call 76; refine (errNew_calls _ _).mono ?_; rintro e w9 ⟨T, v, rfl, hch9⟩)
    go_ret2
    exact ⟨_, T, v, rfl, ((((hch1.then_no hch2).trans hch3 (fun _ h => h) (fun _ h => .inl h)).then_no hch4).then_no hch5).then_no hch9⟩
  have hd3 : decide (s - 4 < n) = false := decide_eq_false hc3
  have hcc : (¬ (LL - 4 < s) ∧ ¬ (65536 < n) ∧ ¬ (s < 4) ∧ ¬ (s - 4 < n)) = True := eq_true ⟨hc0, hc1, hc2, hc3⟩
  simp only [hcc, if_true]
  clear hcc hc0 hc1 hc2 hc3
  go_enter Tryd.func80, Tryd.ntmps80
  go_wp2_with fail
  refine hr.out.mono ?_
  rintro e w1 ⟨rfl, h1, hch1⟩
  go_wp2_with fail
  refine (hln.out w1 h1).mono ?_
  rintro e w2 ⟨rfl, hch2⟩
  go_wp2_with fail
  refine (hnx.out w2 (h1.keep0 hch2)).mono ?_
  rintro e w3 ⟨A3, c3, rfl, hR3, hc3, h3, hch3, _⟩
  obtain ⟨A4, k2, k3, hq⟩ := Cut.ahead_lh2 26 5 Tryd.underlying26 size_u8' A3 8 c3 4 8 4 8 rfl rfl .i64 .i64 (by omega) hc3
  obtain ⟨k4, k5⟩ := Cut.ahead_h 26 5 Tryd.underlying26 size_u8' A3 8 c3 4 4 rfl .i64 (by omega)
  have hR4 := hcut.out w3 A3 c3 hc3 hR3 A4 hq
  obtain ⟨b3, o3, rfl, _⟩ : ∃ b o, A3 = some ⟨b, o, none⟩ ∧ True := by
    obtain ⟨b, o, h9, _⟩ := hR3 (by rw [HE8.out]; omega)
    exact ⟨b, o, h9, trivial⟩
  obtain ⟨q7⟩ : Nonempty (w3.cell? ⟨b3, o3 + 7, none⟩ = some (.int .u8 (((l.drop (i + 1)).take 8)[7]'(by rw [HE8.out]; omega)))) := by
    obtain ⟨b', o', h9, h8⟩ := hR3.at_ 7 (by rw [HE8.out]; omega)
    injection h9 with h9
    injection h9 with e1 e2
    subst e1; subst e2
    exact ⟨h8⟩
  generalize ((l.drop (i + 1)).take 8)[7]'(by rw [HE8.out]; omega) = x7 at q7
  go_wp2_with fail
  go_region_held3 (fun _ => True) (first | exact trivial) (first | (go_at_call 84; refine (hb4.out _ (some ⟨b3, o3, none⟩) c3 (hR3.keep0 (Ch.refl No w3).drew)).mono ?_; rintro e w4 ⟨rfl, hch4'⟩))
  have hch4 := (Ch.refl No w3).drew.no_no hch4'
  go_wp2_with fail
  go_region_held3 (fun _ => True) (first | exact trivial) (first | (go_at_call 84; refine (hb5.out _ A4 (c3 - 4) ((hR4.keep0 hch4).keep0 (Ch.refl No w4).drew)).mono ?_; rintro e w5 ⟨rfl, hch5'⟩))
  have hch5 := (Ch.refl No w4).drew.no_no hch5'
  go_wp2_with fail
  go_ret2
  exact ⟨rfl, (h3.keep0 hch4).keep0 hch5, (((hch1.then_no hch2).trans hch3 (fun _ h => h) (fun _ h => .inl h)).then_no hch4).then_no hch5⟩

end Go.Proofs.YtbdgkikipekmlaaDoor

namespace Go.Proofs.YtbdgkikipekmlaaDoor
set_option linter.unusedVariables false
set_option linter.unusedSimpArgs false
open Go.RowKit

/-- Bytes are refused. -/
def BnNo (p : Nat) (w : World) (e : Ending) (w' : World) : Prop := ∃ (T : TypeId) (v : Value), e = .returned (.tuple #[.slice none 0 0, .iface T v]) ∧ Ch (fun b => b = p) w w'
/-- Bytes have been read, into new memory. -/
def BnYes (p : Nat) (A : Option Addr) (c : Nat) (l : List Int) (j : Nat) (x : List Int) (w : World) (e : Ending) (w' : World) : Prop := ∃ A' c', e = .returned (.tuple #[.slice A' x.length c', .nilIface]) ∧ Ow 5 u8 w' (.slice A' x.length c') x ∧ Fr w (.slice A' x.length c') ∧ RbS p A c l j w' ∧ Ch (fun b => b = p) w w'
set_option maxRecDepth 100000 in
set_option maxHeartbeats 2000000 in
theorem rbin_end {p : Nat} {A : Option Addr} {c : Nat} {l : List Int} {i : Nat} {w : World} (h : RbS p A c l i w) (hi : l.length ≤ i) (hE : Eof w) :
    Calls Tryd.prog 77 #[.pointer (some ⟨p, 0, none⟩)] w (BnNo p w) := by
  have hr := hid (rtype_no h hi hE)
  clear h hi
  go_enter Tryd.func77, Tryd.ntmps77
  go_wp2_with fail
  refine hr.out.mono ?_
  rintro e w1 ⟨T, v, rfl, hch1⟩
  go_wp2_with fail
  go_ret2
  exact ⟨T, v, rfl, Ch.of_no hch1⟩
set_option maxRecDepth 100000 in
set_option maxHeartbeats 2000000 in
theorem rbin_other {p : Nat} {A : Option Addr} {c : Nat} {l : List Int} {i : Nat} {w : World} (h : RbS p A c l i w) (hi : i < l.length) (h0 : l[i] ≠ 160 ∧ l[i] ≠ 176) :
    Calls Tryd.prog 77 #[.pointer (some ⟨p, 0, none⟩)] w (BnNo p w) := by
  have hr := hid (rtype_ok h hi)
  generalize l[i] = x at hr h0
  have e160 : (x == 160) = false := beq_eq_false_iff_ne.2 (by omega)
  have g160 : decide (x = 160) = false := decide_eq_false (by omega)
  have e176 : (x == 176) = false := beq_eq_false_iff_ne.2 (by omega)
  have g176 : decide (x = 176) = false := decide_eq_false (by omega)
  clear h hi h0
  go_enter Tryd.func77, Tryd.ntmps77
  go_wp2_with fail
  refine hr.out.mono ?_
  rintro e w1 ⟨rfl, h1, hch1⟩
  go_wp2_with (go_at_call 76; refine (errNew_calls _ _).mono ?_; rintro e w9 ⟨T, v, rfl, hch9⟩)
  go_ret2
  exact ⟨T, v, rfl, hch1.then_no hch9⟩
set_option maxRecDepth 100000 in
set_option maxHeartbeats 2000000 in
theorem rbin_160_cut {p : Nat} {A : Option Addr} {c : Nat} {l : List Int} {i : Nat} {w : World} (h : RbS p A c l i w) (hi : i + 1 = l.length) (h0 : l[i] = 160) (hE : Eof w) (hpE : 4 ≠ p) :
    Calls Tryd.prog 77 #[.pointer (some ⟨p, 0, none⟩)] w (BnNo p w) := by
  have hr := hid (rtype_ok h (by omega))
  rw [h0] at hr
  have hu := hid (fun W (hW : RbS p A c l (i + 1) W) (hEW : Eof W) => rbyte_no hW (by omega) hEW)
  have HE : Hid (∀ W, Ch (fun b => b = p) w W → Eof W) := hid (fun W hW => by
    obtain ⟨T, v, hv⟩ := hE
    exact ⟨T, v, hW.cell hv hpE⟩)
  clear h h0 hi hE
  go_enter Tryd.func77, Tryd.ntmps77
  go_wp2_with fail
  refine hr.out.mono ?_
  rintro e w1 ⟨rfl, h1, hch1⟩
  go_wp2_with fail
  refine (hu.out w1 h1 (HE.out w1 hch1)).mono ?_
  rintro e w2 ⟨T, v, rfl, hch2⟩
  go_wp2_with fail
  go_ret2
  exact ⟨T, v, rfl, hch1.then_no hch2⟩
set_option maxRecDepth 100000 in
set_option maxHeartbeats 2000000 in
theorem rbin_176_cut {p : Nat} {A : Option Addr} {c : Nat} {l : List Int} {i : Nat} {w : World} (h : RbS p A c l i w) (hi : i < l.length) (hs : l.length < i + 5) (h0 : l[i] = 176) :
    Calls Tryd.prog 77 #[.pointer (some ⟨p, 0, none⟩)] w (BnNo p w) := by
  have hr := hid (rtype_ok h hi)
  rw [h0] at hr
  have hnx := hid (fun W (hW : RbS p A c l (i + 1) W) => next_no hW 4 (by omega) (by omega) (by omega))
  clear h hi hs h0
  go_enter Tryd.func77, Tryd.ntmps77
  go_wp2_with fail
  refine hr.out.mono ?_
  rintro e w1 ⟨rfl, h1, hch1⟩
  go_wp2_with fail
  refine (hnx.out w1 h1).mono ?_
  rintro e w3 ⟨vb, rfl, hch3⟩
  go_wp2_with (go_at_call 76; refine (errNew_calls _ _).mono ?_; rintro e w9 ⟨T, v, rfl, hch9⟩)
  go_ret2
  exact ⟨T, v, rfl, (hch1.trans hch3 (fun _ h => h) (fun _ h => .inl h)).then_no hch9⟩
set_option maxRecDepth 100000 in
set_option maxHeartbeats 2000000 in
theorem rbin_160_no {p : Nat} {A : Option Addr} {c : Nat} {l : List Int} {i : Nat} {w : World} (h : RbS p A c l i w) (hi : i + 2 ≤ l.length) (h0 : l[i]'(by omega) = 160) (hby : Byt l) (n : Nat) (hn : beN ((l.drop (i + 1)).take 1) = n) (hs : l.length < i + 2 + n) :
    Calls Tryd.prog 77 #[.pointer (some ⟨p, 0, none⟩)] w (BnNo p w) := by
  have hr := hid (rtype_ok h (by omega))
  rw [h0] at hr
  have hlb := h.lb
  have hn1 := beN_lt4 (l := (l.drop (i + 1)).take 1) (by rw [List.length_take]; omega) ((hby.drop (i + 1)).take 1)
  rw [hn] at hn1
  have hu := hid (fun W (hW : RbS p A c l (i + 1) W) => rbyte_ok hW (by omega))
  rw [take_one (show i + 1 < l.length by omega), beN_one] at hn
  rw [hn] at hu
  have hnx := hid (fun W (hW : RbS p A c l (i + 2) W) => next_no hW n (by omega) (by omega) (by omega))
  obtain ⟨q, hq⟩ : ∃ q : Int, q = (n : Int) := ⟨_, rfl⟩
  have hwz : IntKind.i64.wrap (n : Int) = n := by simp [IntKind.wrap, IntKind.bits, IntKind.signed]; omega
  have hz0 : ((n : Int) == 0) = decide (n = 0) := by by_cases hh : n = 0 <;> simp [hh]
  have HLB : Hid (n ≤ 4294967296 ∧ l.length ≤ 1099511627776) := hid (by omega)
  by_cases hnz : n = 0
  · exfalso; omega
  have hz2 : ((n : Int) == 0) = false := beq_eq_false_iff_ne.2 (by omega)
  have hz1 : decide ((n : Int) = 0) = false := decide_eq_false (by omega)
  clear hz0 hnz
  clear h h0 hi hby hlb hn hn1 hs hq
  go_enter Tryd.func77, Tryd.ntmps77
  go_wp2_with fail
  refine hr.out.mono ?_
  rintro e w1 ⟨rfl, h1, hch1⟩
  go_wp2_with fail
  refine (hu.out w1 h1).mono ?_
  rintro e w2 ⟨rfl, h2, hch2⟩
  have C2 : Ch (fun b => b = p) w w2 := hch1.trans hch2 (fun _ h => h) (fun _ h => .inl h)
  go_wp2_with fail
  refine (hnx.out w2 h2).mono ?_
  rintro e w3 ⟨vb, rfl, hch3⟩
  go_wp2_with (go_at_call 76; refine (errNew_calls _ _).mono ?_; rintro e w9 ⟨T, v, rfl, hch9⟩)
  go_ret2
  exact ⟨T, v, rfl, (C2.trans hch3 (fun _ h => h) (fun _ h => .inl h)).then_no hch9⟩
set_option maxRecDepth 100000 in
set_option maxHeartbeats 2000000 in
theorem rbin_160_nil {p : Nat} {A : Option Addr} {c : Nat} {l : List Int} {i : Nat} {w : World} (h : RbS p A c l i w) (hi : i + 2 ≤ l.length) (h0 : l[i]'(by omega) = 160) (hby : Byt l) (n : Nat) (hn : beN ((l.drop (i + 1)).take 1) = n) (hz : n = 0) :
    Calls Tryd.prog 77 #[.pointer (some ⟨p, 0, none⟩)] w (BnYes p A c l (i + 2) [] w) := by
  have hr := hid (rtype_ok h (by omega))
  rw [h0] at hr
  have hlb := h.lb
  subst hz
  have hn1 := beN_lt4 (l := (l.drop (i + 1)).take 1) (by rw [List.length_take]; omega) ((hby.drop (i + 1)).take 1)
  rw [hn] at hn1
  have hu := hid (fun W (hW : RbS p A c l (i + 1) W) => rbyte_ok hW (by omega))
  rw [take_one (show i + 1 < l.length by omega), beN_one] at hn
  rw [hn] at hu
  have HLB := hid hlb
  clear h h0 hi hby hlb hn hn1
  go_enter Tryd.func77, Tryd.ntmps77
  go_wp2_with fail
  refine hr.out.mono ?_
  rintro e w1 ⟨rfl, h1, hch1⟩
  go_wp2_with fail
  refine (hu.out w1 h1).mono ?_
  rintro e w2 ⟨rfl, h2, hch2⟩
  have C2 : Ch (fun b => b = p) w w2 := hch1.trans hch2 (fun _ h => h) (fun _ h => .inl h)
  go_wp2_with ((with_reducible refine gate (.makeSlice 26 _ _) rfl ?_); refine wp_make rfl 26 5 _ _ rfl (.int .u8 0) 1 Tryd.underlying26 info_u8 rfl _ _ 0 0 0 rfl rfl rfl rfl (by omega) (by omega) ?_; intro w3 hrow3 hch3)
  go_ret2
  exact ⟨_, _, rfl, hrow3.ow (l := []) rfl (by simp) (by simp [maxLen]), Fr.mk' C2.size, h2.keep0 hch3, C2.then_no hch3⟩
set_option maxRecDepth 100000 in
set_option maxHeartbeats 2000000 in
theorem rbin_160_ok {p : Nat} {A : Option Addr} {c : Nat} {l : List Int} {i : Nat} {w : World} (h : RbS p A c l i w) (hi : i + 2 ≤ l.length) (h0 : l[i]'(by omega) = 160) (hby : Byt l) (n : Nat) (hn : beN ((l.drop (i + 1)).take 1) = n) (hz : 0 < n) (hs : i + 2 + n ≤ l.length) :
    Calls Tryd.prog 77 #[.pointer (some ⟨p, 0, none⟩)] w (BnYes p A c l (i + 2 + n) ((l.drop (i + 2)).take n) w) := by
  have hr := hid (rtype_ok h (by omega))
  rw [h0] at hr
  have hlb := h.lb
  have hn1 := beN_lt4 (l := (l.drop (i + 1)).take 1) (by rw [List.length_take]; omega) ((hby.drop (i + 1)).take 1)
  rw [hn] at hn1
  have hu := hid (fun W (hW : RbS p A c l (i + 1) W) => rbyte_ok hW (by omega))
  rw [take_one (show i + 1 < l.length by omega), beN_one] at hn
  rw [hn] at hu
  have hnx := hid (fun W (hW : RbS p A c l (i + 2) W) => next_ok hW n (by omega) (by omega))
  obtain ⟨X, hX⟩ : ∃ X, (l.drop (i + 2)).take n = X := ⟨_, rfl⟩
  have hxl : X.length = n := by rw [← hX, List.length_take, List.length_drop]; omega
  have hnx' := hid (fun W (hW : RbS p A c l (i + 2) W) => (show ∀ e w', NxT p A c l (i + 2) n W e w' → ∃ A' c', e = .returned (.tuple #[.slice A' n c', .bool true]) ∧ Rd u8 w' A' X ∧ n ≤ c' ∧ RbS p A c l (i + 2 + n) w' ∧ Ch (fun b => b = p) W w' from fun e w' ⟨A', c', h1, h2, h3, h4, h5, _⟩ => ⟨A', c', h1, by rw [← hX]; exact h2, h3, h4, h5⟩))
  rw [hX]
  clear hX
  obtain ⟨q, hq⟩ : ∃ q : Int, q = (n : Int) := ⟨_, rfl⟩
  have hwz : IntKind.i64.wrap (n : Int) = n := by simp [IntKind.wrap, IntKind.bits, IntKind.signed]; omega
  have hz0 : ((n : Int) == 0) = false := beq_eq_false_iff_ne.2 (by omega)
  have hz1 : decide ((n : Int) = 0) = false := decide_eq_false (by omega)
  have HLB : Hid (n ≤ 4294967296 ∧ l.length ≤ 1099511627776) := hid (by omega)
  clear h h0 hi hby hlb hn hn1 hs hq
  go_enter Tryd.func77, Tryd.ntmps77
  go_wp2_with fail
  refine hr.out.mono ?_
  rintro e w1 ⟨rfl, h1, hch1⟩
  go_wp2_with fail
  refine (hu.out w1 h1).mono ?_
  rintro e w2 ⟨rfl, h2, hch2⟩
  have C2 : Ch (fun b => b = p) w w2 := hch1.trans hch2 (fun _ h => h) (fun _ h => .inl h)
  go_wp2_with fail
  refine (hnx.out w2 h2).mono ?_
  rintro e w3 hnt
  obtain ⟨A4, c4, rfl, hR4, hc4, h4, hch4⟩ := hnx'.out w2 h2 e w3 hnt
  have C3 := C2.trans hch4 (fun _ h => h) (fun _ h => .inl h)
  have hl9 : n ≤ 140737488355328 := by have := HLB.out; omega
  go_wp2_with ((with_reducible refine gate (.call { callee := .builtin .append, args := #[_, .tmp _], argTypes := #[26, 26] }) rfl ?_); refine wp_append rfl _ _ 26 5 (.int .u8 0) 1 rfl Tryd.underlying26 info_u8 rfl (by decide) Go.Proofs.YtbdgkikipekmlaaDoor.u8 (fun _ => rfl) (.slice none 0 0) [] X _ _ _ rfl rfl hxl (Ow.nil _ _ _) hR4 (by simpa using hl9) ?_; intro v5 w5 ho5 hch5 hat5)
  rw [List.nil_append] at ho5
  obtain ⟨A5, c5, rfl, _, _⟩ := ho5.slice
  rw [hxl]
  go_wp2_with fail
  go_ret2
  have hno5 : Ch No w3 w5 := ⟨hch5.os, hch5.tape, hch5.output, hch5.size, fun k hk _ => hch5.block k hk (fun h => Blk_nil h)⟩
  refine ⟨A5, c5, by rw [hxl]; rfl, by rw [hxl] at ho5 ⊢; exact ho5, fun b hb => (hat5 b hb).elim (fun h => (Blk_nil h).elim) (fun h => Nat.le_trans C3.size h), h4.keep0 hno5, C3.then_no hno5⟩
set_option maxRecDepth 100000 in
set_option maxHeartbeats 2000000 in
theorem rbin_176_no {p : Nat} {A : Option Addr} {c : Nat} {l : List Int} {i : Nat} {w : World} (h : RbS p A c l i w) (hi : i + 5 ≤ l.length) (h0 : l[i]'(by omega) = 176) (hby : Byt l) (n : Nat) (hn : beN ((l.drop (i + 1)).take 4) = n) (hs : l.length < i + 5 + n) :
    Calls Tryd.prog 77 #[.pointer (some ⟨p, 0, none⟩)] w (BnNo p w) := by
  have hr := hid (rtype_ok h (by omega))
  rw [h0] at hr
  have hlb := h.lb
  have hn1 := beN_lt4 (l := (l.drop (i + 1)).take 4) (by rw [List.length_take]; omega) ((hby.drop (i + 1)).take 4)
  rw [hn] at hn1
  have e4 : ((l.drop (i + 1)).take 4).length = 4 := by rw [List.length_take, List.length_drop]; omega
  have hnx4 := hid (fun W (hW : RbS p A c l (i + 1) W) => next_ok hW 4 (by omega) (by omega))
  have hb4 := hid (fun (W : World) (A' : Option Addr) (c' : Nat) (hR : Rd u8 W A' ((l.drop (i + 1)).take 4)) => be32_calls A' c' ((l.drop (i + 1)).take 4) W hR ((hby.drop (i + 1)).take 4) (by omega))
  rw [List.take_take, show min 4 4 = 4 from rfl, e4, hn] at hb4
  have hnx := hid (fun W (hW : RbS p A c l (i + 5) W) => next_no hW n (by omega) (by omega) (by omega))
  obtain ⟨q, hq⟩ : ∃ q : Int, q = (n : Int) := ⟨_, rfl⟩
  have hwz : IntKind.i64.wrap (n : Int) = n := by simp [IntKind.wrap, IntKind.bits, IntKind.signed]; omega
  have hz0 : ((n : Int) == 0) = decide (n = 0) := by by_cases hh : n = 0 <;> simp [hh]
  have HLB : Hid (n ≤ 4294967296 ∧ l.length ≤ 1099511627776) := hid (by omega)
  by_cases hnz : n = 0
  · exfalso; omega
  have hz2 : ((n : Int) == 0) = false := beq_eq_false_iff_ne.2 (by omega)
  have hz1 : decide ((n : Int) = 0) = false := decide_eq_false (by omega)
  clear hz0 hnz
  clear h h0 hi hby hlb hn hn1 hs hq
  go_enter Tryd.func77, Tryd.ntmps77
  go_wp2_with fail
  refine hr.out.mono ?_
  rintro e w1 ⟨rfl, h1, hch1⟩
  go_wp2_with fail
  refine (hnx4.out w1 h1).mono ?_
  rintro e w1' ⟨A3, c3, rfl, hR3, hc3, h2', hch2', _⟩
  go_wp2_with fail
  refine (hb4.out w1' A3 c3 hR3).mono ?_
  rintro e w2 ⟨rfl, hch2⟩
  have h2 := h2'.keep0 hch2
  have C2 : Ch (fun b => b = p) w w2 := (hch1.trans hch2' (fun _ h => h) (fun _ h => .inl h)).then_no hch2
  go_wp2_with fail
  refine (hnx.out w2 h2).mono ?_
  rintro e w3 ⟨vb, rfl, hch3⟩
  go_wp2_with (go_at_call 76; refine (errNew_calls _ _).mono ?_; rintro e w9 ⟨T, v, rfl, hch9⟩)
  go_ret2
  exact ⟨T, v, rfl, (C2.trans hch3 (fun _ h => h) (fun _ h => .inl h)).then_no hch9⟩
set_option maxRecDepth 100000 in
set_option maxHeartbeats 2000000 in
theorem rbin_176_nil {p : Nat} {A : Option Addr} {c : Nat} {l : List Int} {i : Nat} {w : World} (h : RbS p A c l i w) (hi : i + 5 ≤ l.length) (h0 : l[i]'(by omega) = 176) (hby : Byt l) (n : Nat) (hn : beN ((l.drop (i + 1)).take 4) = n) (hz : n = 0) :
    Calls Tryd.prog 77 #[.pointer (some ⟨p, 0, none⟩)] w (BnYes p A c l (i + 5) [] w) := by
  have hr := hid (rtype_ok h (by omega))
  rw [h0] at hr
  have hlb := h.lb
  subst hz
  have hn1 := beN_lt4 (l := (l.drop (i + 1)).take 4) (by rw [List.length_take]; omega) ((hby.drop (i + 1)).take 4)
  rw [hn] at hn1
  have e4 : ((l.drop (i + 1)).take 4).length = 4 := by rw [List.length_take, List.length_drop]; omega
  have hnx4 := hid (fun W (hW : RbS p A c l (i + 1) W) => next_ok hW 4 (by omega) (by omega))
  have hb4 := hid (fun (W : World) (A' : Option Addr) (c' : Nat) (hR : Rd u8 W A' ((l.drop (i + 1)).take 4)) => be32_calls A' c' ((l.drop (i + 1)).take 4) W hR ((hby.drop (i + 1)).take 4) (by omega))
  rw [List.take_take, show min 4 4 = 4 from rfl, e4, hn] at hb4
  have HLB := hid hlb
  clear h h0 hi hby hlb hn hn1
  go_enter Tryd.func77, Tryd.ntmps77
  go_wp2_with fail
  refine hr.out.mono ?_
  rintro e w1 ⟨rfl, h1, hch1⟩
  go_wp2_with fail
  refine (hnx4.out w1 h1).mono ?_
  rintro e w1' ⟨A3, c3, rfl, hR3, hc3, h2', hch2', _⟩
  go_wp2_with fail
  refine (hb4.out w1' A3 c3 hR3).mono ?_
  rintro e w2 ⟨rfl, hch2⟩
  have h2 := h2'.keep0 hch2
  have C2 : Ch (fun b => b = p) w w2 := (hch1.trans hch2' (fun _ h => h) (fun _ h => .inl h)).then_no hch2
  go_wp2_with ((with_reducible refine gate (.makeSlice 26 _ _) rfl ?_); refine wp_make rfl 26 5 _ _ rfl (.int .u8 0) 1 Tryd.underlying26 info_u8 rfl _ _ 0 0 0 rfl rfl rfl rfl (by omega) (by omega) ?_; intro w3 hrow3 hch3)
  go_ret2
  exact ⟨_, _, rfl, hrow3.ow (l := []) rfl (by simp) (by simp [maxLen]), Fr.mk' C2.size, h2.keep0 hch3, C2.then_no hch3⟩
set_option maxRecDepth 100000 in
set_option maxHeartbeats 2000000 in
theorem rbin_176_ok {p : Nat} {A : Option Addr} {c : Nat} {l : List Int} {i : Nat} {w : World} (h : RbS p A c l i w) (hi : i + 5 ≤ l.length) (h0 : l[i]'(by omega) = 176) (hby : Byt l) (n : Nat) (hn : beN ((l.drop (i + 1)).take 4) = n) (hz : 0 < n) (hs : i + 5 + n ≤ l.length) :
    Calls Tryd.prog 77 #[.pointer (some ⟨p, 0, none⟩)] w (BnYes p A c l (i + 5 + n) ((l.drop (i + 5)).take n) w) := by
  have hr := hid (rtype_ok h (by omega))
  rw [h0] at hr
  have hlb := h.lb
  have hn1 := beN_lt4 (l := (l.drop (i + 1)).take 4) (by rw [List.length_take]; omega) ((hby.drop (i + 1)).take 4)
  rw [hn] at hn1
  have e4 : ((l.drop (i + 1)).take 4).length = 4 := by rw [List.length_take, List.length_drop]; omega
  have hnx4 := hid (fun W (hW : RbS p A c l (i + 1) W) => next_ok hW 4 (by omega) (by omega))
  have hb4 := hid (fun (W : World) (A' : Option Addr) (c' : Nat) (hR : Rd u8 W A' ((l.drop (i + 1)).take 4)) => be32_calls A' c' ((l.drop (i + 1)).take 4) W hR ((hby.drop (i + 1)).take 4) (by omega))
  rw [List.take_take, show min 4 4 = 4 from rfl, e4, hn] at hb4
  have hnx := hid (fun W (hW : RbS p A c l (i + 5) W) => next_ok hW n (by omega) (by omega))
  obtain ⟨X, hX⟩ : ∃ X, (l.drop (i + 5)).take n = X := ⟨_, rfl⟩
  have hxl : X.length = n := by rw [← hX, List.length_take, List.length_drop]; omega
  have hnx' := hid (fun W (hW : RbS p A c l (i + 5) W) => (show ∀ e w', NxT p A c l (i + 5) n W e w' → ∃ A' c', e = .returned (.tuple #[.slice A' n c', .bool true]) ∧ Rd u8 w' A' X ∧ n ≤ c' ∧ RbS p A c l (i + 5 + n) w' ∧ Ch (fun b => b = p) W w' from fun e w' ⟨A', c', h1, h2, h3, h4, h5, _⟩ => ⟨A', c', h1, by rw [← hX]; exact h2, h3, h4, h5⟩))
  rw [hX]
  clear hX
  obtain ⟨q, hq⟩ : ∃ q : Int, q = (n : Int) := ⟨_, rfl⟩
  have hwz : IntKind.i64.wrap (n : Int) = n := by simp [IntKind.wrap, IntKind.bits, IntKind.signed]; omega
  have hz0 : ((n : Int) == 0) = false := beq_eq_false_iff_ne.2 (by omega)
  have hz1 : decide ((n : Int) = 0) = false := decide_eq_false (by omega)
  have HLB : Hid (n ≤ 4294967296 ∧ l.length ≤ 1099511627776) := hid (by omega)
  clear h h0 hi hby hlb hn hn1 hs hq
  go_enter Tryd.func77, Tryd.ntmps77
  go_wp2_with fail
  refine hr.out.mono ?_
  rintro e w1 ⟨rfl, h1, hch1⟩
  go_wp2_with fail
  refine (hnx4.out w1 h1).mono ?_
  rintro e w1' ⟨A3, c3, rfl, hR3, hc3, h2', hch2', _⟩
  go_wp2_with fail
  refine (hb4.out w1' A3 c3 hR3).mono ?_
  rintro e w2 ⟨rfl, hch2⟩
  have h2 := h2'.keep0 hch2
  have C2 : Ch (fun b => b = p) w w2 := (hch1.trans hch2' (fun _ h => h) (fun _ h => .inl h)).then_no hch2
  go_wp2_with fail
  refine (hnx.out w2 h2).mono ?_
  rintro e w3 hnt
  obtain ⟨A4, c4, rfl, hR4, hc4, h4, hch4⟩ := hnx'.out w2 h2 e w3 hnt
  have C3 := C2.trans hch4 (fun _ h => h) (fun _ h => .inl h)
  have hl9 : n ≤ 140737488355328 := by have := HLB.out; omega
  go_wp2_with ((with_reducible refine gate (.call { callee := .builtin .append, args := #[_, .tmp _], argTypes := #[26, 26] }) rfl ?_); refine wp_append rfl _ _ 26 5 (.int .u8 0) 1 rfl Tryd.underlying26 info_u8 rfl (by decide) Go.Proofs.YtbdgkikipekmlaaDoor.u8 (fun _ => rfl) (.slice none 0 0) [] X _ _ _ rfl rfl hxl (Ow.nil _ _ _) hR4 (by simpa using hl9) ?_; intro v5 w5 ho5 hch5 hat5)
  rw [List.nil_append] at ho5
  obtain ⟨A5, c5, rfl, _, _⟩ := ho5.slice
  rw [hxl]
  go_wp2_with fail
  go_ret2
  have hno5 : Ch No w3 w5 := ⟨hch5.os, hch5.tape, hch5.output, hch5.size, fun k hk _ => hch5.block k hk (fun h => Blk_nil h)⟩
  refine ⟨A5, c5, by rw [hxl]; rfl, by rw [hxl] at ho5 ⊢; exact ho5, fun b hb => (hat5 b hb).elim (fun h => (Blk_nil h).elim) (fun h => Nat.le_trans C3.size h), h4.keep0 hno5, C3.then_no hno5⟩

end Go.Proofs.YtbdgkikipekmlaaDoor

namespace Go.Proofs.YtbdgkikipekmlaaDoor
set_option linter.unusedVariables false
set_option linter.unusedSimpArgs false
open Go.RowKit

/-- A value has been read, and what stands behind it. -/
def RvT (V : Value) (x : List Int) (w : World) (e : Ending) (w' : World) : Prop := ∃ A c, e = .returned (.tuple #[V, .slice A x.length c, .bool true]) ∧ Rd u8 w' A x ∧ x.length ≤ c ∧ Ch No w w'
theorem size_i64' : (Tryd.prog.info? 2).map (·.size) = some 1 := by kernel_rfl
theorem size_ms : (Tryd.prog.info? 89).map (·.size) = some 1 := by kernel_rfl
/-- What the reader does with the block of a number. -/
def MsT (q : Nat) (p : Nat) (w : World) (er : Value) (X : Int) (w' : World) : Prop := Row w' q 89 [.int .i64 X] ∧ Ch (fun b => b = p ∨ b = q) w w'
set_option maxRecDepth 100000 in
set_option maxHeartbeats 1000000 in
theorem milli_ok {p q : Nat} {A : Option Addr} {c : Nat} {l : List Int} {j : Nat} {z : Int} {w : World} (h : Calls Tryd.prog 71 #[.pointer (some ⟨p, 0, none⟩)] w (RuYes p A c l j z w)) (hq : Row w q 89 [.int .i64 0]) (hpq : q ≠ p) (hrq : 0 < l.length → ∀ ad, A = some ad → ad.block ≠ q) (h0 : 0 ≤ z) (h1 : z ≤ 1099511627776) :
    Calls Tryd.prog 46 #[.pointer (some ⟨q, 0, none⟩), .pointer (some ⟨p, 0, none⟩)] w fun e w' => e = .returned .nilIface ∧ Row w' q 89 [.int .i64 (z * 1000000)] ∧ RbS p A c l j w' ∧ Ch (fun b => b = p ∨ b = q) w w' := by
  have hw1 : IntKind.i64.wrap z = z := by simp [IntKind.wrap, IntKind.bits, IntKind.signed]; omega
  have hw2 : IntKind.i64.wrap (z * 1000000) = z * 1000000 := by simp [IntKind.wrap, IntKind.bits, IntKind.signed]; omega
  go_enter Tryd.func46, Tryd.ntmps46
  go_wp2_with fail
  refine h.mono ?_
  rintro e w1 ⟨rfl, hb1, hch1⟩
  have hq1 := hq.keep hch1 hpq
  have hb2 := fun (w2 : World) (hch2 : Ch (fun k => k = q) w1 w2) => (⟨hb1.rp.keep hch2 (fun h => hpq h.symm), (fun hp => hb1.rd.keep hch2 (fun ad had h => hrq hp ad had h) hp), hb1.le, hb1.lc, hb1.ap, hb1.lb⟩ : RbS p A c l j w2)
  go_wp2_with ((with_reducible refine gate (.store 89 _ _) rfl ?_); refine wp_store rfl rfl 89 _ _ rfl q 0 89 [.int .i64 0] (.int .i64 (z * 1000000)) rfl rfl [.int .i64 (z * 1000000)] rfl size_ms (by simp [Value.oneCell']) hq1 (by simp) ?_; intro w2 hrow2 hch2)
  go_ret
  exact ⟨rfl, by simpa using hrow2, hb2 w2 hch2, hch1.trans hch2 (fun _ h => .inl h) (fun _ h => .inl (.inr h))⟩
set_option maxRecDepth 100000 in
set_option maxHeartbeats 1000000 in
theorem milli_no {p q : Nat} {w : World} (h : Calls Tryd.prog 71 #[.pointer (some ⟨p, 0, none⟩)] w (RuNo p w)) (hq : Row w q 89 [.int .i64 0]) (hpq : q ≠ p) :
    Calls Tryd.prog 46 #[.pointer (some ⟨q, 0, none⟩), .pointer (some ⟨p, 0, none⟩)] w fun e w' => ∃ (T : TypeId) (v : Value) (X : Int), e = .returned (.iface T v) ∧ Row w' q 89 [.int .i64 X] ∧ Ch (fun b => b = p ∨ b = q) w w' := by
  go_enter Tryd.func46, Tryd.ntmps46
  go_wp2_with fail
  refine h.mono ?_
  rintro e w1 ⟨z, T, v, rfl, hz0, hz1, hch1⟩
  have hq1 := hq.keep hch1 hpq
  obtain ⟨y, hy⟩ : ∃ y, IntKind.i64.wrap z = y := ⟨_, rfl⟩
  obtain ⟨X, hX⟩ : ∃ X, IntKind.i64.wrap (y * 1000000) = X := ⟨_, rfl⟩
  go_wp2_with ((with_reducible refine gate (.store 89 _ _) rfl ?_); refine wp_store rfl rfl 89 _ _ rfl q 0 89 [.int .i64 0] (.int .i64 X) rfl rfl [.int .i64 X] rfl size_ms (by simp [Value.oneCell']) hq1 (by simp) ?_; intro w2 hrow2 hch2)
  go_ret
  exact ⟨T, v, X, rfl, by simpa using hrow2, hch1.trans hch2 (fun _ h => .inl h) (fun _ h => .inl (.inr h))⟩
set_option maxRecDepth 100000 in
set_option maxHeartbeats 1000000 in
theorem implMilli_ok (A0 : Option Addr) (c0 : Nat) (l : List Int) (w : World) (hr0 : Rd u8 w A0 l) (hl : l.length ≤ 1099511627776) (j : Nat) (z : Int) (h0 : 0 ≤ z) (h1 : z ≤ 1099511627776)
    (hrd : ∀ (p : Nat) (A : Option Addr) (c : Nat) (W : World), RbS p A c l 0 W → Calls Tryd.prog 71 #[.pointer (some ⟨p, 0, none⟩)] W (RuYes p A c l j z W)) :
    Calls Tryd.prog 16 #[.slice A0 l.length c0] w (RvT (.int .i64 (z * 1000000)) (l.drop j) w) := by
  have R0 : Row (((w.alloc (.cells #[.int .i64 0] 2)).alloc (.cells #[.slice none 0 0] 26)).alloc (.cells #[.bool false] 4)) w.heap.size 2 [.int .i64 0] := ((Row.alloc w [.int .i64 0] 2).keep0 ((Ch.refl No _).alloc _)).keep0 ((Ch.refl No _).alloc _)
  have R1 : Row (((w.alloc (.cells #[.int .i64 0] 2)).alloc (.cells #[.slice none 0 0] 26)).alloc (.cells #[.bool false] 4)) (w.heap.size + 1) 26 [.slice none 0 0] := by
    have h := (Row.alloc (w.alloc (.cells #[.int .i64 0] 2)) [.slice none 0 0] 26).keep0 ((Ch.refl No _).alloc (.cells #[.bool false] 4))
    rwa [World.size_alloc] at h
  have R2 : Row (((w.alloc (.cells #[.int .i64 0] 2)).alloc (.cells #[.slice none 0 0] 26)).alloc (.cells #[.bool false] 4)) (w.heap.size + 1 + 1) 4 [.bool false] := by
    have h := Row.alloc ((w.alloc (.cells #[.int .i64 0] 2)).alloc (.cells #[.slice none 0 0] 26)) [.bool false] 4
    rwa [World.size_alloc, World.size_alloc] at h
  have C3 : Ch No w (((w.alloc (.cells #[.int .i64 0] 2)).alloc (.cells #[.slice none 0 0] 26)).alloc (.cells #[.bool false] 4)) := (((Ch.refl No w).alloc _).alloc _).alloc _
  have s3 : (((w.alloc (.cells #[.int .i64 0] 2)).alloc (.cells #[.slice none 0 0] 26)).alloc (.cells #[.bool false] 4)).heap.size = w.heap.size + 1 + 1 + 1 := by simp
  have hcp := hid (copied_calls A0 c0 l _ (hr0.keep0 C3) (by omega))
  have HN := hid (fun (A : Option Addr) (c : Nat) (W : World) (h : Ow 5 u8 W (.slice A l.length c) l) => new_calls A c l W h hl)
  have HRD := hid hrd
  have HBH := hid (fun (p : Nat) (A : Option Addr) (c : Nat) (W : World) (h : RbS p A c l j W) => behind_int64_ok h (z * 1000000))
  generalize l.drop j = X at HBH ⊢
  clear hrd
  obtain ⟨N, hN⟩ : ∃ N, l.length = N := ⟨_, rfl⟩
  have HLN := hid hN
  rw [hN] at hcp ⊢
  clear hN hr0
  go_enter_defers Tryd.func16, Tryd.ntmps16
  go_wp2_with fail
  refine hcp.out.mono ?_
  rintro e w1 ⟨v1, rfl, ho1, hfr1, hch1⟩
  obtain ⟨A1, c1, rfl, _, _⟩ := ho1.slice
  have hnew := HN.out A1 c1 w1 ho1
  rw [HLN.out] at hnew ⊢
  have s1 := hch1.size
  rw [s3] at s1
  go_wp2_with fail
  refine hnew.mono ?_
  rintro e w2 ⟨p, A2, c2, rfl, hb2, hp2, hAe, hch2⟩
  have HAN : Hid (∀ ad, A2 = some ad → w.heap.size + 1 + 1 + 1 ≤ ad.block) := hid (fun ad had => by
    have h9 := hfr1 ad.block (by rw [← hAe.out, had]; rfl)
    rw [s3] at h9
    exact h9)
  clear hAe
  have K0 := (R0.keep0 hch1).keep0 hch2
  have K1 := (R1.keep0 hch1).keep0 hch2
  have K2 := (R2.keep0 hch1).keep0 hch2
  have C2 : Ch No w w2 := (C3.no_no hch1).no_no hch2
  have s2 := hch2.size
  have hap2 : 0 < l.length → ∀ ad, A2 = some ad → ad.block ≠ w2.heap.size := fun hp ad had h => by
    obtain ⟨b, o, e, hc⟩ := hb2.rd.at_ 0 hp
    rw [had] at e
    injection e with e
    subst e
    have h9 := World.block_lt_of_cell? _ _ hc
    simp only at h9 h
    omega
  have HAP2 := hid hap2
  have hpl := hb2.rp.lt
  have RM := Row.alloc w2 [.int .i64 0] 89
  have AL := (Ch.refl No w2).alloc (.cells #[.int .i64 0] 89)
  have HB2 := hid (hb2.keep0 AL)
  clear hap2 hb2
  go_wp2_with fail
  refine (milli_ok (HRD.out p A2 c2 _ HB2.out) RM (by omega) HAP2.out h0 h1).mono ?_
  rintro e w3 ⟨rfl, hrm, hb3, hch3⟩
  have m0 := hrm.cell 0 _ rfl
  have C3' : Ch No w w3 := (C2.no_no AL).trans hch3 (fun _ h => h) (fun b hb => .inr (by rcases hb with h | h <;> omega))
  go_wp2_with fail
  refine (HBH.out p A2 c2 w3 hb3).mono ?_
  rintro e w4 ⟨A4, c4, rfl, ho4, hf4, hch4⟩
  have C4 : Ch No w w4 := C3'.no_no hch4
  have s33 := hch3.size
  have sal := AL.size
  replace K0 := ((K0.keep0 AL).keep hch3 (fun h => by rcases h with h | h <;> omega)).keep0 hch4
  replace K1 := ((K1.keep0 AL).keep hch3 (fun h => by rcases h with h | h <;> omega)).keep0 hch4
  replace K2 := ((K2.keep0 AL).keep hch3 (fun h => by rcases h with h | h <;> omega)).keep0 hch4
  obtain ⟨q, hq⟩ : ∃ q, X.length = q := ⟨_, rfl⟩
  have HQ := hid hq
  have hle4 := ho4.le
  have hrd4 := ho4.rd
  have hap4 : ∀ ad, A4 = some ad → w.heap.size + 1 + 1 + 1 ≤ ad.block := fun ad h => by
    rcases ho4.form with ⟨h1, _⟩ | ⟨g, c', cur, h1, _, _, h2, _⟩
    · injection h1 with h1; rw [h] at h1; cases h1
    · injection h1 with h1 _ _
      rw [h] at h1
      injection h1 with h1
      subst h1; subst h
      have h9 := hf4 g (Blk_slice.2 rfl)
      show w.heap.size + 1 + 1 + 1 ≤ g
      omega
  have HAP := hid (And.intro hap4 (And.intro hle4 hrd4))
  rw [hq]
  clear hq ho4 hle4 hrd4 hap4 hf4
  go_wp2_with (first | ((with_reducible refine gate (.store 2 (.tmp 2) _) rfl ?_); refine wp_store rfl rfl 2 _ _ rfl (w.heap.size) 0 2 [.int .i64 0] (.int .i64 (z * 1000000)) rfl rfl [.int .i64 (z * 1000000)] rfl size_i64' (by simp [Value.oneCell']) (K0) (by simp) ?_; intro w7 hrow7 hch7) | ((with_reducible refine gate (.store 26 (.tmp 3) _) rfl ?_); refine wp_store rfl rfl 26 _ _ rfl (w.heap.size + 1) 0 26 [.slice none 0 0] (.slice A4 q c4) rfl rfl [.slice A4 q c4] rfl size_sl (by simp [Value.oneCell']) (K1.keep hch7 (by omega)) (by simp) ?_; intro w8 hrow8 hch8) | ((with_reducible refine gate (.store 4 (.tmp 4) _) rfl ?_); refine wp_store rfl rfl 4 _ _ rfl (w.heap.size + 1 + 1) 0 4 [.bool false] (.bool true) rfl rfl [.bool true] rfl size_bool (by simp [Value.oneCell']) ((K2.keep hch7 (by omega)).keep hch8 (by omega)) (by simp) ?_; intro w9 hrow9 hch9))
  refine leaves_cons (f := 45) (args := #[.pointer (some ⟨w.heap.size, 0, none⟩), .pointer (some ⟨w.heap.size + 1, 0, none⟩), .pointer (some ⟨w.heap.size + 1 + 1, 0, none⟩)]) (by simp) (by simp [go_sem]) ?_
  refine (noValue_int64_idle _ _ _ _).mono ?_
  rintro e u' w'' ⟨rfl, rfl, rfl⟩
  have M0 := ((hrow7.keep hch8 (by omega)).keep hch9 (by omega)).cell 0 _ rfl
  have M1 := (hrow8.keep hch9 (by omega)).cell 0 _ rfl
  have M2 := hrow9.cell 0 _ rfl
  have HC : Ch No w w'' := ((C4.freshg hch7 (Nat.le_refl _)).freshg hch8 (by omega)).freshg hch9 (by omega)
  refine ⟨.tuple #[.int .i64 (z * 1000000), .slice A4 q c4, .bool true], ?_, A4, c4, by rw [HQ.out], ((HAP.out.2.2.keep hch7 (fun ad had h => by have := HAP.out.1 ad had; omega)).keep hch8 (fun ad had h => by have := HAP.out.1 ad had; omega)).keep hch9 (fun ad had h => by have := HAP.out.1 ad had; omega), HAP.out.2.1.2.1, HC⟩
  simp [results, Tryd.results16, go_sem, M0, M1, M2]
set_option maxRecDepth 100000 in
set_option maxHeartbeats 1000000 in
theorem implMilli_no (A0 : Option Addr) (c0 : Nat) (l : List Int) (w : World) (hr0 : Rd u8 w A0 l) (hl : l.length ≤ 1099511627776)
    (hrd : ∀ (p : Nat) (A : Option Addr) (c : Nat) (W : World), w.heap.size ≤ p → Ch No w W → RbS p A c l 0 W → Calls Tryd.prog 71 #[.pointer (some ⟨p, 0, none⟩)] W (RuNo p W)) :
    Calls Tryd.prog 16 #[.slice A0 l.length c0] w (BhNo (.int .i64 0) w) := by
  have R0 : Row (((w.alloc (.cells #[.int .i64 0] 2)).alloc (.cells #[.slice none 0 0] 26)).alloc (.cells #[.bool false] 4)) w.heap.size 2 [.int .i64 0] := ((Row.alloc w [.int .i64 0] 2).keep0 ((Ch.refl No _).alloc _)).keep0 ((Ch.refl No _).alloc _)
  have R1 : Row (((w.alloc (.cells #[.int .i64 0] 2)).alloc (.cells #[.slice none 0 0] 26)).alloc (.cells #[.bool false] 4)) (w.heap.size + 1) 26 [.slice none 0 0] := by
    have h := (Row.alloc (w.alloc (.cells #[.int .i64 0] 2)) [.slice none 0 0] 26).keep0 ((Ch.refl No _).alloc (.cells #[.bool false] 4))
    rwa [World.size_alloc] at h
  have R2 : Row (((w.alloc (.cells #[.int .i64 0] 2)).alloc (.cells #[.slice none 0 0] 26)).alloc (.cells #[.bool false] 4)) (w.heap.size + 1 + 1) 4 [.bool false] := by
    have h := Row.alloc ((w.alloc (.cells #[.int .i64 0] 2)).alloc (.cells #[.slice none 0 0] 26)) [.bool false] 4
    rwa [World.size_alloc, World.size_alloc] at h
  have C3 : Ch No w (((w.alloc (.cells #[.int .i64 0] 2)).alloc (.cells #[.slice none 0 0] 26)).alloc (.cells #[.bool false] 4)) := (((Ch.refl No w).alloc _).alloc _).alloc _
  have s3 : (((w.alloc (.cells #[.int .i64 0] 2)).alloc (.cells #[.slice none 0 0] 26)).alloc (.cells #[.bool false] 4)).heap.size = w.heap.size + 1 + 1 + 1 := by simp
  have hcp := hid (copied_calls A0 c0 l _ (hr0.keep0 C3) (by omega))
  have HN := hid (fun (A : Option Addr) (c : Nat) (W : World) (h : Ow 5 u8 W (.slice A l.length c) l) => new_calls A c l W h hl)
  have HRD := hid hrd
  clear hrd
  obtain ⟨N, hN⟩ : ∃ N, l.length = N := ⟨_, rfl⟩
  have HLN := hid hN
  rw [hN] at hcp ⊢
  clear hN hr0
  go_enter_defers Tryd.func16, Tryd.ntmps16
  go_wp2_with fail
  refine hcp.out.mono ?_
  rintro e w1 ⟨v1, rfl, ho1, hfr1, hch1⟩
  obtain ⟨A1, c1, rfl, _, _⟩ := ho1.slice
  have hnew := HN.out A1 c1 w1 ho1
  rw [HLN.out] at hnew ⊢
  have s1 := hch1.size
  rw [s3] at s1
  go_wp2_with fail
  refine hnew.mono ?_
  rintro e w2 ⟨p, A2, c2, rfl, hb2, hp2, hAe, hch2⟩
  have HAN : Hid (∀ ad, A2 = some ad → w.heap.size + 1 + 1 + 1 ≤ ad.block) := hid (fun ad had => by
    have h9 := hfr1 ad.block (by rw [← hAe.out, had]; rfl)
    rw [s3] at h9
    exact h9)
  clear hAe
  have K0 := (R0.keep0 hch1).keep0 hch2
  have K1 := (R1.keep0 hch1).keep0 hch2
  have K2 := (R2.keep0 hch1).keep0 hch2
  have C2 : Ch No w w2 := (C3.no_no hch1).no_no hch2
  have s2 := hch2.size
  have hap2 : 0 < l.length → ∀ ad, A2 = some ad → ad.block ≠ w2.heap.size := fun hp ad had h => by
    obtain ⟨b, o, e, hc⟩ := hb2.rd.at_ 0 hp
    rw [had] at e
    injection e with e
    subst e
    have h9 := World.block_lt_of_cell? _ _ hc
    simp only at h9 h
    omega
  have HAP2 := hid hap2
  have hpl := hb2.rp.lt
  have RM := Row.alloc w2 [.int .i64 0] 89
  have AL := (Ch.refl No w2).alloc (.cells #[.int .i64 0] 89)
  have HB2 := hid (hb2.keep0 AL)
  clear hap2 hb2
  go_wp2_with fail
  refine (milli_no (HRD.out p A2 c2 _ (by omega) (C2.no_no AL) HB2.out) RM (by omega)).mono ?_
  rintro e w3 ⟨T, v, XX, rfl, hrm, hch3⟩
  have m0 := hrm.cell 0 _ rfl
  have C3' : Ch No w w3 := (C2.no_no AL).trans hch3 (fun _ h => h) (fun b hb => .inr (by rcases hb with h | h <;> omega))
  go_wp2_with fail
  refine (behind_int64_no XX _ T v w3).mono ?_
  rintro e w4 ⟨rfl, hch4⟩
  have C4 : Ch No w w4 := C3'.no_no hch4
  have s33 := hch3.size
  have sal := AL.size
  replace K0 := ((K0.keep0 AL).keep hch3 (fun h => by rcases h with h | h <;> omega)).keep0 hch4
  replace K1 := ((K1.keep0 AL).keep hch3 (fun h => by rcases h with h | h <;> omega)).keep0 hch4
  replace K2 := ((K2.keep0 AL).keep hch3 (fun h => by rcases h with h | h <;> omega)).keep0 hch4
  go_wp2_with (first | ((with_reducible refine gate (.store 2 (.tmp 2) _) rfl ?_); refine wp_store rfl rfl 2 _ _ rfl (w.heap.size) 0 2 [.int .i64 0] (.int .i64 0) rfl rfl [.int .i64 0] rfl size_i64' (by simp [Value.oneCell']) (K0) (by simp) ?_; intro w7 hrow7 hch7) | ((with_reducible refine gate (.store 26 (.tmp 3) _) rfl ?_); refine wp_store rfl rfl 26 _ _ rfl (w.heap.size + 1) 0 26 [.slice none 0 0] (.slice none 0 0) rfl rfl [.slice none 0 0] rfl size_sl (by simp [Value.oneCell']) (K1.keep hch7 (by omega)) (by simp) ?_; intro w8 hrow8 hch8) | ((with_reducible refine gate (.store 4 (.tmp 4) _) rfl ?_); refine wp_store rfl rfl 4 _ _ rfl (w.heap.size + 1 + 1) 0 4 [.bool false] (.bool false) rfl rfl [.bool false] rfl size_bool (by simp [Value.oneCell']) ((K2.keep hch7 (by omega)).keep hch8 (by omega)) (by simp) ?_; intro w9 hrow9 hch9))
  refine leaves_cons (f := 45) (args := #[.pointer (some ⟨w.heap.size, 0, none⟩), .pointer (some ⟨w.heap.size + 1, 0, none⟩), .pointer (some ⟨w.heap.size + 1 + 1, 0, none⟩)]) (by simp) (by simp [go_sem]) ?_
  refine (noValue_int64_idle _ _ _ _).mono ?_
  rintro e u' w'' ⟨rfl, rfl, rfl⟩
  have M0 := ((hrow7.keep hch8 (by omega)).keep hch9 (by omega)).cell 0 _ rfl
  have M1 := (hrow8.keep hch9 (by omega)).cell 0 _ rfl
  have M2 := hrow9.cell 0 _ rfl
  have HC : Ch No w w'' := ((C4.freshg hch7 (Nat.le_refl _)).freshg hch8 (by omega)).freshg hch9 (by omega)
  refine ⟨.tuple #[.int .i64 0, .slice none 0 0, .bool false], ?_, rfl, HC⟩
  simp [results, Tryd.results16, go_sem, M0, M1, M2]

end Go.Proofs.YtbdgkikipekmlaaDoor

namespace Go.Proofs.YtbdgkikipekmlaaDoor
set_option linter.unusedVariables false
set_option linter.unusedSimpArgs false
open Go.RowKit

theorem eReadList_of {Q : Ending → World → Prop} {p : Addr} {w : World} (h : Calls Tryd.prog 72 #[.pointer (some p)] w fun e w' => ∃ x er, e = .returned (.tuple #[x, er]) ∧ Q e w') :
    Calls Tryd.prog 48 #[.pointer (some p)] w Q := by
  go_enter Tryd.func48, Tryd.ntmps48
  go_wp2_with fail
  refine h.mono ?_
  rintro e w1 ⟨x, er, rfl, hq⟩
  go_wp2_with fail
  exact hq
set_option maxRecDepth 100000 in
set_option maxHeartbeats 1000000 in
theorem implListHead_ok (A0 : Option Addr) (c0 : Nat) (l : List Int) (w : World) (hr0 : Rd u8 w A0 l) (hl : l.length ≤ 1099511627776) (j : Nat) (z : Int)
    (hrd : ∀ (p : Nat) (A : Option Addr) (c : Nat) (W : World), RbS p A c l 0 W → Calls Tryd.prog 72 #[.pointer (some ⟨p, 0, none⟩)] W (HdYes p A c l j z W)) :
    Calls Tryd.prog 17 #[.slice A0 l.length c0] w (RvT (.int .i64 z) (l.drop j) w) := by
  have R0 : Row (((w.alloc (.cells #[.int .i64 0] 2)).alloc (.cells #[.slice none 0 0] 26)).alloc (.cells #[.bool false] 4)) w.heap.size 2 [.int .i64 0] := ((Row.alloc w [.int .i64 0] 2).keep0 ((Ch.refl No _).alloc _)).keep0 ((Ch.refl No _).alloc _)
  have R1 : Row (((w.alloc (.cells #[.int .i64 0] 2)).alloc (.cells #[.slice none 0 0] 26)).alloc (.cells #[.bool false] 4)) (w.heap.size + 1) 26 [.slice none 0 0] := by
    have h := (Row.alloc (w.alloc (.cells #[.int .i64 0] 2)) [.slice none 0 0] 26).keep0 ((Ch.refl No _).alloc (.cells #[.bool false] 4))
    rwa [World.size_alloc] at h
  have R2 : Row (((w.alloc (.cells #[.int .i64 0] 2)).alloc (.cells #[.slice none 0 0] 26)).alloc (.cells #[.bool false] 4)) (w.heap.size + 1 + 1) 4 [.bool false] := by
    have h := Row.alloc ((w.alloc (.cells #[.int .i64 0] 2)).alloc (.cells #[.slice none 0 0] 26)) [.bool false] 4
    rwa [World.size_alloc, World.size_alloc] at h
  have C3 : Ch No w (((w.alloc (.cells #[.int .i64 0] 2)).alloc (.cells #[.slice none 0 0] 26)).alloc (.cells #[.bool false] 4)) := (((Ch.refl No w).alloc _).alloc _).alloc _
  have s3 : (((w.alloc (.cells #[.int .i64 0] 2)).alloc (.cells #[.slice none 0 0] 26)).alloc (.cells #[.bool false] 4)).heap.size = w.heap.size + 1 + 1 + 1 := by simp
  have hcp := hid (copied_calls A0 c0 l _ (hr0.keep0 C3) (by omega))
  have HN := hid (fun (A : Option Addr) (c : Nat) (W : World) (h : Ow 5 u8 W (.slice A l.length c) l) => new_calls A c l W h hl)
  have HRD := hid hrd
  have HBH := hid (fun (p : Nat) (A : Option Addr) (c : Nat) (W : World) (h : RbS p A c l j W) => behind_int64_ok h z)
  generalize l.drop j = X at HBH ⊢
  clear hrd
  obtain ⟨N, hN⟩ : ∃ N, l.length = N := ⟨_, rfl⟩
  have HLN := hid hN
  rw [hN] at hcp ⊢
  clear hN hr0
  go_enter_defers Tryd.func17, Tryd.ntmps17
  go_wp2_with fail
  refine hcp.out.mono ?_
  rintro e w1 ⟨v1, rfl, ho1, hfr1, hch1⟩
  obtain ⟨A1, c1, rfl, _, _⟩ := ho1.slice
  have hnew := HN.out A1 c1 w1 ho1
  rw [HLN.out] at hnew ⊢
  have s1 := hch1.size
  rw [s3] at s1
  go_wp2_with fail
  refine hnew.mono ?_
  rintro e w2 ⟨p, A2, c2, rfl, hb2, hp2, hAe, hch2⟩
  have HAN : Hid (∀ ad, A2 = some ad → w.heap.size + 1 + 1 + 1 ≤ ad.block) := hid (fun ad had => by
    have h9 := hfr1 ad.block (by rw [← hAe.out, had]; rfl)
    rw [s3] at h9
    exact h9)
  clear hAe
  have K0 := (R0.keep0 hch1).keep0 hch2
  have K1 := (R1.keep0 hch1).keep0 hch2
  have K2 := (R2.keep0 hch1).keep0 hch2
  have C2 : Ch No w w2 := (C3.no_no hch1).no_no hch2
  have s2 := hch2.size
  have hpl := hb2.rp.lt
  have HB2 := hid hb2
  clear hb2
  go_wp2_with fail
  refine (eReadList_of ((HRD.out p A2 c2 _ HB2.out).mono fun e w' h => ⟨_, _, h.1, h⟩)).mono ?_
  rintro e w3' ⟨rfl, hb3', hch3'⟩
  have zz := z
  have K0' := K0.keep hch3' (fun h => by have h9 : w.heap.size = p := h; omega)
  go_wp2_with (first | ((with_reducible refine gate (.store 2 (.tmp 2) (.tmp 13)) rfl ?_); refine wp_store rfl rfl 2 _ _ rfl (w.heap.size) 0 2 [.int .i64 0] (.int .i64 z) rfl rfl [.int .i64 z] rfl size_i64' (by simp [Value.oneCell']) K0' (by simp) ?_; intro w3 hrow3 hch3; have m0 : w3.cell? ⟨w.heap.size, 0, none⟩ = some (.int .i64 z) := hrow3.cell 0 _ rfl))
  have C3' : Ch No w w3 := ((C2.freshg hch3' (by omega)).freshg hch3 (Nat.le_refl _))
  have hb3 : RbS p A2 c2 l j w3 := ⟨hb3'.rp.keep hch3 (fun h => by have h9 : p = w.heap.size := h; omega), (fun hp => hb3'.rd.keep hch3 (fun ad had h => by have h9 := HAN.out ad had; have h8 : ad.block = w.heap.size := h; omega) hp), hb3'.le, hb3'.lc, hb3'.ap, hb3'.lb⟩
  refine (HBH.out p A2 c2 w3 hb3).mono ?_
  rintro e w4 ⟨A4, c4, rfl, ho4, hf4, hch4⟩
  have C4 : Ch No w w4 := C3'.no_no hch4
  have s33 := hch3.size
  have s34 := hch3'.size
  replace K0 := hrow3.keep0 hch4
  replace K1 := ((K1.keep hch3' (fun h => by have h9 : w.heap.size + 1 = p := h; omega)).keep hch3 (fun h => by have h9 : w.heap.size + 1 = w.heap.size := h; omega)).keep0 hch4
  replace K2 := ((K2.keep hch3' (fun h => by have h9 : w.heap.size + 1 + 1 = p := h; omega)).keep hch3 (fun h => by have h9 : w.heap.size + 1 + 1 = w.heap.size := h; omega)).keep0 hch4
  simp only [List.take_zero, List.nil_append, List.length_cons, List.length_nil, Nat.zero_add, List.drop_succ_cons, List.drop_zero, List.append_nil] at K0
  obtain ⟨q, hq⟩ : ∃ q, X.length = q := ⟨_, rfl⟩
  have HQ := hid hq
  have hle4 := ho4.le
  have hrd4 := ho4.rd
  have hap4 : ∀ ad, A4 = some ad → w.heap.size + 1 + 1 + 1 ≤ ad.block := fun ad h => by
    rcases ho4.form with ⟨h1, _⟩ | ⟨g, c', cur, h1, _, _, h2, _⟩
    · injection h1 with h1; rw [h] at h1; cases h1
    · injection h1 with h1 _ _
      rw [h] at h1
      injection h1 with h1
      subst h1; subst h
      have h9 := hf4 g (Blk_slice.2 rfl)
      show w.heap.size + 1 + 1 + 1 ≤ g
      omega
  have HAP := hid (And.intro hap4 (And.intro hle4 hrd4))
  rw [hq]
  clear hq ho4 hle4 hrd4 hap4 hf4
  go_wp2_with (first | ((with_reducible refine gate (.store 2 (.tmp 2) (.tmp 19)) rfl ?_); refine wp_store rfl rfl 2 _ _ rfl (w.heap.size) 0 2 [.int .i64 z] (.int .i64 z) rfl rfl [.int .i64 z] rfl size_i64' (by simp [Value.oneCell']) (K0) (by simp) ?_; intro w7 hrow7 hch7) | ((with_reducible refine gate (.store 26 (.tmp 3) _) rfl ?_); refine wp_store rfl rfl 26 _ _ rfl (w.heap.size + 1) 0 26 [.slice none 0 0] (.slice A4 q c4) rfl rfl [.slice A4 q c4] rfl size_sl (by simp [Value.oneCell']) (K1.keep hch7 (by omega)) (by simp) ?_; intro w8 hrow8 hch8) | ((with_reducible refine gate (.store 4 (.tmp 4) _) rfl ?_); refine wp_store rfl rfl 4 _ _ rfl (w.heap.size + 1 + 1) 0 4 [.bool false] (.bool true) rfl rfl [.bool true] rfl size_bool (by simp [Value.oneCell']) ((K2.keep hch7 (by omega)).keep hch8 (by omega)) (by simp) ?_; intro w9 hrow9 hch9))
  refine leaves_cons (f := 45) (args := #[.pointer (some ⟨w.heap.size, 0, none⟩), .pointer (some ⟨w.heap.size + 1, 0, none⟩), .pointer (some ⟨w.heap.size + 1 + 1, 0, none⟩)]) (by simp) (by simp [go_sem]) ?_
  refine (noValue_int64_idle _ _ _ _).mono ?_
  rintro e u' w'' ⟨rfl, rfl, rfl⟩
  have M0 := ((hrow7.keep hch8 (by omega)).keep hch9 (by omega)).cell 0 _ rfl
  have M1 := (hrow8.keep hch9 (by omega)).cell 0 _ rfl
  have M2 := hrow9.cell 0 _ rfl
  have HC : Ch No w w'' := ((C4.freshg hch7 (Nat.le_refl _)).freshg hch8 (by omega)).freshg hch9 (by omega)
  refine ⟨.tuple #[.int .i64 z, .slice A4 q c4, .bool true], ?_, A4, c4, by rw [HQ.out], ((HAP.out.2.2.keep hch7 (fun ad had h => by have := HAP.out.1 ad had; omega)).keep hch8 (fun ad had h => by have := HAP.out.1 ad had; omega)).keep hch9 (fun ad had h => by have := HAP.out.1 ad had; omega), HAP.out.2.1.2.1, HC⟩
  simp [results, Tryd.results17, go_sem, M0, M1, M2]
set_option maxRecDepth 100000 in
set_option maxHeartbeats 1000000 in
theorem implListHead_no (A0 : Option Addr) (c0 : Nat) (l : List Int) (w : World) (hr0 : Rd u8 w A0 l) (hl : l.length ≤ 1099511627776)
    (hrd : ∀ (p : Nat) (A : Option Addr) (c : Nat) (W : World), w.heap.size ≤ p → Ch No w W → RbS p A c l 0 W → Calls Tryd.prog 72 #[.pointer (some ⟨p, 0, none⟩)] W (HdNo p W)) :
    Calls Tryd.prog 17 #[.slice A0 l.length c0] w (BhNo (.int .i64 0) w) := by
  have R0 : Row (((w.alloc (.cells #[.int .i64 0] 2)).alloc (.cells #[.slice none 0 0] 26)).alloc (.cells #[.bool false] 4)) w.heap.size 2 [.int .i64 0] := ((Row.alloc w [.int .i64 0] 2).keep0 ((Ch.refl No _).alloc _)).keep0 ((Ch.refl No _).alloc _)
  have R1 : Row (((w.alloc (.cells #[.int .i64 0] 2)).alloc (.cells #[.slice none 0 0] 26)).alloc (.cells #[.bool false] 4)) (w.heap.size + 1) 26 [.slice none 0 0] := by
    have h := (Row.alloc (w.alloc (.cells #[.int .i64 0] 2)) [.slice none 0 0] 26).keep0 ((Ch.refl No _).alloc (.cells #[.bool false] 4))
    rwa [World.size_alloc] at h
  have R2 : Row (((w.alloc (.cells #[.int .i64 0] 2)).alloc (.cells #[.slice none 0 0] 26)).alloc (.cells #[.bool false] 4)) (w.heap.size + 1 + 1) 4 [.bool false] := by
    have h := Row.alloc ((w.alloc (.cells #[.int .i64 0] 2)).alloc (.cells #[.slice none 0 0] 26)) [.bool false] 4
    rwa [World.size_alloc, World.size_alloc] at h
  have C3 : Ch No w (((w.alloc (.cells #[.int .i64 0] 2)).alloc (.cells #[.slice none 0 0] 26)).alloc (.cells #[.bool false] 4)) := (((Ch.refl No w).alloc _).alloc _).alloc _
  have s3 : (((w.alloc (.cells #[.int .i64 0] 2)).alloc (.cells #[.slice none 0 0] 26)).alloc (.cells #[.bool false] 4)).heap.size = w.heap.size + 1 + 1 + 1 := by simp
  have hcp := hid (copied_calls A0 c0 l _ (hr0.keep0 C3) (by omega))
  have HN := hid (fun (A : Option Addr) (c : Nat) (W : World) (h : Ow 5 u8 W (.slice A l.length c) l) => new_calls A c l W h hl)
  have HRD := hid hrd
  clear hrd
  obtain ⟨N, hN⟩ : ∃ N, l.length = N := ⟨_, rfl⟩
  have HLN := hid hN
  rw [hN] at hcp ⊢
  clear hN hr0
  go_enter_defers Tryd.func17, Tryd.ntmps17
  go_wp2_with fail
  refine hcp.out.mono ?_
  rintro e w1 ⟨v1, rfl, ho1, hfr1, hch1⟩
  obtain ⟨A1, c1, rfl, _, _⟩ := ho1.slice
  have hnew := HN.out A1 c1 w1 ho1
  rw [HLN.out] at hnew ⊢
  have s1 := hch1.size
  rw [s3] at s1
  go_wp2_with fail
  refine hnew.mono ?_
  rintro e w2 ⟨p, A2, c2, rfl, hb2, hp2, hAe, hch2⟩
  have HAN : Hid (∀ ad, A2 = some ad → w.heap.size + 1 + 1 + 1 ≤ ad.block) := hid (fun ad had => by
    have h9 := hfr1 ad.block (by rw [← hAe.out, had]; rfl)
    rw [s3] at h9
    exact h9)
  clear hAe
  have K0 := (R0.keep0 hch1).keep0 hch2
  have K1 := (R1.keep0 hch1).keep0 hch2
  have K2 := (R2.keep0 hch1).keep0 hch2
  have C2 : Ch No w w2 := (C3.no_no hch1).no_no hch2
  have s2 := hch2.size
  have hpl := hb2.rp.lt
  have HB2 := hid hb2
  clear hb2
  go_wp2_with fail
  refine (eReadList_of ((HRD.out p A2 c2 _ (by omega) C2 HB2.out).mono fun e w' (h : HdNo p w2 e w') => (by obtain ⟨z, T, v, h1, h2⟩ := h; exact ⟨_, _, h1, (⟨z, T, v, h1, h2⟩ : HdNo p w2 e w')⟩))).mono ?_
  rintro e w3' ⟨z, T, v, rfl, hch3'⟩
  have K0' := K0.keep hch3' (fun h => by have h9 : w.heap.size = p := h; omega)
  go_wp2_with (first | ((with_reducible refine gate (.store 2 (.tmp 2) (.tmp 13)) rfl ?_); refine wp_store rfl rfl 2 _ _ rfl (w.heap.size) 0 2 [.int .i64 0] (.int .i64 z) rfl rfl [.int .i64 z] rfl size_i64' (by simp [Value.oneCell']) K0' (by simp) ?_; intro w3 hrow3 hch3; have m0 : w3.cell? ⟨w.heap.size, 0, none⟩ = some (.int .i64 z) := hrow3.cell 0 _ rfl))
  have C3' : Ch No w w3 := ((C2.freshg hch3' (by omega)).freshg hch3 (Nat.le_refl _))
  refine (behind_int64_no _ _ T v w3).mono ?_
  rintro e w4 ⟨rfl, hch4⟩
  have C4 : Ch No w w4 := C3'.no_no hch4
  have s33 := hch3.size
  have s34 := hch3'.size
  replace K0 := hrow3.keep0 hch4
  replace K1 := ((K1.keep hch3' (fun h => by have h9 : w.heap.size + 1 = p := h; omega)).keep hch3 (fun h => by have h9 : w.heap.size + 1 = w.heap.size := h; omega)).keep0 hch4
  replace K2 := ((K2.keep hch3' (fun h => by have h9 : w.heap.size + 1 + 1 = p := h; omega)).keep hch3 (fun h => by have h9 : w.heap.size + 1 + 1 = w.heap.size := h; omega)).keep0 hch4
  simp only [List.take_zero, List.nil_append, List.length_cons, List.length_nil, Nat.zero_add, List.drop_succ_cons, List.drop_zero, List.append_nil] at K0
  go_wp2_with (first | ((with_reducible refine gate (.store 2 (.tmp 2) (.tmp 19)) rfl ?_); refine wp_store rfl rfl 2 _ _ rfl (w.heap.size) 0 2 [.int .i64 z] (.int .i64 0) rfl rfl [.int .i64 0] rfl size_i64' (by simp [Value.oneCell']) (K0) (by simp) ?_; intro w7 hrow7 hch7) | ((with_reducible refine gate (.store 26 (.tmp 3) _) rfl ?_); refine wp_store rfl rfl 26 _ _ rfl (w.heap.size + 1) 0 26 [.slice none 0 0] (.slice none 0 0) rfl rfl [.slice none 0 0] rfl size_sl (by simp [Value.oneCell']) (K1.keep hch7 (by omega)) (by simp) ?_; intro w8 hrow8 hch8) | ((with_reducible refine gate (.store 4 (.tmp 4) _) rfl ?_); refine wp_store rfl rfl 4 _ _ rfl (w.heap.size + 1 + 1) 0 4 [.bool false] (.bool false) rfl rfl [.bool false] rfl size_bool (by simp [Value.oneCell']) ((K2.keep hch7 (by omega)).keep hch8 (by omega)) (by simp) ?_; intro w9 hrow9 hch9))
  refine leaves_cons (f := 45) (args := #[.pointer (some ⟨w.heap.size, 0, none⟩), .pointer (some ⟨w.heap.size + 1, 0, none⟩), .pointer (some ⟨w.heap.size + 1 + 1, 0, none⟩)]) (by simp) (by simp [go_sem]) ?_
  refine (noValue_int64_idle _ _ _ _).mono ?_
  rintro e u' w'' ⟨rfl, rfl, rfl⟩
  have M0 := ((hrow7.keep hch8 (by omega)).keep hch9 (by omega)).cell 0 _ rfl
  have M1 := (hrow8.keep hch9 (by omega)).cell 0 _ rfl
  have M2 := hrow9.cell 0 _ rfl
  have HC : Ch No w w'' := ((C4.freshg hch7 (Nat.le_refl _)).freshg hch8 (by omega)).freshg hch9 (by omega)
  refine ⟨.tuple #[.int .i64 0, .slice none 0 0, .bool false], ?_, rfl, HC⟩
  simp [results, Tryd.results17, go_sem, M0, M1, M2]

end Go.Proofs.YtbdgkikipekmlaaDoor
