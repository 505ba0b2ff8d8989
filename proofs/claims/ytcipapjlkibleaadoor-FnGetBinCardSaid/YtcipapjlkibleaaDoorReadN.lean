/- The walks of MessagePack's reader of bytes. No condition. -/
import Derived.Test.YtcipapjlkibleaaDoorImplI
namespace Go.Proofs.YtcipapjlkibleaaDoor
set_option linter.unusedVariables false
set_option linter.unusedSimpArgs false
open Go.RowKit

def RnNo (w : World) (e : Ending) (w' : World) : Prop := ∃ i o T v, e = .returned (.tuple #[i, o, .iface T v]) ∧ Ch No w w'
def RnOk (x r : List Int) (w : World) (e : Ending) (w' : World) : Prop := ∃ A c A' c', e = .returned (.tuple #[.slice A x.length c, .slice A' r.length c', .nilIface]) ∧ Rd u8 w' A x ∧ x.length ≤ c ∧ Rd u8 w' A' r ∧ r.length ≤ c' ∧ Ch No w w'
set_option maxRecDepth 100000 in
theorem readN_nil (A : Option Addr) (c : Nat) (w : World) (hs : Sh w) : Calls Tryd.prog 38 #[.slice A 0 c, .slice none 0 0, .bool false] w (RnNo w) := by
  obtain ⟨T, v, hg⟩ := hs
  go_enter Tryd.func38, Tryd.ntmps38
  go_wp2_with (go_quiet (fail))
  go_ret3
  exact ⟨_, _, T, v, rfl, by repeat (first | exact Ch.refl _ _ | apply Ch.drewN | apply Ch.drew)⟩
section
variable {P : Program} {ops : Array Oper} {Q : Exit → Act → World → Prop} {o : Oper} {rest : List Oper} {a : Act} {w : World}
/-- copy of nothing. -/
theorem wp_copyn (hgd : o.guard = none) (d s : Operand) (dT sT e : TypeId) (ho : o.op = .call { callee := .builtin .copy, args := #[d, s], argTypes := #[dT, sT] }) (hu : P.underlying dT = some (.slice e)) (hsz : (P.info? e).map (·.size) = some 1)
    (dA : Option Addr) (dn dc : Nat) (sA : Option Addr) (sn sc : Nat) (hd : a.eval d = .slice dA dn dc) (hs : a.eval s = .slice sA sn sc) (h0 : min sn dn = 0)
    (h : wpList P ops Q rest (a.put o.dst (.int .i64 0)) w) : wpList P ops Q (o :: rest) a w := by
  refine wpList_plain hgd fun K hK => ?_
  have hrun := run_copy_none (P := P) w dT sT o.type e dA sA dn dc sn sc hu hsz h0
  unfold Oper.wp execOp
  simp only [ho, resolve, invoke, builtin, Sem.run_bind, Sem.run_pure, Result.andThen_ok, List.map_toArray, List.map_cons, List.map_nil, hd, hs, hrun]
  exact hK _ _ h
end
set_option maxRecDepth 100000 in
set_option maxHeartbeats 2000000 in
theorem readN_short_1 (A : Option Addr) (c : Nat) (b : Int) (r : List Int) (w : World) (hr : Rd u8 w A (b :: r)) (hc : (b :: r).length ≤ c) (hs : Sh w) (hn : r.length < 1) (e0 : b = 196) :
    Calls Tryd.prog 38 #[.slice A (b :: r).length c, .slice none 0 0, .bool false] w (RnNo w) := by
  obtain ⟨A1, hk2, hk3, hcut⟩ := Cut.ahead_l 24 5 Tryd.underlying24 size_u8 A (b :: r).length c 1 1 rfl .i64 (by simp)
  have hr1 : Rd u8 w A1 r := hcut.drop hr rfl hc
  obtain ⟨bk, off, rfl, d0⟩ := hr.at_ 0 (by simp)
  replace d0 : World.cell? _ ⟨bk, off, none⟩ = some (.int .u8 b) := d0
  obtain ⟨m, hm⟩ : ∃ m, (b :: r).length = m := ⟨_, rfl⟩
  obtain ⟨k, hk⟩ : ∃ k, r.length = k := ⟨_, rfl⟩
  have hmk : m - 1 = k := by rw [← hm, ← hk]; simp
  have hlt : decide ((m : Int) < 1) = false := decide_eq_false (by rw [← hm, List.length_cons]; omega)
  have hlt' : (0 : Int) < m := by rw [← hm, List.length_cons]; omega
  have hck : k ≤ c - 1 := by rw [hm] at hc; omega
  rw [hm, hmk] at hk2 hk3
  generalize c - 1 = c1 at hk2 hk3 hck
  clear hcut hr
  subst e0
  rw [hk] at hn
  obtain ⟨T, v, hg⟩ := hs
  have hdn : decide ((k : Int) < 1) = true := decide_eq_true (by omega)
  rw [hm]
  clear hm hmk hk
  go_enter Tryd.func38, Tryd.ntmps38
  go_wp2_with fail
  go_ret3
  exact ⟨_, _, T, v, rfl, Ch.refl _ _⟩
set_option maxRecDepth 100000 in
set_option maxHeartbeats 2000000 in
theorem readN_cut_1 (A : Option Addr) (c : Nat) (b : Int) (r : List Int) (w : World) (hr : Rd u8 w A (b :: r)) (hc : (b :: r).length ≤ c) (hb : Byt r) (hn : 1 ≤ r.length) (hs : Sh w) (hq9 : ((r.drop 1).length : Int) < beN (r.take 1)) (e0 : b = 196) :
    Calls Tryd.prog 38 #[.slice A (b :: r).length c, .slice none 0 0, .bool false] w (RnNo w) := by
  obtain ⟨A1, hk2, hk3, hcut⟩ := Cut.ahead_l 24 5 Tryd.underlying24 size_u8 A (b :: r).length c 1 1 rfl .i64 (by simp)
  have hr1 : Rd u8 w A1 r := hcut.drop hr rfl hc
  obtain ⟨bk, off, rfl, d0⟩ := hr.at_ 0 (by simp)
  replace d0 : World.cell? _ ⟨bk, off, none⟩ = some (.int .u8 b) := d0
  obtain ⟨m, hm⟩ : ∃ m, (b :: r).length = m := ⟨_, rfl⟩
  obtain ⟨k, hk⟩ : ∃ k, r.length = k := ⟨_, rfl⟩
  have hmk : m - 1 = k := by rw [← hm, ← hk]; simp
  have hlt : decide ((m : Int) < 1) = false := decide_eq_false (by rw [← hm, List.length_cons]; omega)
  have hlt' : (0 : Int) < m := by rw [← hm, List.length_cons]; omega
  have hck : k ≤ c - 1 := by rw [hm] at hc; omega
  rw [hm, hmk] at hk2 hk3
  generalize c - 1 = c1 at hk2 hk3 hck
  clear hcut hr
  subst e0
  obtain ⟨A2, hj2, hj3, hcut2⟩ := Cut.ahead_l 24 5 Tryd.underlying24 size_u8 A1 r.length c1 1 1 rfl .i64 hn
  have hr2 := fun W (h : Rd u8 W A1 r) => hcut2.drop h rfl (by omega)
  have hl2 : (r.drop 1).length = r.length - 1 := by simp
  obtain ⟨bk1, off1, rfl, f0⟩ := hr1.at_ 0 (by omega)
  replace f0 : World.cell? _ ⟨bk1, off1, none⟩ = some (.int .u8 r[0]) := f0
  have hqe : beN (r.take 1) = r[0] := beN_one r[0] r.tail (by cases r with | nil => simp at hn | cons _ _ => rfl)
  have hq := beN_range 1 (r.take 1) (by rw [List.length_take]; omega) (hb.take 1)
  rw [← hqe] at f0
  clear hqe
  obtain ⟨R, hR⟩ : ∃ R, r.drop 1 = R := ⟨_, rfl⟩
  have HR : Hid (∀ W : World, Rd u8 W (some ⟨bk1, off1, none⟩) r → Rd u8 W A2 R) := fun W h => by rw [← hR]; exact hr2 W h
  rw [hR] at hl2 hq9
  rw [hk] at hj2 hj3 hl2 hn
  generalize beN (r.take 1) = qi at f0 hq hq9
  have hdn : decide ((k : Int) < 1) = false := decide_eq_false (by omega)
  rw [hm]
  have hk0 : (0 : Int) < k := by omega
  have hqa : 0 ≤ qi := hq.1
  have hqb : qi < 256 := hq.2
  have hle2 : R.length ≤ c1 - 1 := by omega
  generalize c1 - 1 = c2 at hj2 hj3 hle2
  obtain ⟨k2, hk2e⟩ : ∃ k2, k - 1 = k2 := ⟨_, rfl⟩
  rw [hk2e] at hj2 hj3 hl2
  obtain ⟨T, v, hg⟩ := hs
  have hlq : decide ((k2 : Int) < qi) = true := decide_eq_true (by omega)
  have HL2 := hid hl2
  clear hm hmk hk hl2 hr2 hcut2 hR hk2e hn hb hq
  go_enter Tryd.func38, Tryd.ntmps38
  go_wp2_with fail
  go_ret3
  exact ⟨_, _, _, _, rfl, Ch.refl _ _⟩
set_option maxRecDepth 100000 in
set_option maxHeartbeats 2000000 in
theorem readN_zero_1 (A : Option Addr) (c : Nat) (b : Int) (r : List Int) (w : World) (hr : Rd u8 w A (b :: r)) (hc : (b :: r).length ≤ c) (hb : Byt r) (hn : 1 ≤ r.length) (hq9 : beN (r.take 1) = 0) (e0 : b = 196) :
    Calls Tryd.prog 38 #[.slice A (b :: r).length c, .slice none 0 0, .bool false] w (RnOk [] (r.drop 1) w) := by
  obtain ⟨A1, hk2, hk3, hcut⟩ := Cut.ahead_l 24 5 Tryd.underlying24 size_u8 A (b :: r).length c 1 1 rfl .i64 (by simp)
  have hr1 : Rd u8 w A1 r := hcut.drop hr rfl hc
  obtain ⟨bk, off, rfl, d0⟩ := hr.at_ 0 (by simp)
  replace d0 : World.cell? _ ⟨bk, off, none⟩ = some (.int .u8 b) := d0
  obtain ⟨m, hm⟩ : ∃ m, (b :: r).length = m := ⟨_, rfl⟩
  obtain ⟨k, hk⟩ : ∃ k, r.length = k := ⟨_, rfl⟩
  have hmk : m - 1 = k := by rw [← hm, ← hk]; simp
  have hlt : decide ((m : Int) < 1) = false := decide_eq_false (by rw [← hm, List.length_cons]; omega)
  have hlt' : (0 : Int) < m := by rw [← hm, List.length_cons]; omega
  have hck : k ≤ c - 1 := by rw [hm] at hc; omega
  rw [hm, hmk] at hk2 hk3
  generalize c - 1 = c1 at hk2 hk3 hck
  clear hcut hr
  subst e0
  obtain ⟨A2, hj2, hj3, hcut2⟩ := Cut.ahead_l 24 5 Tryd.underlying24 size_u8 A1 r.length c1 1 1 rfl .i64 hn
  have hr2 := fun W (h : Rd u8 W A1 r) => hcut2.drop h rfl (by omega)
  have hl2 : (r.drop 1).length = r.length - 1 := by simp
  obtain ⟨bk1, off1, rfl, f0⟩ := hr1.at_ 0 (by omega)
  replace f0 : World.cell? _ ⟨bk1, off1, none⟩ = some (.int .u8 r[0]) := f0
  have hqe : beN (r.take 1) = r[0] := beN_one r[0] r.tail (by cases r with | nil => simp at hn | cons _ _ => rfl)
  have hq := beN_range 1 (r.take 1) (by rw [List.length_take]; omega) (hb.take 1)
  rw [← hqe] at f0
  clear hqe
  obtain ⟨R, hR⟩ : ∃ R, r.drop 1 = R := ⟨_, rfl⟩
  have HR : Hid (∀ W : World, Rd u8 W (some ⟨bk1, off1, none⟩) r → Rd u8 W A2 R) := fun W h => by rw [← hR]; exact hr2 W h
  rw [hR] at hl2 ⊢
  rw [hk] at hj2 hj3 hl2 hn
  generalize beN (r.take 1) = qi at f0 hq hq9
  have hdn : decide ((k : Int) < 1) = false := decide_eq_false (by omega)
  rw [hm]
  have hk0 : (0 : Int) < k := by omega
  have hqa : 0 ≤ qi := hq.1
  have hqb : qi < 256 := hq.2
  have hle2 : R.length ≤ c1 - 1 := by omega
  generalize c1 - 1 = c2 at hj2 hj3 hle2
  obtain ⟨k2, hk2e⟩ : ∃ k2, k - 1 = k2 := ⟨_, rfl⟩
  rw [hk2e] at hj2 hj3 hl2
  obtain ⟨A3, hi2, hi3, hcut3⟩ := Cut.ahead_l 24 5 Tryd.underlying24 size_u8 A2 k2 c2 0 0 rfl .i64 (by omega)
  subst hq9
  have hlq : decide ((k2 : Int) < 0) = false := decide_eq_false (by omega)
  have HL2 := hid hl2
  have HR3 : Hid (∀ W : World, Rd u8 W A2 R → Rd u8 W A3 (R.drop 0)) := fun W h => hcut3.drop h HL2.out (by have := HL2.out; omega)
  clear hm hmk hk hl2 hr2 hcut2 hR hk2e hn hb hq
  clear hcut3
  go_enter Tryd.func38, Tryd.ntmps38
  go_wp2_with ((with_reducible refine gate (.call { callee := .builtin .copy, args := #[.tmp _, .tmp _], argTypes := #[24, 24] }) rfl ?_); refine wp_copyn rfl _ _ 24 24 5 rfl Tryd.underlying24 size_u8 none 0 0 _ _ _ rfl rfl (by omega) ?_)
  go_ret3
  obtain rfl := HL2.out
  exact ⟨none, 0, A3, c2, rfl, Rd.nil _ _ _, by simp, HR3.out _ (HR.out _ hr1), hle2, Ch.refl _ _⟩
set_option maxRecDepth 100000 in
set_option maxHeartbeats 2000000 in
theorem readN_some_1 (A : Option Addr) (c : Nat) (b : Int) (r : List Int) (w : World) (hr : Rd u8 w A (b :: r)) (hc : (b :: r).length ≤ c) (hb : Byt r) (hn : 1 ≤ r.length) (q : Nat) (hq0 : 0 < q) (hq9 : beN (r.take 1) = q) (hq8 : q ≤ (r.drop 1).length) (e0 : b = 196) :
    Calls Tryd.prog 38 #[.slice A (b :: r).length c, .slice none 0 0, .bool false] w (RnOk ((r.drop 1).take q) ((r.drop 1).drop q) w) := by
  obtain ⟨A1, hk2, hk3, hcut⟩ := Cut.ahead_l 24 5 Tryd.underlying24 size_u8 A (b :: r).length c 1 1 rfl .i64 (by simp)
  have hr1 : Rd u8 w A1 r := hcut.drop hr rfl hc
  obtain ⟨bk, off, rfl, d0⟩ := hr.at_ 0 (by simp)
  replace d0 : World.cell? _ ⟨bk, off, none⟩ = some (.int .u8 b) := d0
  obtain ⟨m, hm⟩ : ∃ m, (b :: r).length = m := ⟨_, rfl⟩
  obtain ⟨k, hk⟩ : ∃ k, r.length = k := ⟨_, rfl⟩
  have hmk : m - 1 = k := by rw [← hm, ← hk]; simp
  have hlt : decide ((m : Int) < 1) = false := decide_eq_false (by rw [← hm, List.length_cons]; omega)
  have hlt' : (0 : Int) < m := by rw [← hm, List.length_cons]; omega
  have hck : k ≤ c - 1 := by rw [hm] at hc; omega
  rw [hm, hmk] at hk2 hk3
  generalize c - 1 = c1 at hk2 hk3 hck
  clear hcut hr
  subst e0
  obtain ⟨A2, hj2, hj3, hcut2⟩ := Cut.ahead_l 24 5 Tryd.underlying24 size_u8 A1 r.length c1 1 1 rfl .i64 hn
  have hr2 := fun W (h : Rd u8 W A1 r) => hcut2.drop h rfl (by omega)
  have hl2 : (r.drop 1).length = r.length - 1 := by simp
  obtain ⟨bk1, off1, rfl, f0⟩ := hr1.at_ 0 (by omega)
  replace f0 : World.cell? _ ⟨bk1, off1, none⟩ = some (.int .u8 r[0]) := f0
  have hqe : beN (r.take 1) = r[0] := beN_one r[0] r.tail (by cases r with | nil => simp at hn | cons _ _ => rfl)
  have hq := beN_range 1 (r.take 1) (by rw [List.length_take]; omega) (hb.take 1)
  rw [← hqe] at f0
  clear hqe
  obtain ⟨R, hR⟩ : ∃ R, r.drop 1 = R := ⟨_, rfl⟩
  have HR : Hid (∀ W : World, Rd u8 W (some ⟨bk1, off1, none⟩) r → Rd u8 W A2 R) := fun W h => by rw [← hR]; exact hr2 W h
  rw [hR] at hl2 hq8 ⊢
  rw [hk] at hj2 hj3 hl2 hn
  generalize beN (r.take 1) = qi at f0 hq hq9
  have hdn : decide ((k : Int) < 1) = false := decide_eq_false (by omega)
  rw [hm]
  have hk0 : (0 : Int) < k := by omega
  have hqa : 0 ≤ qi := hq.1
  have hqb : qi < 256 := hq.2
  have hle2 : R.length ≤ c1 - 1 := by omega
  generalize c1 - 1 = c2 at hj2 hj3 hle2
  obtain ⟨k2, hk2e⟩ : ∃ k2, k - 1 = k2 := ⟨_, rfl⟩
  rw [hk2e] at hj2 hj3 hl2
  obtain ⟨A3, hi2, hi3, hcut3⟩ := Cut.ahead_l 24 5 Tryd.underlying24 size_u8 A2 k2 c2 (q : Int) q rfl .i64 (by omega)
  have hlq : decide ((k2 : Int) < qi) = false := decide_eq_false (by omega)
  have hq3 : decide (qi ≤ 0) = false := decide_eq_false (by omega)
  have hmin : min k2 q = q := by omega
  have HQ9 := hid hq9
  have HQB : Hid (q < 256) := hid (by omega)
  have HQ8 := hid hq8
  have HQ0 := hid hq0
  have HL2 := hid hl2
  have HR3 : Hid (∀ W : World, Rd u8 W A2 R → Rd u8 W A3 (R.drop q)) := fun W h => hcut3.drop h HL2.out (by have := HL2.out; omega)
  clear hm hmk hk hl2 hr2 hcut2 hR hk2e hn hb hq
  clear hcut3
  clear hq9 hq8 hq0
  go_enter Tryd.func38, Tryd.ntmps38
  go_wp2_with (first | ((with_reducible refine gate (.makeSlice 24 _ _) rfl ?_); refine wp_make rfl 24 5 _ _ rfl (.int .u8 0) 1 Tryd.underlying24 info_u8 rfl .i64 .i64 _ _ q rfl rfl HQ9.out HQ9.out (by have := HQB.out; omega) (by have := HQB.out; omega) ?_; intro w2 hrow2 hch2) | ((with_reducible refine gate (.call { callee := .builtin .copy, args := #[.tmp _, .tmp _], argTypes := #[24, 24] }) rfl ?_); refine wp_copy rfl _ _ 24 24 5 rfl Tryd.underlying24 size_u8 u8 (fun _ => rfl) w.heap.size 0 q q _ _ _ rfl rfl _ 5 hrow2 R HL2.out ((HR.out _ hr1).keep0 hch2) (by simp) ?_; intro w3 hrow3 hch3))
  go_ret3
  have h2 := HL2.out
  have h8 := HQ8.out
  have e1 : (R.take q).length = q := by rw [List.length_take]; omega
  have e2 : (R.drop q).length = k2 - q := by rw [List.length_drop]; omega
  have C3 : Ch No w w3 := hch2.freshg hch3 (Nat.le_refl _)
  have hv : Rd u8 w3 (some ⟨w.heap.size, 0, none⟩) (R.take q) := Row.rd hrow3 (by rw [List.take_zero, List.nil_append, List.drop_zero, List.take_append_of_le_length (by simp), List.take_of_length_le (by simp)])
  exact ⟨some ⟨w.heap.size, 0, none⟩, q, A3, c2 - q, by rw [e1, e2]; rfl, hv, by rw [e1]; exact Nat.le_refl _, HR3.out _ (HR.out _ (hr1.keep0 C3)), by rw [e2]; omega, C3⟩
set_option maxRecDepth 100000 in
set_option maxHeartbeats 2000000 in
theorem readN_short_2 (A : Option Addr) (c : Nat) (b : Int) (r : List Int) (w : World) (hr : Rd u8 w A (b :: r)) (hc : (b :: r).length ≤ c) (hs : Sh w) (hn : r.length < 2) (e0 : b = 197) :
    Calls Tryd.prog 38 #[.slice A (b :: r).length c, .slice none 0 0, .bool false] w (RnNo w) := by
  obtain ⟨A1, hk2, hk3, hcut⟩ := Cut.ahead_l 24 5 Tryd.underlying24 size_u8 A (b :: r).length c 1 1 rfl .i64 (by simp)
  have hr1 : Rd u8 w A1 r := hcut.drop hr rfl hc
  obtain ⟨bk, off, rfl, d0⟩ := hr.at_ 0 (by simp)
  replace d0 : World.cell? _ ⟨bk, off, none⟩ = some (.int .u8 b) := d0
  obtain ⟨m, hm⟩ : ∃ m, (b :: r).length = m := ⟨_, rfl⟩
  obtain ⟨k, hk⟩ : ∃ k, r.length = k := ⟨_, rfl⟩
  have hmk : m - 1 = k := by rw [← hm, ← hk]; simp
  have hlt : decide ((m : Int) < 1) = false := decide_eq_false (by rw [← hm, List.length_cons]; omega)
  have hlt' : (0 : Int) < m := by rw [← hm, List.length_cons]; omega
  have hck : k ≤ c - 1 := by rw [hm] at hc; omega
  rw [hm, hmk] at hk2 hk3
  generalize c - 1 = c1 at hk2 hk3 hck
  clear hcut hr
  subst e0
  rw [hk] at hn
  obtain ⟨T, v, hg⟩ := hs
  have hdn : decide ((k : Int) < 2) = true := decide_eq_true (by omega)
  rw [hm]
  clear hm hmk hk
  go_enter Tryd.func38, Tryd.ntmps38
  go_wp2_with fail
  go_ret3
  exact ⟨_, _, T, v, rfl, Ch.refl _ _⟩
set_option maxRecDepth 100000 in
set_option maxHeartbeats 2000000 in
theorem readN_cut_2 (A : Option Addr) (c : Nat) (b : Int) (r : List Int) (w : World) (hr : Rd u8 w A (b :: r)) (hc : (b :: r).length ≤ c) (hb : Byt r) (hn : 2 ≤ r.length) (hs : Sh w) (hq9 : ((r.drop 2).length : Int) < beN (r.take 2)) (e0 : b = 197) :
    Calls Tryd.prog 38 #[.slice A (b :: r).length c, .slice none 0 0, .bool false] w (RnNo w) := by
  obtain ⟨A1, hk2, hk3, hcut⟩ := Cut.ahead_l 24 5 Tryd.underlying24 size_u8 A (b :: r).length c 1 1 rfl .i64 (by simp)
  have hr1 : Rd u8 w A1 r := hcut.drop hr rfl hc
  obtain ⟨bk, off, rfl, d0⟩ := hr.at_ 0 (by simp)
  replace d0 : World.cell? _ ⟨bk, off, none⟩ = some (.int .u8 b) := d0
  obtain ⟨m, hm⟩ : ∃ m, (b :: r).length = m := ⟨_, rfl⟩
  obtain ⟨k, hk⟩ : ∃ k, r.length = k := ⟨_, rfl⟩
  have hmk : m - 1 = k := by rw [← hm, ← hk]; simp
  have hlt : decide ((m : Int) < 1) = false := decide_eq_false (by rw [← hm, List.length_cons]; omega)
  have hlt' : (0 : Int) < m := by rw [← hm, List.length_cons]; omega
  have hck : k ≤ c - 1 := by rw [hm] at hc; omega
  rw [hm, hmk] at hk2 hk3
  generalize c - 1 = c1 at hk2 hk3 hck
  clear hcut hr
  subst e0
  obtain ⟨A2, hj2, hj3, hcut2⟩ := Cut.ahead_l 24 5 Tryd.underlying24 size_u8 A1 r.length c1 2 2 rfl .i64 hn
  have hr2 := fun W (h : Rd u8 W A1 r) => hcut2.drop h rfl (by omega)
  have hl2 : (r.drop 2).length = r.length - 2 := by simp
  have hbe := be16_calls A1 c1 r w hr1 hb hn
  have hq := beN_range 2 (r.take 2) (by rw [List.length_take]; omega) (hb.take 2)
  obtain ⟨R, hR⟩ : ∃ R, r.drop 2 = R := ⟨_, rfl⟩
  have HR : Hid (∀ W : World, Rd u8 W A1 r → Rd u8 W A2 R) := fun W h => by rw [← hR]; exact hr2 W h
  rw [hR] at hl2 hq9
  rw [hk] at hbe hj2 hj3 hl2 hn
  generalize beN (r.take 2) = qi at hbe hq hq9
  have hdn : decide ((k : Int) < 2) = false := decide_eq_false (by omega)
  rw [hm]
  have hqa : 0 ≤ qi := hq.1
  have hqb : qi < 65536 := hq.2
  have hle2 : R.length ≤ c1 - 2 := by omega
  generalize c1 - 2 = c2 at hj2 hj3 hle2
  obtain ⟨k2, hk2e⟩ : ∃ k2, k - 2 = k2 := ⟨_, rfl⟩
  rw [hk2e] at hj2 hj3 hl2
  obtain ⟨T, v, hg⟩ := hs
  have hlq : decide ((k2 : Int) < qi) = true := decide_eq_true (by omega)
  have HL2 := hid hl2
  clear hm hmk hk hl2 hr2 hcut2 hR hk2e hn hb hq
  go_enter Tryd.func38, Tryd.ntmps38
  go_wp2_with fail
  refine hbe.mono ?_
  rintro e w1 ⟨rfl, hch1⟩
  have hg1 := hch1.cell0 hg
  go_wp2_with fail
  go_ret3
  exact ⟨_, _, _, _, rfl, hch1⟩
set_option maxRecDepth 100000 in
set_option maxHeartbeats 2000000 in
theorem readN_zero_2 (A : Option Addr) (c : Nat) (b : Int) (r : List Int) (w : World) (hr : Rd u8 w A (b :: r)) (hc : (b :: r).length ≤ c) (hb : Byt r) (hn : 2 ≤ r.length) (hq9 : beN (r.take 2) = 0) (e0 : b = 197) :
    Calls Tryd.prog 38 #[.slice A (b :: r).length c, .slice none 0 0, .bool false] w (RnOk [] (r.drop 2) w) := by
  obtain ⟨A1, hk2, hk3, hcut⟩ := Cut.ahead_l 24 5 Tryd.underlying24 size_u8 A (b :: r).length c 1 1 rfl .i64 (by simp)
  have hr1 : Rd u8 w A1 r := hcut.drop hr rfl hc
  obtain ⟨bk, off, rfl, d0⟩ := hr.at_ 0 (by simp)
  replace d0 : World.cell? _ ⟨bk, off, none⟩ = some (.int .u8 b) := d0
  obtain ⟨m, hm⟩ : ∃ m, (b :: r).length = m := ⟨_, rfl⟩
  obtain ⟨k, hk⟩ : ∃ k, r.length = k := ⟨_, rfl⟩
  have hmk : m - 1 = k := by rw [← hm, ← hk]; simp
  have hlt : decide ((m : Int) < 1) = false := decide_eq_false (by rw [← hm, List.length_cons]; omega)
  have hlt' : (0 : Int) < m := by rw [← hm, List.length_cons]; omega
  have hck : k ≤ c - 1 := by rw [hm] at hc; omega
  rw [hm, hmk] at hk2 hk3
  generalize c - 1 = c1 at hk2 hk3 hck
  clear hcut hr
  subst e0
  obtain ⟨A2, hj2, hj3, hcut2⟩ := Cut.ahead_l 24 5 Tryd.underlying24 size_u8 A1 r.length c1 2 2 rfl .i64 hn
  have hr2 := fun W (h : Rd u8 W A1 r) => hcut2.drop h rfl (by omega)
  have hl2 : (r.drop 2).length = r.length - 2 := by simp
  have hbe := be16_calls A1 c1 r w hr1 hb hn
  have hq := beN_range 2 (r.take 2) (by rw [List.length_take]; omega) (hb.take 2)
  obtain ⟨R, hR⟩ : ∃ R, r.drop 2 = R := ⟨_, rfl⟩
  have HR : Hid (∀ W : World, Rd u8 W A1 r → Rd u8 W A2 R) := fun W h => by rw [← hR]; exact hr2 W h
  rw [hR] at hl2 ⊢
  rw [hk] at hbe hj2 hj3 hl2 hn
  generalize beN (r.take 2) = qi at hbe hq hq9
  have hdn : decide ((k : Int) < 2) = false := decide_eq_false (by omega)
  rw [hm]
  have hqa : 0 ≤ qi := hq.1
  have hqb : qi < 65536 := hq.2
  have hle2 : R.length ≤ c1 - 2 := by omega
  generalize c1 - 2 = c2 at hj2 hj3 hle2
  obtain ⟨k2, hk2e⟩ : ∃ k2, k - 2 = k2 := ⟨_, rfl⟩
  rw [hk2e] at hj2 hj3 hl2
  obtain ⟨A3, hi2, hi3, hcut3⟩ := Cut.ahead_l 24 5 Tryd.underlying24 size_u8 A2 k2 c2 0 0 rfl .i64 (by omega)
  subst hq9
  have hlq : decide ((k2 : Int) < 0) = false := decide_eq_false (by omega)
  have HL2 := hid hl2
  have HR3 : Hid (∀ W : World, Rd u8 W A2 R → Rd u8 W A3 (R.drop 0)) := fun W h => hcut3.drop h HL2.out (by have := HL2.out; omega)
  clear hm hmk hk hl2 hr2 hcut2 hR hk2e hn hb hq
  clear hcut3
  go_enter Tryd.func38, Tryd.ntmps38
  go_wp2_with fail
  refine hbe.mono ?_
  rintro e w1 ⟨rfl, hch1⟩
  go_wp2_with ((with_reducible refine gate (.call { callee := .builtin .copy, args := #[.tmp _, .tmp _], argTypes := #[24, 24] }) rfl ?_); refine wp_copyn rfl _ _ 24 24 5 rfl Tryd.underlying24 size_u8 none 0 0 _ _ _ rfl rfl (by omega) ?_)
  go_ret3
  obtain rfl := HL2.out
  exact ⟨none, 0, A3, c2, rfl, Rd.nil _ _ _, by simp, HR3.out _ (HR.out _ (hr1.keep0 hch1)), hle2, hch1⟩
set_option maxRecDepth 100000 in
set_option maxHeartbeats 2000000 in
theorem readN_some_2 (A : Option Addr) (c : Nat) (b : Int) (r : List Int) (w : World) (hr : Rd u8 w A (b :: r)) (hc : (b :: r).length ≤ c) (hb : Byt r) (hn : 2 ≤ r.length) (q : Nat) (hq0 : 0 < q) (hq9 : beN (r.take 2) = q) (hq8 : q ≤ (r.drop 2).length) (e0 : b = 197) :
    Calls Tryd.prog 38 #[.slice A (b :: r).length c, .slice none 0 0, .bool false] w (RnOk ((r.drop 2).take q) ((r.drop 2).drop q) w) := by
  obtain ⟨A1, hk2, hk3, hcut⟩ := Cut.ahead_l 24 5 Tryd.underlying24 size_u8 A (b :: r).length c 1 1 rfl .i64 (by simp)
  have hr1 : Rd u8 w A1 r := hcut.drop hr rfl hc
  obtain ⟨bk, off, rfl, d0⟩ := hr.at_ 0 (by simp)
  replace d0 : World.cell? _ ⟨bk, off, none⟩ = some (.int .u8 b) := d0
  obtain ⟨m, hm⟩ : ∃ m, (b :: r).length = m := ⟨_, rfl⟩
  obtain ⟨k, hk⟩ : ∃ k, r.length = k := ⟨_, rfl⟩
  have hmk : m - 1 = k := by rw [← hm, ← hk]; simp
  have hlt : decide ((m : Int) < 1) = false := decide_eq_false (by rw [← hm, List.length_cons]; omega)
  have hlt' : (0 : Int) < m := by rw [← hm, List.length_cons]; omega
  have hck : k ≤ c - 1 := by rw [hm] at hc; omega
  rw [hm, hmk] at hk2 hk3
  generalize c - 1 = c1 at hk2 hk3 hck
  clear hcut hr
  subst e0
  obtain ⟨A2, hj2, hj3, hcut2⟩ := Cut.ahead_l 24 5 Tryd.underlying24 size_u8 A1 r.length c1 2 2 rfl .i64 hn
  have hr2 := fun W (h : Rd u8 W A1 r) => hcut2.drop h rfl (by omega)
  have hl2 : (r.drop 2).length = r.length - 2 := by simp
  have hbe := be16_calls A1 c1 r w hr1 hb hn
  have hq := beN_range 2 (r.take 2) (by rw [List.length_take]; omega) (hb.take 2)
  obtain ⟨R, hR⟩ : ∃ R, r.drop 2 = R := ⟨_, rfl⟩
  have HR : Hid (∀ W : World, Rd u8 W A1 r → Rd u8 W A2 R) := fun W h => by rw [← hR]; exact hr2 W h
  rw [hR] at hl2 hq8 ⊢
  rw [hk] at hbe hj2 hj3 hl2 hn
  generalize beN (r.take 2) = qi at hbe hq hq9
  have hdn : decide ((k : Int) < 2) = false := decide_eq_false (by omega)
  rw [hm]
  have hqa : 0 ≤ qi := hq.1
  have hqb : qi < 65536 := hq.2
  have hle2 : R.length ≤ c1 - 2 := by omega
  generalize c1 - 2 = c2 at hj2 hj3 hle2
  obtain ⟨k2, hk2e⟩ : ∃ k2, k - 2 = k2 := ⟨_, rfl⟩
  rw [hk2e] at hj2 hj3 hl2
  obtain ⟨A3, hi2, hi3, hcut3⟩ := Cut.ahead_l 24 5 Tryd.underlying24 size_u8 A2 k2 c2 (q : Int) q rfl .i64 (by omega)
  have hlq : decide ((k2 : Int) < qi) = false := decide_eq_false (by omega)
  have hq3 : decide (qi ≤ 0) = false := decide_eq_false (by omega)
  have hmin : min k2 q = q := by omega
  have HQ9 := hid hq9
  have HQB : Hid (q < 65536) := hid (by omega)
  have HQ8 := hid hq8
  have HQ0 := hid hq0
  have HL2 := hid hl2
  have HR3 : Hid (∀ W : World, Rd u8 W A2 R → Rd u8 W A3 (R.drop q)) := fun W h => hcut3.drop h HL2.out (by have := HL2.out; omega)
  clear hm hmk hk hl2 hr2 hcut2 hR hk2e hn hb hq
  clear hcut3
  clear hq9 hq8 hq0
  go_enter Tryd.func38, Tryd.ntmps38
  go_wp2_with fail
  refine hbe.mono ?_
  rintro e w1 ⟨rfl, hch1⟩
  go_wp2_with (first | ((with_reducible refine gate (.makeSlice 24 _ _) rfl ?_); refine wp_make rfl 24 5 _ _ rfl (.int .u8 0) 1 Tryd.underlying24 info_u8 rfl .i64 .i64 _ _ q rfl rfl HQ9.out HQ9.out (by have := HQB.out; omega) (by have := HQB.out; omega) ?_; intro w2 hrow2 hch2) | ((with_reducible refine gate (.call { callee := .builtin .copy, args := #[.tmp _, .tmp _], argTypes := #[24, 24] }) rfl ?_); refine wp_copy rfl _ _ 24 24 5 rfl Tryd.underlying24 size_u8 u8 (fun _ => rfl) w1.heap.size 0 q q _ _ _ rfl rfl _ 5 hrow2 R HL2.out ((HR.out _ (hr1.keep0 hch1)).keep0 hch2) (by simp) ?_; intro w3 hrow3 hch3))
  go_ret3
  have h2 := HL2.out
  have h8 := HQ8.out
  have e1 : (R.take q).length = q := by rw [List.length_take]; omega
  have e2 : (R.drop q).length = k2 - q := by rw [List.length_drop]; omega
  have C3 : Ch No w w3 := (hch1.no_no hch2).freshg hch3 hch1.size
  have hv : Rd u8 w3 (some ⟨w1.heap.size, 0, none⟩) (R.take q) := Row.rd hrow3 (by rw [List.take_zero, List.nil_append, List.drop_zero, List.take_append_of_le_length (by simp), List.take_of_length_le (by simp)])
  exact ⟨some ⟨w1.heap.size, 0, none⟩, q, A3, c2 - q, by rw [e1, e2]; rfl, hv, by rw [e1]; exact Nat.le_refl _, HR3.out _ (HR.out _ (hr1.keep0 C3)), by rw [e2]; omega, C3⟩
set_option maxRecDepth 100000 in
set_option maxHeartbeats 2000000 in
theorem readN_short_4 (A : Option Addr) (c : Nat) (b : Int) (r : List Int) (w : World) (hr : Rd u8 w A (b :: r)) (hc : (b :: r).length ≤ c) (hs : Sh w) (hn : r.length < 4) (e0 : b = 198) :
    Calls Tryd.prog 38 #[.slice A (b :: r).length c, .slice none 0 0, .bool false] w (RnNo w) := by
  obtain ⟨A1, hk2, hk3, hcut⟩ := Cut.ahead_l 24 5 Tryd.underlying24 size_u8 A (b :: r).length c 1 1 rfl .i64 (by simp)
  have hr1 : Rd u8 w A1 r := hcut.drop hr rfl hc
  obtain ⟨bk, off, rfl, d0⟩ := hr.at_ 0 (by simp)
  replace d0 : World.cell? _ ⟨bk, off, none⟩ = some (.int .u8 b) := d0
  obtain ⟨m, hm⟩ : ∃ m, (b :: r).length = m := ⟨_, rfl⟩
  obtain ⟨k, hk⟩ : ∃ k, r.length = k := ⟨_, rfl⟩
  have hmk : m - 1 = k := by rw [← hm, ← hk]; simp
  have hlt : decide ((m : Int) < 1) = false := decide_eq_false (by rw [← hm, List.length_cons]; omega)
  have hlt' : (0 : Int) < m := by rw [← hm, List.length_cons]; omega
  have hck : k ≤ c - 1 := by rw [hm] at hc; omega
  rw [hm, hmk] at hk2 hk3
  generalize c - 1 = c1 at hk2 hk3 hck
  clear hcut hr
  subst e0
  rw [hk] at hn
  obtain ⟨T, v, hg⟩ := hs
  have hdn : decide ((k : Int) < 4) = true := decide_eq_true (by omega)
  rw [hm]
  clear hm hmk hk
  go_enter Tryd.func38, Tryd.ntmps38
  go_wp2_with fail
  go_ret3
  exact ⟨_, _, T, v, rfl, Ch.refl _ _⟩
set_option maxRecDepth 100000 in
set_option maxHeartbeats 2000000 in
theorem readN_cut_4 (A : Option Addr) (c : Nat) (b : Int) (r : List Int) (w : World) (hr : Rd u8 w A (b :: r)) (hc : (b :: r).length ≤ c) (hb : Byt r) (hn : 4 ≤ r.length) (hs : Sh w) (hq9 : ((r.drop 4).length : Int) < beN (r.take 4)) (e0 : b = 198) :
    Calls Tryd.prog 38 #[.slice A (b :: r).length c, .slice none 0 0, .bool false] w (RnNo w) := by
  obtain ⟨A1, hk2, hk3, hcut⟩ := Cut.ahead_l 24 5 Tryd.underlying24 size_u8 A (b :: r).length c 1 1 rfl .i64 (by simp)
  have hr1 : Rd u8 w A1 r := hcut.drop hr rfl hc
  obtain ⟨bk, off, rfl, d0⟩ := hr.at_ 0 (by simp)
  replace d0 : World.cell? _ ⟨bk, off, none⟩ = some (.int .u8 b) := d0
  obtain ⟨m, hm⟩ : ∃ m, (b :: r).length = m := ⟨_, rfl⟩
  obtain ⟨k, hk⟩ : ∃ k, r.length = k := ⟨_, rfl⟩
  have hmk : m - 1 = k := by rw [← hm, ← hk]; simp
  have hlt : decide ((m : Int) < 1) = false := decide_eq_false (by rw [← hm, List.length_cons]; omega)
  have hlt' : (0 : Int) < m := by rw [← hm, List.length_cons]; omega
  have hck : k ≤ c - 1 := by rw [hm] at hc; omega
  rw [hm, hmk] at hk2 hk3
  generalize c - 1 = c1 at hk2 hk3 hck
  clear hcut hr
  subst e0
  obtain ⟨A2, hj2, hj3, hcut2⟩ := Cut.ahead_l 24 5 Tryd.underlying24 size_u8 A1 r.length c1 4 4 rfl .i64 hn
  have hr2 := fun W (h : Rd u8 W A1 r) => hcut2.drop h rfl (by omega)
  have hl2 : (r.drop 4).length = r.length - 4 := by simp
  have hbe := be32_calls A1 c1 r w hr1 hb hn
  have hq := beN_range 4 (r.take 4) (by rw [List.length_take]; omega) (hb.take 4)
  obtain ⟨R, hR⟩ : ∃ R, r.drop 4 = R := ⟨_, rfl⟩
  have HR : Hid (∀ W : World, Rd u8 W A1 r → Rd u8 W A2 R) := fun W h => by rw [← hR]; exact hr2 W h
  rw [hR] at hl2 hq9
  rw [hk] at hbe hj2 hj3 hl2 hn
  generalize beN (r.take 4) = qi at hbe hq hq9
  have hdn : decide ((k : Int) < 4) = false := decide_eq_false (by omega)
  rw [hm]
  have hqa : 0 ≤ qi := hq.1
  have hqb : qi < 4294967296 := hq.2
  have hle2 : R.length ≤ c1 - 4 := by omega
  generalize c1 - 4 = c2 at hj2 hj3 hle2
  obtain ⟨k2, hk2e⟩ : ∃ k2, k - 4 = k2 := ⟨_, rfl⟩
  rw [hk2e] at hj2 hj3 hl2
  obtain ⟨T, v, hg⟩ := hs
  have hlq : decide ((k2 : Int) < qi) = true := decide_eq_true (by omega)
  have HL2 := hid hl2
  clear hm hmk hk hl2 hr2 hcut2 hR hk2e hn hb hq
  go_enter Tryd.func38, Tryd.ntmps38
  go_wp2_with fail
  refine hbe.mono ?_
  rintro e w1 ⟨rfl, hch1⟩
  have hg1 := hch1.cell0 hg
  go_wp2_with fail
  go_ret3
  exact ⟨_, _, _, _, rfl, hch1⟩
set_option maxRecDepth 100000 in
set_option maxHeartbeats 2000000 in
theorem readN_zero_4 (A : Option Addr) (c : Nat) (b : Int) (r : List Int) (w : World) (hr : Rd u8 w A (b :: r)) (hc : (b :: r).length ≤ c) (hb : Byt r) (hn : 4 ≤ r.length) (hq9 : beN (r.take 4) = 0) (e0 : b = 198) :
    Calls Tryd.prog 38 #[.slice A (b :: r).length c, .slice none 0 0, .bool false] w (RnOk [] (r.drop 4) w) := by
  obtain ⟨A1, hk2, hk3, hcut⟩ := Cut.ahead_l 24 5 Tryd.underlying24 size_u8 A (b :: r).length c 1 1 rfl .i64 (by simp)
  have hr1 : Rd u8 w A1 r := hcut.drop hr rfl hc
  obtain ⟨bk, off, rfl, d0⟩ := hr.at_ 0 (by simp)
  replace d0 : World.cell? _ ⟨bk, off, none⟩ = some (.int .u8 b) := d0
  obtain ⟨m, hm⟩ : ∃ m, (b :: r).length = m := ⟨_, rfl⟩
  obtain ⟨k, hk⟩ : ∃ k, r.length = k := ⟨_, rfl⟩
  have hmk : m - 1 = k := by rw [← hm, ← hk]; simp
  have hlt : decide ((m : Int) < 1) = false := decide_eq_false (by rw [← hm, List.length_cons]; omega)
  have hlt' : (0 : Int) < m := by rw [← hm, List.length_cons]; omega
  have hck : k ≤ c - 1 := by rw [hm] at hc; omega
  rw [hm, hmk] at hk2 hk3
  generalize c - 1 = c1 at hk2 hk3 hck
  clear hcut hr
  subst e0
  obtain ⟨A2, hj2, hj3, hcut2⟩ := Cut.ahead_l 24 5 Tryd.underlying24 size_u8 A1 r.length c1 4 4 rfl .i64 hn
  have hr2 := fun W (h : Rd u8 W A1 r) => hcut2.drop h rfl (by omega)
  have hl2 : (r.drop 4).length = r.length - 4 := by simp
  have hbe := be32_calls A1 c1 r w hr1 hb hn
  have hq := beN_range 4 (r.take 4) (by rw [List.length_take]; omega) (hb.take 4)
  obtain ⟨R, hR⟩ : ∃ R, r.drop 4 = R := ⟨_, rfl⟩
  have HR : Hid (∀ W : World, Rd u8 W A1 r → Rd u8 W A2 R) := fun W h => by rw [← hR]; exact hr2 W h
  rw [hR] at hl2 ⊢
  rw [hk] at hbe hj2 hj3 hl2 hn
  generalize beN (r.take 4) = qi at hbe hq hq9
  have hdn : decide ((k : Int) < 4) = false := decide_eq_false (by omega)
  rw [hm]
  have hqa : 0 ≤ qi := hq.1
  have hqb : qi < 4294967296 := hq.2
  have hle2 : R.length ≤ c1 - 4 := by omega
  generalize c1 - 4 = c2 at hj2 hj3 hle2
  obtain ⟨k2, hk2e⟩ : ∃ k2, k - 4 = k2 := ⟨_, rfl⟩
  rw [hk2e] at hj2 hj3 hl2
  obtain ⟨A3, hi2, hi3, hcut3⟩ := Cut.ahead_l 24 5 Tryd.underlying24 size_u8 A2 k2 c2 0 0 rfl .i64 (by omega)
  subst hq9
  have hlq : decide ((k2 : Int) < 0) = false := decide_eq_false (by omega)
  have HL2 := hid hl2
  have HR3 : Hid (∀ W : World, Rd u8 W A2 R → Rd u8 W A3 (R.drop 0)) := fun W h => hcut3.drop h HL2.out (by have := HL2.out; omega)
  clear hm hmk hk hl2 hr2 hcut2 hR hk2e hn hb hq
  clear hcut3
  go_enter Tryd.func38, Tryd.ntmps38
  go_wp2_with fail
  refine hbe.mono ?_
  rintro e w1 ⟨rfl, hch1⟩
  go_wp2_with ((with_reducible refine gate (.call { callee := .builtin .copy, args := #[.tmp _, .tmp _], argTypes := #[24, 24] }) rfl ?_); refine wp_copyn rfl _ _ 24 24 5 rfl Tryd.underlying24 size_u8 none 0 0 _ _ _ rfl rfl (by omega) ?_)
  go_ret3
  obtain rfl := HL2.out
  exact ⟨none, 0, A3, c2, rfl, Rd.nil _ _ _, by simp, HR3.out _ (HR.out _ (hr1.keep0 hch1)), hle2, hch1⟩
set_option maxRecDepth 100000 in
set_option maxHeartbeats 2000000 in
theorem readN_some_4 (A : Option Addr) (c : Nat) (b : Int) (r : List Int) (w : World) (hr : Rd u8 w A (b :: r)) (hc : (b :: r).length ≤ c) (hb : Byt r) (hn : 4 ≤ r.length) (q : Nat) (hq0 : 0 < q) (hq9 : beN (r.take 4) = q) (hq8 : q ≤ (r.drop 4).length) (e0 : b = 198) :
    Calls Tryd.prog 38 #[.slice A (b :: r).length c, .slice none 0 0, .bool false] w (RnOk ((r.drop 4).take q) ((r.drop 4).drop q) w) := by
  obtain ⟨A1, hk2, hk3, hcut⟩ := Cut.ahead_l 24 5 Tryd.underlying24 size_u8 A (b :: r).length c 1 1 rfl .i64 (by simp)
  have hr1 : Rd u8 w A1 r := hcut.drop hr rfl hc
  obtain ⟨bk, off, rfl, d0⟩ := hr.at_ 0 (by simp)
  replace d0 : World.cell? _ ⟨bk, off, none⟩ = some (.int .u8 b) := d0
  obtain ⟨m, hm⟩ : ∃ m, (b :: r).length = m := ⟨_, rfl⟩
  obtain ⟨k, hk⟩ : ∃ k, r.length = k := ⟨_, rfl⟩
  have hmk : m - 1 = k := by rw [← hm, ← hk]; simp
  have hlt : decide ((m : Int) < 1) = false := decide_eq_false (by rw [← hm, List.length_cons]; omega)
  have hlt' : (0 : Int) < m := by rw [← hm, List.length_cons]; omega
  have hck : k ≤ c - 1 := by rw [hm] at hc; omega
  rw [hm, hmk] at hk2 hk3
  generalize c - 1 = c1 at hk2 hk3 hck
  clear hcut hr
  subst e0
  obtain ⟨A2, hj2, hj3, hcut2⟩ := Cut.ahead_l 24 5 Tryd.underlying24 size_u8 A1 r.length c1 4 4 rfl .i64 hn
  have hr2 := fun W (h : Rd u8 W A1 r) => hcut2.drop h rfl (by omega)
  have hl2 : (r.drop 4).length = r.length - 4 := by simp
  have hbe := be32_calls A1 c1 r w hr1 hb hn
  have hq := beN_range 4 (r.take 4) (by rw [List.length_take]; omega) (hb.take 4)
  obtain ⟨R, hR⟩ : ∃ R, r.drop 4 = R := ⟨_, rfl⟩
  have HR : Hid (∀ W : World, Rd u8 W A1 r → Rd u8 W A2 R) := fun W h => by rw [← hR]; exact hr2 W h
  rw [hR] at hl2 hq8 ⊢
  rw [hk] at hbe hj2 hj3 hl2 hn
  generalize beN (r.take 4) = qi at hbe hq hq9
  have hdn : decide ((k : Int) < 4) = false := decide_eq_false (by omega)
  rw [hm]
  have hqa : 0 ≤ qi := hq.1
  have hqb : qi < 4294967296 := hq.2
  have hle2 : R.length ≤ c1 - 4 := by omega
  generalize c1 - 4 = c2 at hj2 hj3 hle2
  obtain ⟨k2, hk2e⟩ : ∃ k2, k - 4 = k2 := ⟨_, rfl⟩
  rw [hk2e] at hj2 hj3 hl2
  obtain ⟨A3, hi2, hi3, hcut3⟩ := Cut.ahead_l 24 5 Tryd.underlying24 size_u8 A2 k2 c2 (q : Int) q rfl .i64 (by omega)
  have hlq : decide ((k2 : Int) < qi) = false := decide_eq_false (by omega)
  have hq3 : decide (qi ≤ 0) = false := decide_eq_false (by omega)
  have hmin : min k2 q = q := by omega
  have HQ9 := hid hq9
  have HQB : Hid (q < 4294967296) := hid (by omega)
  have HQ8 := hid hq8
  have HQ0 := hid hq0
  have HL2 := hid hl2
  have HR3 : Hid (∀ W : World, Rd u8 W A2 R → Rd u8 W A3 (R.drop q)) := fun W h => hcut3.drop h HL2.out (by have := HL2.out; omega)
  clear hm hmk hk hl2 hr2 hcut2 hR hk2e hn hb hq
  clear hcut3
  clear hq9 hq8 hq0
  go_enter Tryd.func38, Tryd.ntmps38
  go_wp2_with fail
  refine hbe.mono ?_
  rintro e w1 ⟨rfl, hch1⟩
  go_wp2_with (first | ((with_reducible refine gate (.makeSlice 24 _ _) rfl ?_); refine wp_make rfl 24 5 _ _ rfl (.int .u8 0) 1 Tryd.underlying24 info_u8 rfl .i64 .i64 _ _ q rfl rfl HQ9.out HQ9.out (by have := HQB.out; omega) (by have := HQB.out; omega) ?_; intro w2 hrow2 hch2) | ((with_reducible refine gate (.call { callee := .builtin .copy, args := #[.tmp _, .tmp _], argTypes := #[24, 24] }) rfl ?_); refine wp_copy rfl _ _ 24 24 5 rfl Tryd.underlying24 size_u8 u8 (fun _ => rfl) w1.heap.size 0 q q _ _ _ rfl rfl _ 5 hrow2 R HL2.out ((HR.out _ (hr1.keep0 hch1)).keep0 hch2) (by simp) ?_; intro w3 hrow3 hch3))
  go_ret3
  have h2 := HL2.out
  have h8 := HQ8.out
  have e1 : (R.take q).length = q := by rw [List.length_take]; omega
  have e2 : (R.drop q).length = k2 - q := by rw [List.length_drop]; omega
  have C3 : Ch No w w3 := (hch1.no_no hch2).freshg hch3 hch1.size
  have hv : Rd u8 w3 (some ⟨w1.heap.size, 0, none⟩) (R.take q) := Row.rd hrow3 (by rw [List.take_zero, List.nil_append, List.drop_zero, List.take_append_of_le_length (by simp), List.take_of_length_le (by simp)])
  exact ⟨some ⟨w1.heap.size, 0, none⟩, q, A3, c2 - q, by rw [e1, e2]; rfl, hv, by rw [e1]; exact Nat.le_refl _, HR3.out _ (HR.out _ (hr1.keep0 C3)), by rw [e2]; omega, C3⟩

set_option maxRecDepth 100000 in
set_option maxHeartbeats 1000000 in
theorem readN_other (A : Option Addr) (c : Nat) (b : Int) (r : List Int) (w : World) (hr : Rd u8 w A (b :: r)) (hc : (b :: r).length ≤ c) (h0 : 0 ≤ b) (h1 : b < 256) (h6 : b ≠ 196) (h7 : b ≠ 197) (h8 : b ≠ 198) :
    Calls Tryd.prog 38 #[.slice A (b :: r).length c, .slice none 0 0, .bool false] w (RnNo w) := by
  obtain ⟨A1, hk2, hk3, hcut⟩ := Cut.ahead_l 24 5 Tryd.underlying24 size_u8 A (b :: r).length c 1 1 rfl .i64 (by simp)
  have hr1 : Rd u8 w A1 r := hcut.drop hr rfl hc
  obtain ⟨bk, off, rfl, d0⟩ := hr.at_ 0 (by simp)
  replace d0 : World.cell? _ ⟨bk, off, none⟩ = some (.int .u8 b) := d0
  obtain ⟨m, hm⟩ : ∃ m, (b :: r).length = m := ⟨_, rfl⟩
  obtain ⟨k, hk⟩ : ∃ k, r.length = k := ⟨_, rfl⟩
  have hmk : m - 1 = k := by rw [← hm, ← hk]; simp
  have hlt : decide ((m : Int) < 1) = false := decide_eq_false (by rw [← hm, List.length_cons]; omega)
  have hlt' : (0 : Int) < m := by rw [← hm, List.length_cons]; omega
  have hck : k ≤ c - 1 := by rw [hm] at hc; omega
  rw [hm, hmk] at hk2 hk3
  generalize c - 1 = c1 at hk2 hk3 hck
  clear hcut hr
  have hbp := fun t => badPrefix_calls t b w h0 h1
  have x6 : (b == 196) = false := beq_eq_false_iff_ne.2 h6
  have x7 : (b == 197) = false := beq_eq_false_iff_ne.2 h7
  have x8 : (b == 198) = false := beq_eq_false_iff_ne.2 h8
  rw [hm]
  clear hm hmk hk h6 h7 h8
  go_enter Tryd.func38, Tryd.ntmps38
  go_wp2_with fail
  refine (hbp _).mono ?_
  rintro e w1 ⟨T, v, rfl, hch1⟩
  go_wp2_with fail
  go_ret3
  exact ⟨_, _, T, v, rfl, hch1⟩

theorem readM_no (s : Value) (w : World) (h : Calls Tryd.prog 38 #[s, .slice none 0 0, .bool false] w (RnNo w)) : Calls Tryd.prog 22 #[s, .slice none 0 0] w (RnNo w) := by
  go_enter Tryd.func22, Tryd.ntmps22
  go_wp2_with fail
  refine h.mono ?_
  rintro e w1 ⟨i, o, T, v, rfl, hch1⟩
  go_wp2_with fail
  go_ret3
  exact ⟨_, _, _, _, rfl, hch1⟩
theorem readM_ok (s : Value) (x r : List Int) (w : World) (h : Calls Tryd.prog 38 #[s, .slice none 0 0, .bool false] w (RnOk x r w)) : Calls Tryd.prog 22 #[s, .slice none 0 0] w (RnOk x r w) := by
  go_enter Tryd.func22, Tryd.ntmps22
  go_wp2_with fail
  refine h.mono ?_
  rintro e w1 ⟨A1, c1, A2, c2, rfl, h1, h2, h3, h4, h5⟩
  go_wp2_with fail
  go_ret3
  exact ⟨_, _, _, _, rfl, h1, h2, h3, h4, h5⟩
def BinNo (w : World) (e : Ending) (w' : World) : Prop := e = .returned (.tuple #[.slice none 0 0, .slice none 0 0, .bool false]) ∧ Ch No w w'
def BinOk (x r : List Int) (w : World) (e : Ending) (w' : World) : Prop := ∃ v1 v2, e = .returned (.tuple #[v1, v2, .bool true]) ∧ Ow 5 u8 w' v1 x ∧ Ow 5 u8 w' v2 r ∧ Ch No w w'
set_option maxRecDepth 100000 in
theorem getBin_no (s : Value) (w : World) (h : Calls Tryd.prog 22 #[s, .slice none 0 0] w (RnNo w)) : Calls Tryd.prog 12 #[s] w (BinNo w) := by
  go_enter Tryd.func12, Tryd.ntmps12
  go_wp2_with fail
  refine h.mono ?_
  rintro e w1 ⟨i, o, T, v, rfl, hch1⟩
  go_wp2_with fail
  go_ret3
  exact ⟨rfl, hch1⟩
set_option maxRecDepth 100000 in
theorem getBin_ok (s : Value) (x r : List Int) (w : World) (hx : x.length ≤ 35184372088832) (hl : r.length ≤ 35184372088832) (h : Calls Tryd.prog 22 #[s, .slice none 0 0] w (RnOk x r w)) : Calls Tryd.prog 12 #[s] w (BinOk x r w) := by
  go_enter Tryd.func12, Tryd.ntmps12
  go_wp2_with fail
  refine h.mono ?_
  rintro e w1 ⟨A1, c1, A2, c2, rfl, h1, h2, h3, h4, hch1⟩
  go_wp2_with fail
  refine (copied_calls A1 c1 x w1 h1 hx).mono ?_
  rintro e w2 ⟨v2, rfl, ho2, _, hch2⟩
  go_wp2_with fail
  refine (copied_calls A2 c2 r w2 (h3.keep0 hch2) hl).mono ?_
  rintro e w3 ⟨v3, rfl, ho3, _, hch3⟩
  go_wp2_with fail
  go_ret3
  exact ⟨v2, v3, rfl, ho2.keep0 hch3, ho3, (hch1.no_no hch2).no_no hch3⟩
end Go.Proofs.YtcipapjlkibleaaDoor
