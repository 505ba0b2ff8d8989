/- The walks of MessagePack's reader of extensions. No condition. -/
import Derived.Test.YtooifcdkpddlmaaDoorPutH
import Derived.Deep.RegionLaw
namespace Go.Proofs.YtooifcdkpddlmaaDoor
set_option linter.unusedVariables false
set_option linter.unusedSimpArgs false
open Go.RowKit

theorem Cut.ahead_lhm {P : Program} (t e : TypeId) (ht : P.underlying t = some (.slice e)) (hsz : (P.info? e).map (·.size) = some 1) (A : Option Addr) (n c : Nat) (i i' : Int) (L H : Nat) (hi : i = (L : Int)) (hi' : i' = (H : Int)) (k k' : IntKind) (hL : L ≤ H) (hH : H ≤ c) :
    ∃ A', (∀ W : World, (Instr.sliceAt t (.slice A n c) (some (.int k i)) (some (.int k' i')) (some (.int k' i'))).run P W = .ok (.slice A' (H - L) (H - L)) W) ∧ (∀ W : World, (Instr.slice t (.slice A n c) (some (.int k i)) (some (.int k' i')) (some (.int k' i'))).run P W = .ok (.slice A' (H - L) (H - L)) W) ∧ (∀ {α : Type} (f : α → Value) (w : World) (l : List α), Rd f w A l → l.length = n → n ≤ c → H ≤ n → Rd f w A' ((l.take H).drop L)) := by
  subst hi; subst hi'
  obtain ⟨inf, hinf, hs⟩ := Option.map_eq_some_iff.1 hsz
  have hel : P.elem t = e := by simp [Program.elem, ht]
  have hu : P.underlying t = some (.slice (P.elem t)) := by rw [hel]; exact ht
  have h0 : ∀ W : World, (Instr.slice t (.slice A n c) (some (.int k (L : Int))) (some (.int k' (H : Int))) (some (.int k' (H : Int)))).run P W = .ok (.slice (if H = L then A else A.map (·.add L)) (H - L) (H - L)) W := fun W => by
    rw [run_slice_lhm W t A n c hu k k' k' (L : Int) (H : Int) (H : Int) (Int.natCast_nonneg _) (by omega) (by omega) (by omega), hel]
    simp [sizeOf, typeInfo, hinf, hs, sliced, Result.andThen]
  refine ⟨_, fun W => by rw [run_sliceAt_slice W t _ _ _ _ hu, h0], h0, fun f w l hr hl hc hH' => ?_⟩
  by_cases hHL : H = L
  · subst hHL
    rw [List.drop_take, Nat.sub_self, List.take_zero]
    exact Rd.nil _ _ _
  · rw [if_neg hHL]
    have h2 := (hr.take H).drop L H (by rw [List.length_take]; omega)
    rw [if_neg hHL] at h2
    exact h2
def RxNo (w : World) (e : Ending) (w' : World) : Prop := ∃ i o d T v, e = .returned (.tuple #[.int .i8 i, o, d, .iface T v]) ∧ Ch No w w'
def RxOk (z : Int) (x r : List Int) (w : World) (e : Ending) (w' : World) : Prop := ∃ A c A' c', e = .returned (.tuple #[.int .i8 z, .slice A' r.length c', .slice A x.length c, .nilIface]) ∧ Rd u8 w' A x ∧ x.length ≤ c ∧ Rd u8 w' A' r ∧ r.length ≤ c' ∧ Ch No w w'
theorem RxOk.fin {w W : World} {A2 A3 : Option Addr} {k2 c2 q : Nat} {z : Int} {x r : List Int} (h1 : Rd u8 w A2 r ∧ Rd u8 w A3 x) (h2 : x.length = q ∧ r.length = k2 ∧ k2 ≤ c2) (C : Ch No w W) : RxOk z x r w (.returned (.tuple #[.int .i8 z, .slice A2 k2 c2, .slice A3 q q, .nilIface])) W := by
  obtain ⟨rfl, rfl, h3⟩ := h2
  exact ⟨A3, x.length, A2, c2, rfl, h1.2.keep0 C, Nat.le_refl _, h1.1.keep0 C, h3, C⟩
set_option maxRecDepth 100000 in
set_option maxHeartbeats 2000000 in
theorem rx_ok_212 (A : Option Addr) (c : Nat) (y z : Int) (R : List Int) (w : World) (hr : Rd u8 w A (212 :: y :: R)) (hc : (212 :: y :: R).length ≤ c) (hy : IntKind.i8.wrap y = z) (h8 : 1 ≤ R.length) :
    Calls Tryd.prog 39 #[.slice A (212 :: y :: R).length c] w (RxOk z (R.take 1) (R.drop 1) w) := by
  obtain ⟨M, hM⟩ : ∃ M, (212 :: y :: R).length = M := ⟨_, rfl⟩
  have hMR : M = 2 + R.length := by rw [← hM]; simp; omega
  rw [hM] at hc ⊢
  obtain ⟨A1, hj2, hj3, hcut1⟩ := Cut.ahead_l 24 5 Tryd.underlying24 size_u8 A M c 2 2 rfl .i64 (by omega)
  obtain ⟨k, hk⟩ : ∃ k, M - 2 = k := ⟨_, rfl⟩
  rw [hk] at hj2 hj3
  obtain ⟨A2, hi2, hi3, hcut2⟩ := Cut.ahead_l 24 5 Tryd.underlying24 size_u8 A M c 3 3 (by omega) .i64 (by omega)
  obtain ⟨A3, hl2, hl3, hcut3⟩ := Cut.ahead_lhm 24 5 Tryd.underlying24 size_u8 A M c 2 3 2 3 rfl (by omega) .i64 .i64 (by omega) (by omega)
  obtain ⟨k2, hk2⟩ : ∃ k2, M - 3 = k2 := ⟨_, rfl⟩
  obtain ⟨c2, hc2⟩ : ∃ c2, c - 3 = c2 := ⟨_, rfl⟩
  rw [hk2, hc2] at hi2 hi3
  rw [show 3 - 2 = 1 by omega] at hl2 hl3
  have hrd2 : Rd u8 w A2 (R.drop 1) := by
    have h := hcut2.drop hr hM hc
    rwa [show (212 :: y :: R).drop 3 = R.drop 1 by (rfl)] at h
  have hrd3 : Rd u8 w A3 (R.take 1) := by
    have h := hcut3 u8 w _ hr hM hc (by omega)
    rwa [List.drop_take, show 3 - 2 = 1 by omega] at h
  have HRD := hid (And.intro hrd2 hrd3)
  have HL := hid (show (R.take 1).length = 1 ∧ (R.drop 1).length = k2 ∧ k2 ≤ c2 from ⟨by rw [List.length_take]; omega, by rw [List.length_drop]; omega, by omega⟩)
  generalize R.take 1 = X at hrd2 hrd3 HRD HL ⊢
  generalize R.drop 1 = Y at hrd2 hrd3 HRD HL ⊢
  obtain ⟨bk, o, rfl, d0⟩ := hr.at_ 0 (by simp)
  obtain ⟨bk', o', he, d1⟩ := hr.at_ 1 (by simp)
  injection he with he
  injection he with he1 he2
  subst he1; subst he2
  replace d0 : World.cell? _ ⟨bk, o, none⟩ = some (.int .u8 212) := d0
  replace d1 : World.cell? _ ⟨bk, o + 1, none⟩ = some (.int .u8 y) := d1
  have t3 : decide ((M : Int) < 3) = false := decide_eq_false (by omega)
  have b0 : (0 : Int) < M := by omega
  have b1 : (1 : Int) < M := by omega
  have t9 : decide ((k : Int) < 1) = false := decide_eq_false (by omega)
  clear hr hc hM hMR hk h8 hcut1 hcut2 hcut3 hk2 hc2 hrd2 hrd3
  go_enter Tryd.func39, Tryd.ntmps39
  go_wp2_with (go_quiet (fail))
  refine bodyPost_ret (v := .tuple #[.int .i8 z, .slice A2 k2 c2, .slice A3 1 1, .nilIface]) ?_ rfl ?_
  · (simp [results, Tryd.results39, go_sem]; done)
  · exact RxOk.fin HRD.out HL.out (by repeat (first | exact Ch.refl _ _ | apply Ch.drewN | apply Ch.drew))
set_option maxRecDepth 100000 in
set_option maxHeartbeats 2000000 in
theorem rx_cut_212 (A : Option Addr) (c : Nat) (y z : Int) (R : List Int) (w : World) (hr : Rd u8 w A (212 :: y :: R)) (hc : (212 :: y :: R).length ≤ c) (hy : IntKind.i8.wrap y = z) (hs : Sh w) (h8 : R.length < 1) :
    Calls Tryd.prog 39 #[.slice A (212 :: y :: R).length c] w (RxNo w) := by
  obtain ⟨M, hM⟩ : ∃ M, (212 :: y :: R).length = M := ⟨_, rfl⟩
  have hMR : M = 2 + R.length := by rw [← hM]; simp; omega
  rw [hM] at hc ⊢
  obtain ⟨A1, hj2, hj3, hcut1⟩ := Cut.ahead_l 24 5 Tryd.underlying24 size_u8 A M c 2 2 rfl .i64 (by omega)
  obtain ⟨k, hk⟩ : ∃ k, M - 2 = k := ⟨_, rfl⟩
  rw [hk] at hj2 hj3
  obtain ⟨T, v, hg⟩ := hs
  obtain ⟨bk, o, rfl, d0⟩ := hr.at_ 0 (by simp)
  obtain ⟨bk', o', he, d1⟩ := hr.at_ 1 (by simp)
  injection he with he
  injection he with he1 he2
  subst he1; subst he2
  replace d0 : World.cell? _ ⟨bk, o, none⟩ = some (.int .u8 212) := d0
  replace d1 : World.cell? _ ⟨bk, o + 1, none⟩ = some (.int .u8 y) := d1
  skip
  have b0 : (0 : Int) < M := by omega
  have b1 : (1 : Int) < M := by omega
  have t9 : decide ((k : Int) < 1) = true := decide_eq_true (by omega)
  obtain ⟨bb, hbb⟩ : ∃ bb : Bool, decide ((M : Int) < 3) = bb := ⟨_, rfl⟩
  clear hr hc hM hMR hk h8 hcut1
  cases bb
  · skip
    go_enter Tryd.func39, Tryd.ntmps39
    go_wp2_with (go_quiet (fail))
    refine bodyPost_ret (v := .tuple #[.int .i8 0, .slice (some ⟨bk, o, none⟩) M c, .slice none 0 0, .iface T v]) ?_ rfl ?_
    · (simp [results, Tryd.results39, go_sem]; done)
    · exact ⟨_, _, _, _, _, rfl, (by repeat (first | exact Ch.refl _ _ | apply Ch.drewN | apply Ch.drew))⟩
  · skip
    go_enter Tryd.func39, Tryd.ntmps39
    go_wp2_with (go_quiet (fail))
    refine bodyPost_ret (v := .tuple #[.int .i8 0, .slice (some ⟨bk, o, none⟩) M c, .slice none 0 0, .iface T v]) ?_ rfl ?_
    · (simp [results, Tryd.results39, go_sem]; done)
    · exact ⟨_, _, _, _, _, rfl, (by repeat (first | exact Ch.refl _ _ | apply Ch.drewN | apply Ch.drew))⟩
set_option maxRecDepth 100000 in
set_option maxHeartbeats 2000000 in
theorem rx_ok_213 (A : Option Addr) (c : Nat) (y z : Int) (R : List Int) (w : World) (hr : Rd u8 w A (213 :: y :: R)) (hc : (213 :: y :: R).length ≤ c) (hy : IntKind.i8.wrap y = z) (h8 : 2 ≤ R.length) :
    Calls Tryd.prog 39 #[.slice A (213 :: y :: R).length c] w (RxOk z (R.take 2) (R.drop 2) w) := by
  obtain ⟨M, hM⟩ : ∃ M, (213 :: y :: R).length = M := ⟨_, rfl⟩
  have hMR : M = 2 + R.length := by rw [← hM]; simp; omega
  rw [hM] at hc ⊢
  obtain ⟨A1, hj2, hj3, hcut1⟩ := Cut.ahead_l 24 5 Tryd.underlying24 size_u8 A M c 2 2 rfl .i64 (by omega)
  obtain ⟨k, hk⟩ : ∃ k, M - 2 = k := ⟨_, rfl⟩
  rw [hk] at hj2 hj3
  obtain ⟨A2, hi2, hi3, hcut2⟩ := Cut.ahead_l 24 5 Tryd.underlying24 size_u8 A M c 4 4 (by omega) .i64 (by omega)
  obtain ⟨A3, hl2, hl3, hcut3⟩ := Cut.ahead_lhm 24 5 Tryd.underlying24 size_u8 A M c 2 4 2 4 rfl (by omega) .i64 .i64 (by omega) (by omega)
  obtain ⟨k2, hk2⟩ : ∃ k2, M - 4 = k2 := ⟨_, rfl⟩
  obtain ⟨c2, hc2⟩ : ∃ c2, c - 4 = c2 := ⟨_, rfl⟩
  rw [hk2, hc2] at hi2 hi3
  rw [show 4 - 2 = 2 by omega] at hl2 hl3
  have hrd2 : Rd u8 w A2 (R.drop 2) := by
    have h := hcut2.drop hr hM hc
    rwa [show (213 :: y :: R).drop 4 = R.drop 2 by (rfl)] at h
  have hrd3 : Rd u8 w A3 (R.take 2) := by
    have h := hcut3 u8 w _ hr hM hc (by omega)
    rwa [List.drop_take, show 4 - 2 = 2 by omega] at h
  have HRD := hid (And.intro hrd2 hrd3)
  have HL := hid (show (R.take 2).length = 2 ∧ (R.drop 2).length = k2 ∧ k2 ≤ c2 from ⟨by rw [List.length_take]; omega, by rw [List.length_drop]; omega, by omega⟩)
  generalize R.take 2 = X at hrd2 hrd3 HRD HL ⊢
  generalize R.drop 2 = Y at hrd2 hrd3 HRD HL ⊢
  obtain ⟨bk, o, rfl, d0⟩ := hr.at_ 0 (by simp)
  obtain ⟨bk', o', he, d1⟩ := hr.at_ 1 (by simp)
  injection he with he
  injection he with he1 he2
  subst he1; subst he2
  replace d0 : World.cell? _ ⟨bk, o, none⟩ = some (.int .u8 213) := d0
  replace d1 : World.cell? _ ⟨bk, o + 1, none⟩ = some (.int .u8 y) := d1
  have t3 : decide ((M : Int) < 3) = false := decide_eq_false (by omega)
  have b0 : (0 : Int) < M := by omega
  have b1 : (1 : Int) < M := by omega
  have t9 : decide ((k : Int) < 2) = false := decide_eq_false (by omega)
  clear hr hc hM hMR hk h8 hcut1 hcut2 hcut3 hk2 hc2 hrd2 hrd3
  go_enter Tryd.func39, Tryd.ntmps39
  go_wp2_with (go_quiet (fail))
  refine bodyPost_ret (v := .tuple #[.int .i8 z, .slice A2 k2 c2, .slice A3 2 2, .nilIface]) ?_ rfl ?_
  · (simp [results, Tryd.results39, go_sem]; done)
  · exact RxOk.fin HRD.out HL.out (by repeat (first | exact Ch.refl _ _ | apply Ch.drewN | apply Ch.drew))
set_option maxRecDepth 100000 in
set_option maxHeartbeats 2000000 in
theorem rx_cut_213 (A : Option Addr) (c : Nat) (y z : Int) (R : List Int) (w : World) (hr : Rd u8 w A (213 :: y :: R)) (hc : (213 :: y :: R).length ≤ c) (hy : IntKind.i8.wrap y = z) (hs : Sh w) (h8 : R.length < 2) :
    Calls Tryd.prog 39 #[.slice A (213 :: y :: R).length c] w (RxNo w) := by
  obtain ⟨M, hM⟩ : ∃ M, (213 :: y :: R).length = M := ⟨_, rfl⟩
  have hMR : M = 2 + R.length := by rw [← hM]; simp; omega
  rw [hM] at hc ⊢
  obtain ⟨A1, hj2, hj3, hcut1⟩ := Cut.ahead_l 24 5 Tryd.underlying24 size_u8 A M c 2 2 rfl .i64 (by omega)
  obtain ⟨k, hk⟩ : ∃ k, M - 2 = k := ⟨_, rfl⟩
  rw [hk] at hj2 hj3
  obtain ⟨T, v, hg⟩ := hs
  obtain ⟨bk, o, rfl, d0⟩ := hr.at_ 0 (by simp)
  obtain ⟨bk', o', he, d1⟩ := hr.at_ 1 (by simp)
  injection he with he
  injection he with he1 he2
  subst he1; subst he2
  replace d0 : World.cell? _ ⟨bk, o, none⟩ = some (.int .u8 213) := d0
  replace d1 : World.cell? _ ⟨bk, o + 1, none⟩ = some (.int .u8 y) := d1
  skip
  have b0 : (0 : Int) < M := by omega
  have b1 : (1 : Int) < M := by omega
  have t9 : decide ((k : Int) < 2) = true := decide_eq_true (by omega)
  obtain ⟨bb, hbb⟩ : ∃ bb : Bool, decide ((M : Int) < 3) = bb := ⟨_, rfl⟩
  clear hr hc hM hMR hk h8 hcut1
  cases bb
  · skip
    go_enter Tryd.func39, Tryd.ntmps39
    go_wp2_with (go_quiet (fail))
    refine bodyPost_ret (v := .tuple #[.int .i8 0, .slice (some ⟨bk, o, none⟩) M c, .slice none 0 0, .iface T v]) ?_ rfl ?_
    · (simp [results, Tryd.results39, go_sem]; done)
    · exact ⟨_, _, _, _, _, rfl, (by repeat (first | exact Ch.refl _ _ | apply Ch.drewN | apply Ch.drew))⟩
  · skip
    go_enter Tryd.func39, Tryd.ntmps39
    go_wp2_with (go_quiet (fail))
    refine bodyPost_ret (v := .tuple #[.int .i8 0, .slice (some ⟨bk, o, none⟩) M c, .slice none 0 0, .iface T v]) ?_ rfl ?_
    · (simp [results, Tryd.results39, go_sem]; done)
    · exact ⟨_, _, _, _, _, rfl, (by repeat (first | exact Ch.refl _ _ | apply Ch.drewN | apply Ch.drew))⟩
set_option maxRecDepth 100000 in
set_option maxHeartbeats 2000000 in
theorem rx_ok_214 (A : Option Addr) (c : Nat) (y z : Int) (R : List Int) (w : World) (hr : Rd u8 w A (214 :: y :: R)) (hc : (214 :: y :: R).length ≤ c) (hy : IntKind.i8.wrap y = z) (h8 : 4 ≤ R.length) :
    Calls Tryd.prog 39 #[.slice A (214 :: y :: R).length c] w (RxOk z (R.take 4) (R.drop 4) w) := by
  obtain ⟨M, hM⟩ : ∃ M, (214 :: y :: R).length = M := ⟨_, rfl⟩
  have hMR : M = 2 + R.length := by rw [← hM]; simp; omega
  rw [hM] at hc ⊢
  obtain ⟨A1, hj2, hj3, hcut1⟩ := Cut.ahead_l 24 5 Tryd.underlying24 size_u8 A M c 2 2 rfl .i64 (by omega)
  obtain ⟨k, hk⟩ : ∃ k, M - 2 = k := ⟨_, rfl⟩
  rw [hk] at hj2 hj3
  obtain ⟨A2, hi2, hi3, hcut2⟩ := Cut.ahead_l 24 5 Tryd.underlying24 size_u8 A M c 6 6 (by omega) .i64 (by omega)
  obtain ⟨A3, hl2, hl3, hcut3⟩ := Cut.ahead_lhm 24 5 Tryd.underlying24 size_u8 A M c 2 6 2 6 rfl (by omega) .i64 .i64 (by omega) (by omega)
  obtain ⟨k2, hk2⟩ : ∃ k2, M - 6 = k2 := ⟨_, rfl⟩
  obtain ⟨c2, hc2⟩ : ∃ c2, c - 6 = c2 := ⟨_, rfl⟩
  rw [hk2, hc2] at hi2 hi3
  rw [show 6 - 2 = 4 by omega] at hl2 hl3
  have hrd2 : Rd u8 w A2 (R.drop 4) := by
    have h := hcut2.drop hr hM hc
    rwa [show (214 :: y :: R).drop 6 = R.drop 4 by (rfl)] at h
  have hrd3 : Rd u8 w A3 (R.take 4) := by
    have h := hcut3 u8 w _ hr hM hc (by omega)
    rwa [List.drop_take, show 6 - 2 = 4 by omega] at h
  have HRD := hid (And.intro hrd2 hrd3)
  have HL := hid (show (R.take 4).length = 4 ∧ (R.drop 4).length = k2 ∧ k2 ≤ c2 from ⟨by rw [List.length_take]; omega, by rw [List.length_drop]; omega, by omega⟩)
  generalize R.take 4 = X at hrd2 hrd3 HRD HL ⊢
  generalize R.drop 4 = Y at hrd2 hrd3 HRD HL ⊢
  obtain ⟨bk, o, rfl, d0⟩ := hr.at_ 0 (by simp)
  obtain ⟨bk', o', he, d1⟩ := hr.at_ 1 (by simp)
  injection he with he
  injection he with he1 he2
  subst he1; subst he2
  replace d0 : World.cell? _ ⟨bk, o, none⟩ = some (.int .u8 214) := d0
  replace d1 : World.cell? _ ⟨bk, o + 1, none⟩ = some (.int .u8 y) := d1
  have t3 : decide ((M : Int) < 3) = false := decide_eq_false (by omega)
  have b0 : (0 : Int) < M := by omega
  have b1 : (1 : Int) < M := by omega
  have t9 : decide ((k : Int) < 4) = false := decide_eq_false (by omega)
  clear hr hc hM hMR hk h8 hcut1 hcut2 hcut3 hk2 hc2 hrd2 hrd3
  go_enter Tryd.func39, Tryd.ntmps39
  go_wp2_with (go_quiet (fail))
  refine bodyPost_ret (v := .tuple #[.int .i8 z, .slice A2 k2 c2, .slice A3 4 4, .nilIface]) ?_ rfl ?_
  · (simp [results, Tryd.results39, go_sem]; done)
  · exact RxOk.fin HRD.out HL.out (by repeat (first | exact Ch.refl _ _ | apply Ch.drewN | apply Ch.drew))
set_option maxRecDepth 100000 in
set_option maxHeartbeats 2000000 in
theorem rx_cut_214 (A : Option Addr) (c : Nat) (y z : Int) (R : List Int) (w : World) (hr : Rd u8 w A (214 :: y :: R)) (hc : (214 :: y :: R).length ≤ c) (hy : IntKind.i8.wrap y = z) (hs : Sh w) (h8 : R.length < 4) :
    Calls Tryd.prog 39 #[.slice A (214 :: y :: R).length c] w (RxNo w) := by
  obtain ⟨M, hM⟩ : ∃ M, (214 :: y :: R).length = M := ⟨_, rfl⟩
  have hMR : M = 2 + R.length := by rw [← hM]; simp; omega
  rw [hM] at hc ⊢
  obtain ⟨A1, hj2, hj3, hcut1⟩ := Cut.ahead_l 24 5 Tryd.underlying24 size_u8 A M c 2 2 rfl .i64 (by omega)
  obtain ⟨k, hk⟩ : ∃ k, M - 2 = k := ⟨_, rfl⟩
  rw [hk] at hj2 hj3
  obtain ⟨T, v, hg⟩ := hs
  obtain ⟨bk, o, rfl, d0⟩ := hr.at_ 0 (by simp)
  obtain ⟨bk', o', he, d1⟩ := hr.at_ 1 (by simp)
  injection he with he
  injection he with he1 he2
  subst he1; subst he2
  replace d0 : World.cell? _ ⟨bk, o, none⟩ = some (.int .u8 214) := d0
  replace d1 : World.cell? _ ⟨bk, o + 1, none⟩ = some (.int .u8 y) := d1
  skip
  have b0 : (0 : Int) < M := by omega
  have b1 : (1 : Int) < M := by omega
  have t9 : decide ((k : Int) < 4) = true := decide_eq_true (by omega)
  obtain ⟨bb, hbb⟩ : ∃ bb : Bool, decide ((M : Int) < 3) = bb := ⟨_, rfl⟩
  clear hr hc hM hMR hk h8 hcut1
  cases bb
  · skip
    go_enter Tryd.func39, Tryd.ntmps39
    go_wp2_with (go_quiet (fail))
    refine bodyPost_ret (v := .tuple #[.int .i8 0, .slice (some ⟨bk, o, none⟩) M c, .slice none 0 0, .iface T v]) ?_ rfl ?_
    · (simp [results, Tryd.results39, go_sem]; done)
    · exact ⟨_, _, _, _, _, rfl, (by repeat (first | exact Ch.refl _ _ | apply Ch.drewN | apply Ch.drew))⟩
  · skip
    go_enter Tryd.func39, Tryd.ntmps39
    go_wp2_with (go_quiet (fail))
    refine bodyPost_ret (v := .tuple #[.int .i8 0, .slice (some ⟨bk, o, none⟩) M c, .slice none 0 0, .iface T v]) ?_ rfl ?_
    · (simp [results, Tryd.results39, go_sem]; done)
    · exact ⟨_, _, _, _, _, rfl, (by repeat (first | exact Ch.refl _ _ | apply Ch.drewN | apply Ch.drew))⟩
set_option maxRecDepth 100000 in
set_option maxHeartbeats 2000000 in
theorem rx_ok_215 (A : Option Addr) (c : Nat) (y z : Int) (R : List Int) (w : World) (hr : Rd u8 w A (215 :: y :: R)) (hc : (215 :: y :: R).length ≤ c) (hy : IntKind.i8.wrap y = z) (h8 : 8 ≤ R.length) :
    Calls Tryd.prog 39 #[.slice A (215 :: y :: R).length c] w (RxOk z (R.take 8) (R.drop 8) w) := by
  obtain ⟨M, hM⟩ : ∃ M, (215 :: y :: R).length = M := ⟨_, rfl⟩
  have hMR : M = 2 + R.length := by rw [← hM]; simp; omega
  rw [hM] at hc ⊢
  obtain ⟨A1, hj2, hj3, hcut1⟩ := Cut.ahead_l 24 5 Tryd.underlying24 size_u8 A M c 2 2 rfl .i64 (by omega)
  obtain ⟨k, hk⟩ : ∃ k, M - 2 = k := ⟨_, rfl⟩
  rw [hk] at hj2 hj3
  obtain ⟨A2, hi2, hi3, hcut2⟩ := Cut.ahead_l 24 5 Tryd.underlying24 size_u8 A M c 10 10 (by omega) .i64 (by omega)
  obtain ⟨A3, hl2, hl3, hcut3⟩ := Cut.ahead_lhm 24 5 Tryd.underlying24 size_u8 A M c 2 10 2 10 rfl (by omega) .i64 .i64 (by omega) (by omega)
  obtain ⟨k2, hk2⟩ : ∃ k2, M - 10 = k2 := ⟨_, rfl⟩
  obtain ⟨c2, hc2⟩ : ∃ c2, c - 10 = c2 := ⟨_, rfl⟩
  rw [hk2, hc2] at hi2 hi3
  rw [show 10 - 2 = 8 by omega] at hl2 hl3
  have hrd2 : Rd u8 w A2 (R.drop 8) := by
    have h := hcut2.drop hr hM hc
    rwa [show (215 :: y :: R).drop 10 = R.drop 8 by (rfl)] at h
  have hrd3 : Rd u8 w A3 (R.take 8) := by
    have h := hcut3 u8 w _ hr hM hc (by omega)
    rwa [List.drop_take, show 10 - 2 = 8 by omega] at h
  have HRD := hid (And.intro hrd2 hrd3)
  have HL := hid (show (R.take 8).length = 8 ∧ (R.drop 8).length = k2 ∧ k2 ≤ c2 from ⟨by rw [List.length_take]; omega, by rw [List.length_drop]; omega, by omega⟩)
  generalize R.take 8 = X at hrd2 hrd3 HRD HL ⊢
  generalize R.drop 8 = Y at hrd2 hrd3 HRD HL ⊢
  obtain ⟨bk, o, rfl, d0⟩ := hr.at_ 0 (by simp)
  obtain ⟨bk', o', he, d1⟩ := hr.at_ 1 (by simp)
  injection he with he
  injection he with he1 he2
  subst he1; subst he2
  replace d0 : World.cell? _ ⟨bk, o, none⟩ = some (.int .u8 215) := d0
  replace d1 : World.cell? _ ⟨bk, o + 1, none⟩ = some (.int .u8 y) := d1
  have t3 : decide ((M : Int) < 3) = false := decide_eq_false (by omega)
  have b0 : (0 : Int) < M := by omega
  have b1 : (1 : Int) < M := by omega
  have t9 : decide ((k : Int) < 8) = false := decide_eq_false (by omega)
  clear hr hc hM hMR hk h8 hcut1 hcut2 hcut3 hk2 hc2 hrd2 hrd3
  go_enter Tryd.func39, Tryd.ntmps39
  go_wp2_with (go_quiet (fail))
  refine bodyPost_ret (v := .tuple #[.int .i8 z, .slice A2 k2 c2, .slice A3 8 8, .nilIface]) ?_ rfl ?_
  · (simp [results, Tryd.results39, go_sem]; done)
  · exact RxOk.fin HRD.out HL.out (by repeat (first | exact Ch.refl _ _ | apply Ch.drewN | apply Ch.drew))
set_option maxRecDepth 100000 in
set_option maxHeartbeats 2000000 in
theorem rx_cut_215 (A : Option Addr) (c : Nat) (y z : Int) (R : List Int) (w : World) (hr : Rd u8 w A (215 :: y :: R)) (hc : (215 :: y :: R).length ≤ c) (hy : IntKind.i8.wrap y = z) (hs : Sh w) (h8 : R.length < 8) :
    Calls Tryd.prog 39 #[.slice A (215 :: y :: R).length c] w (RxNo w) := by
  obtain ⟨M, hM⟩ : ∃ M, (215 :: y :: R).length = M := ⟨_, rfl⟩
  have hMR : M = 2 + R.length := by rw [← hM]; simp; omega
  rw [hM] at hc ⊢
  obtain ⟨A1, hj2, hj3, hcut1⟩ := Cut.ahead_l 24 5 Tryd.underlying24 size_u8 A M c 2 2 rfl .i64 (by omega)
  obtain ⟨k, hk⟩ : ∃ k, M - 2 = k := ⟨_, rfl⟩
  rw [hk] at hj2 hj3
  obtain ⟨T, v, hg⟩ := hs
  obtain ⟨bk, o, rfl, d0⟩ := hr.at_ 0 (by simp)
  obtain ⟨bk', o', he, d1⟩ := hr.at_ 1 (by simp)
  injection he with he
  injection he with he1 he2
  subst he1; subst he2
  replace d0 : World.cell? _ ⟨bk, o, none⟩ = some (.int .u8 215) := d0
  replace d1 : World.cell? _ ⟨bk, o + 1, none⟩ = some (.int .u8 y) := d1
  skip
  have b0 : (0 : Int) < M := by omega
  have b1 : (1 : Int) < M := by omega
  have t9 : decide ((k : Int) < 8) = true := decide_eq_true (by omega)
  obtain ⟨bb, hbb⟩ : ∃ bb : Bool, decide ((M : Int) < 3) = bb := ⟨_, rfl⟩
  clear hr hc hM hMR hk h8 hcut1
  cases bb
  · skip
    go_enter Tryd.func39, Tryd.ntmps39
    go_wp2_with (go_quiet (fail))
    refine bodyPost_ret (v := .tuple #[.int .i8 0, .slice (some ⟨bk, o, none⟩) M c, .slice none 0 0, .iface T v]) ?_ rfl ?_
    · (simp [results, Tryd.results39, go_sem]; done)
    · exact ⟨_, _, _, _, _, rfl, (by repeat (first | exact Ch.refl _ _ | apply Ch.drewN | apply Ch.drew))⟩
  · skip
    go_enter Tryd.func39, Tryd.ntmps39
    go_wp2_with (go_quiet (fail))
    refine bodyPost_ret (v := .tuple #[.int .i8 0, .slice (some ⟨bk, o, none⟩) M c, .slice none 0 0, .iface T v]) ?_ rfl ?_
    · (simp [results, Tryd.results39, go_sem]; done)
    · exact ⟨_, _, _, _, _, rfl, (by repeat (first | exact Ch.refl _ _ | apply Ch.drewN | apply Ch.drew))⟩
set_option maxRecDepth 100000 in
set_option maxHeartbeats 2000000 in
theorem rx_ok_216 (A : Option Addr) (c : Nat) (y z : Int) (R : List Int) (w : World) (hr : Rd u8 w A (216 :: y :: R)) (hc : (216 :: y :: R).length ≤ c) (hy : IntKind.i8.wrap y = z) (h8 : 16 ≤ R.length) :
    Calls Tryd.prog 39 #[.slice A (216 :: y :: R).length c] w (RxOk z (R.take 16) (R.drop 16) w) := by
  obtain ⟨M, hM⟩ : ∃ M, (216 :: y :: R).length = M := ⟨_, rfl⟩
  have hMR : M = 2 + R.length := by rw [← hM]; simp; omega
  rw [hM] at hc ⊢
  obtain ⟨A1, hj2, hj3, hcut1⟩ := Cut.ahead_l 24 5 Tryd.underlying24 size_u8 A M c 2 2 rfl .i64 (by omega)
  obtain ⟨k, hk⟩ : ∃ k, M - 2 = k := ⟨_, rfl⟩
  rw [hk] at hj2 hj3
  obtain ⟨A2, hi2, hi3, hcut2⟩ := Cut.ahead_l 24 5 Tryd.underlying24 size_u8 A M c 18 18 (by omega) .i64 (by omega)
  obtain ⟨A3, hl2, hl3, hcut3⟩ := Cut.ahead_lhm 24 5 Tryd.underlying24 size_u8 A M c 2 18 2 18 rfl (by omega) .i64 .i64 (by omega) (by omega)
  obtain ⟨k2, hk2⟩ : ∃ k2, M - 18 = k2 := ⟨_, rfl⟩
  obtain ⟨c2, hc2⟩ : ∃ c2, c - 18 = c2 := ⟨_, rfl⟩
  rw [hk2, hc2] at hi2 hi3
  rw [show 18 - 2 = 16 by omega] at hl2 hl3
  have hrd2 : Rd u8 w A2 (R.drop 16) := by
    have h := hcut2.drop hr hM hc
    rwa [show (216 :: y :: R).drop 18 = R.drop 16 by (rfl)] at h
  have hrd3 : Rd u8 w A3 (R.take 16) := by
    have h := hcut3 u8 w _ hr hM hc (by omega)
    rwa [List.drop_take, show 18 - 2 = 16 by omega] at h
  have HRD := hid (And.intro hrd2 hrd3)
  have HL := hid (show (R.take 16).length = 16 ∧ (R.drop 16).length = k2 ∧ k2 ≤ c2 from ⟨by rw [List.length_take]; omega, by rw [List.length_drop]; omega, by omega⟩)
  generalize R.take 16 = X at hrd2 hrd3 HRD HL ⊢
  generalize R.drop 16 = Y at hrd2 hrd3 HRD HL ⊢
  obtain ⟨bk, o, rfl, d0⟩ := hr.at_ 0 (by simp)
  obtain ⟨bk', o', he, d1⟩ := hr.at_ 1 (by simp)
  injection he with he
  injection he with he1 he2
  subst he1; subst he2
  replace d0 : World.cell? _ ⟨bk, o, none⟩ = some (.int .u8 216) := d0
  replace d1 : World.cell? _ ⟨bk, o + 1, none⟩ = some (.int .u8 y) := d1
  have t3 : decide ((M : Int) < 3) = false := decide_eq_false (by omega)
  have b0 : (0 : Int) < M := by omega
  have b1 : (1 : Int) < M := by omega
  have t9 : decide ((k : Int) < 16) = false := decide_eq_false (by omega)
  clear hr hc hM hMR hk h8 hcut1 hcut2 hcut3 hk2 hc2 hrd2 hrd3
  go_enter Tryd.func39, Tryd.ntmps39
  go_wp2_with (go_quiet (fail))
  refine bodyPost_ret (v := .tuple #[.int .i8 z, .slice A2 k2 c2, .slice A3 16 16, .nilIface]) ?_ rfl ?_
  · (simp [results, Tryd.results39, go_sem]; done)
  · exact RxOk.fin HRD.out HL.out (by repeat (first | exact Ch.refl _ _ | apply Ch.drewN | apply Ch.drew))
set_option maxRecDepth 100000 in
set_option maxHeartbeats 2000000 in
theorem rx_cut_216 (A : Option Addr) (c : Nat) (y z : Int) (R : List Int) (w : World) (hr : Rd u8 w A (216 :: y :: R)) (hc : (216 :: y :: R).length ≤ c) (hy : IntKind.i8.wrap y = z) (hs : Sh w) (h8 : R.length < 16) :
    Calls Tryd.prog 39 #[.slice A (216 :: y :: R).length c] w (RxNo w) := by
  obtain ⟨M, hM⟩ : ∃ M, (216 :: y :: R).length = M := ⟨_, rfl⟩
  have hMR : M = 2 + R.length := by rw [← hM]; simp; omega
  rw [hM] at hc ⊢
  obtain ⟨A1, hj2, hj3, hcut1⟩ := Cut.ahead_l 24 5 Tryd.underlying24 size_u8 A M c 2 2 rfl .i64 (by omega)
  obtain ⟨k, hk⟩ : ∃ k, M - 2 = k := ⟨_, rfl⟩
  rw [hk] at hj2 hj3
  obtain ⟨T, v, hg⟩ := hs
  obtain ⟨bk, o, rfl, d0⟩ := hr.at_ 0 (by simp)
  obtain ⟨bk', o', he, d1⟩ := hr.at_ 1 (by simp)
  injection he with he
  injection he with he1 he2
  subst he1; subst he2
  replace d0 : World.cell? _ ⟨bk, o, none⟩ = some (.int .u8 216) := d0
  replace d1 : World.cell? _ ⟨bk, o + 1, none⟩ = some (.int .u8 y) := d1
  skip
  have b0 : (0 : Int) < M := by omega
  have b1 : (1 : Int) < M := by omega
  have t9 : decide ((k : Int) < 16) = true := decide_eq_true (by omega)
  obtain ⟨bb, hbb⟩ : ∃ bb : Bool, decide ((M : Int) < 3) = bb := ⟨_, rfl⟩
  clear hr hc hM hMR hk h8 hcut1
  cases bb
  · skip
    go_enter Tryd.func39, Tryd.ntmps39
    go_wp2_with (go_quiet (fail))
    refine bodyPost_ret (v := .tuple #[.int .i8 0, .slice (some ⟨bk, o, none⟩) M c, .slice none 0 0, .iface T v]) ?_ rfl ?_
    · (simp [results, Tryd.results39, go_sem]; done)
    · exact ⟨_, _, _, _, _, rfl, (by repeat (first | exact Ch.refl _ _ | apply Ch.drewN | apply Ch.drew))⟩
  · skip
    go_enter Tryd.func39, Tryd.ntmps39
    go_wp2_with (go_quiet (fail))
    refine bodyPost_ret (v := .tuple #[.int .i8 0, .slice (some ⟨bk, o, none⟩) M c, .slice none 0 0, .iface T v]) ?_ rfl ?_
    · (simp [results, Tryd.results39, go_sem]; done)
    · exact ⟨_, _, _, _, _, rfl, (by repeat (first | exact Ch.refl _ _ | apply Ch.drewN | apply Ch.drew))⟩
set_option maxRecDepth 100000 in
set_option maxHeartbeats 2000000 in
theorem rx_ok_199 (A : Option Addr) (c : Nat) (qi y z : Int) (R : List Int) (w : World) (hr : Rd u8 w A (199 :: qi :: y :: R)) (hc : (199 :: qi :: y :: R).length ≤ c) (hy : IntKind.i8.wrap y = z) (q : Nat) (hb : Byt (qi :: y :: R)) (hq : beN [qi] = q) (hq0 : 0 < q) (h8 : q ≤ R.length) :
    Calls Tryd.prog 39 #[.slice A (199 :: qi :: y :: R).length c] w (RxOk z (R.take q) (R.drop q) w) := by
  obtain ⟨M, hM⟩ : ∃ M, (199 :: qi :: y :: R).length = M := ⟨_, rfl⟩
  have hMR : M = 3 + R.length := by rw [← hM]; simp; omega
  rw [hM] at hc ⊢
  have hqr := beN_range 1 [qi] rfl (fun x hx => hb x (by simp only [List.mem_cons, List.not_mem_nil, or_false] at hx ⊢; rcases hx with rfl <;> simp))
  rw [show beN [qi] = qi from by simp [beN]] at hq hqr
  have hqa : 0 ≤ qi := hqr.1
  have hqb : qi < 256 := hqr.2
  obtain ⟨A1, hj2, hj3, hcut1⟩ := Cut.ahead_l 24 5 Tryd.underlying24 size_u8 A M c 3 3 rfl .i64 (by omega)
  obtain ⟨k, hk⟩ : ∃ k, M - 3 = k := ⟨_, rfl⟩
  rw [hk] at hj2 hj3
  obtain ⟨A2, hi2, hi3, hcut2⟩ := Cut.ahead_l 24 5 Tryd.underlying24 size_u8 A M c (3 + qi) (3 + q) (by omega) .i64 (by omega)
  obtain ⟨A3, hl2, hl3, hcut3⟩ := Cut.ahead_lhm 24 5 Tryd.underlying24 size_u8 A M c 3 (3 + qi) 3 (3 + q) rfl (by omega) .i64 .i64 (by omega) (by omega)
  obtain ⟨k2, hk2⟩ : ∃ k2, M - (3 + q) = k2 := ⟨_, rfl⟩
  obtain ⟨c2, hc2⟩ : ∃ c2, c - (3 + q) = c2 := ⟨_, rfl⟩
  rw [hk2, hc2] at hi2 hi3
  rw [show (3 + q) - 3 = q by omega] at hl2 hl3
  have hrd2 : Rd u8 w A2 (R.drop q) := by
    have h := hcut2.drop hr hM hc
    rwa [show (199 :: qi :: y :: R).drop (3 + q) = R.drop q by (rw [← List.drop_drop]; rfl)] at h
  have hrd3 : Rd u8 w A3 (R.take q) := by
    have h := hcut3 u8 w _ hr hM hc (by omega)
    rwa [List.drop_take, show (3 + q) - 3 = q by omega] at h
  have HRD := hid (And.intro hrd2 hrd3)
  have HL := hid (show (R.take q).length = q ∧ (R.drop q).length = k2 ∧ k2 ≤ c2 from ⟨by rw [List.length_take]; omega, by rw [List.length_drop]; omega, by omega⟩)
  generalize R.take q = X at hrd2 hrd3 HRD HL ⊢
  generalize R.drop q = Y at hrd2 hrd3 HRD HL ⊢
  obtain ⟨bk, o, rfl, d0⟩ := hr.at_ 0 (by simp)
  obtain ⟨bk', o', he, d1⟩ := hr.at_ 1 (by simp)
  injection he with he
  injection he with he1 he2
  subst he1; subst he2
  obtain ⟨bk', o', he, d2⟩ := hr.at_ 2 (by simp)
  injection he with he
  injection he with he1 he2
  subst he1; subst he2
  replace d0 : World.cell? _ ⟨bk, o, none⟩ = some (.int .u8 199) := d0
  replace d1 : World.cell? _ ⟨bk, o + 1, none⟩ = some (.int .u8 qi) := d1
  replace d2 : World.cell? _ ⟨bk, o + 2, none⟩ = some (.int .u8 y) := d2
  have t3 : decide ((M : Int) < 3) = false := decide_eq_false (by omega)
  have b0 : (0 : Int) < M := by omega
  have b1 : (1 : Int) < M := by omega
  have b2 : (2 : Int) < M := by omega
  have t9 : decide ((k : Int) < qi) = false := decide_eq_false (by omega)
  have t0 : (qi == 0) = false := beq_eq_false_iff_ne.2 (by omega)
  clear hr hc hM hMR hk h8 hcut1 hcut2 hcut3 hk2 hc2 hrd2 hrd3 hq hqr hb hq0
  go_enter Tryd.func39, Tryd.ntmps39
  go_wp2_with (go_quiet (fail))
  refine bodyPost_ret (v := .tuple #[.int .i8 z, .slice A2 k2 c2, .slice A3 q q, .nilIface]) ?_ rfl ?_
  · (simp [results, Tryd.results39, go_sem]; done)
  · exact RxOk.fin HRD.out HL.out (by repeat (first | exact Ch.refl _ _ | apply Ch.drewN | apply Ch.drew))
set_option maxRecDepth 100000 in
set_option maxHeartbeats 2000000 in
theorem rx_cut_199 (A : Option Addr) (c : Nat) (qi y z : Int) (R : List Int) (w : World) (hr : Rd u8 w A (199 :: qi :: y :: R)) (hc : (199 :: qi :: y :: R).length ≤ c) (hy : IntKind.i8.wrap y = z) (q : Nat) (hb : Byt (qi :: y :: R)) (hq : beN [qi] = q) (hq0 : 0 < q) (hs : Sh w) (h8 : R.length < q) :
    Calls Tryd.prog 39 #[.slice A (199 :: qi :: y :: R).length c] w (RxNo w) := by
  obtain ⟨M, hM⟩ : ∃ M, (199 :: qi :: y :: R).length = M := ⟨_, rfl⟩
  have hMR : M = 3 + R.length := by rw [← hM]; simp; omega
  rw [hM] at hc ⊢
  have hqr := beN_range 1 [qi] rfl (fun x hx => hb x (by simp only [List.mem_cons, List.not_mem_nil, or_false] at hx ⊢; rcases hx with rfl <;> simp))
  rw [show beN [qi] = qi from by simp [beN]] at hq hqr
  have hqa : 0 ≤ qi := hqr.1
  have hqb : qi < 256 := hqr.2
  obtain ⟨A1, hj2, hj3, hcut1⟩ := Cut.ahead_l 24 5 Tryd.underlying24 size_u8 A M c 3 3 rfl .i64 (by omega)
  obtain ⟨k, hk⟩ : ∃ k, M - 3 = k := ⟨_, rfl⟩
  rw [hk] at hj2 hj3
  obtain ⟨T, v, hg⟩ := hs
  obtain ⟨bk, o, rfl, d0⟩ := hr.at_ 0 (by simp)
  obtain ⟨bk', o', he, d1⟩ := hr.at_ 1 (by simp)
  injection he with he
  injection he with he1 he2
  subst he1; subst he2
  obtain ⟨bk', o', he, d2⟩ := hr.at_ 2 (by simp)
  injection he with he
  injection he with he1 he2
  subst he1; subst he2
  replace d0 : World.cell? _ ⟨bk, o, none⟩ = some (.int .u8 199) := d0
  replace d1 : World.cell? _ ⟨bk, o + 1, none⟩ = some (.int .u8 qi) := d1
  replace d2 : World.cell? _ ⟨bk, o + 2, none⟩ = some (.int .u8 y) := d2
  have t3 : decide ((M : Int) < 3) = false := decide_eq_false (by omega)
  have b0 : (0 : Int) < M := by omega
  have b1 : (1 : Int) < M := by omega
  have b2 : (2 : Int) < M := by omega
  have t9 : decide ((k : Int) < qi) = true := decide_eq_true (by omega)
  have t0 : (qi == 0) = false := beq_eq_false_iff_ne.2 (by omega)
  clear hr hc hM hMR hk h8 hcut1 hq hqr hb hq0
  go_enter Tryd.func39, Tryd.ntmps39
  go_wp2_with (go_quiet (fail))
  refine bodyPost_ret (v := .tuple #[.int .i8 0, .slice (some ⟨bk, o, none⟩) M c, .slice none 0 0, .iface T v]) ?_ rfl ?_
  · (simp [results, Tryd.results39, go_sem]; done)
  · exact ⟨_, _, _, _, _, rfl, (by repeat (first | exact Ch.refl _ _ | apply Ch.drewN | apply Ch.drew))⟩
set_option maxRecDepth 100000 in
set_option maxHeartbeats 2000000 in
theorem rx_ok_200 (A : Option Addr) (c : Nat) (n0 n1 y z : Int) (R : List Int) (w : World) (hr : Rd u8 w A (200 :: n0 :: n1 :: y :: R)) (hc : (200 :: n0 :: n1 :: y :: R).length ≤ c) (hy : IntKind.i8.wrap y = z) (q : Nat) (hb : Byt (n0 :: n1 :: y :: R)) (hq : beN [n0, n1] = q) (h8 : q ≤ R.length) :
    Calls Tryd.prog 39 #[.slice A (200 :: n0 :: n1 :: y :: R).length c] w (RxOk z (R.take q) (R.drop q) w) := by
  obtain ⟨M, hM⟩ : ∃ M, (200 :: n0 :: n1 :: y :: R).length = M := ⟨_, rfl⟩
  have hMR : M = 4 + R.length := by rw [← hM]; simp; omega
  rw [hM] at hc ⊢
  obtain ⟨A4, hb2, hb3, hcut4⟩ := Cut.ahead_l 24 5 Tryd.underlying24 size_u8 A M c 1 1 rfl .i64 (by omega)
  have hr4 : Rd u8 w A4 (n0 :: n1 :: y :: R) := hcut4.drop hr hM hc
  have hbe := fun W (h : Ch No w W) => be16_calls A4 (c - 1) (n0 :: n1 :: y :: R) W (hr4.keep0 h) hb (by simp)
  rw [show (n0 :: n1 :: y :: R).length = M - 1 by (rw [← hM]; simp), show (n0 :: n1 :: y :: R).take 2 = [n0, n1] from rfl] at hbe
  obtain ⟨m4, hm4⟩ : ∃ m4, M - 1 = m4 := ⟨_, rfl⟩
  rw [hm4] at hb2 hb3 hbe
  generalize c - 1 = c4 at hb2 hb3 hbe
  have hqr := beN_range 2 [n0, n1] rfl (fun x hx => hb x (by simp only [List.mem_cons, List.not_mem_nil, or_false] at hx ⊢; rcases hx with rfl | rfl <;> simp))
  generalize beN [n0, n1] = qi at hq hqr hbe
  have hqa : 0 ≤ qi := hqr.1
  have hqb : qi < 65536 := hqr.2
  obtain ⟨A1, hj2, hj3, hcut1⟩ := Cut.ahead_l 24 5 Tryd.underlying24 size_u8 A M c 4 4 rfl .i64 (by omega)
  obtain ⟨k, hk⟩ : ∃ k, M - 4 = k := ⟨_, rfl⟩
  rw [hk] at hj2 hj3
  obtain ⟨A2, hi2, hi3, hcut2⟩ := Cut.ahead_l 24 5 Tryd.underlying24 size_u8 A M c (4 + qi) (4 + q) (by omega) .i64 (by omega)
  obtain ⟨A3, hl2, hl3, hcut3⟩ := Cut.ahead_lhm 24 5 Tryd.underlying24 size_u8 A M c 4 (4 + qi) 4 (4 + q) rfl (by omega) .i64 .i64 (by omega) (by omega)
  obtain ⟨k2, hk2⟩ : ∃ k2, M - (4 + q) = k2 := ⟨_, rfl⟩
  obtain ⟨c2, hc2⟩ : ∃ c2, c - (4 + q) = c2 := ⟨_, rfl⟩
  rw [hk2, hc2] at hi2 hi3
  rw [show (4 + q) - 4 = q by omega] at hl2 hl3
  have hrd2 : Rd u8 w A2 (R.drop q) := by
    have h := hcut2.drop hr hM hc
    rwa [show (200 :: n0 :: n1 :: y :: R).drop (4 + q) = R.drop q by (rw [← List.drop_drop]; rfl)] at h
  have hrd3 : Rd u8 w A3 (R.take q) := by
    have h := hcut3 u8 w _ hr hM hc (by omega)
    rwa [List.drop_take, show (4 + q) - 4 = q by omega] at h
  have HRD := hid (And.intro hrd2 hrd3)
  have HL := hid (show (R.take q).length = q ∧ (R.drop q).length = k2 ∧ k2 ≤ c2 from ⟨by rw [List.length_take]; omega, by rw [List.length_drop]; omega, by omega⟩)
  generalize R.take q = X at hrd2 hrd3 HRD HL ⊢
  generalize R.drop q = Y at hrd2 hrd3 HRD HL ⊢
  obtain ⟨bk, o, rfl, d0⟩ := hr.at_ 0 (by simp)
  obtain ⟨bk', o', he, d3⟩ := hr.at_ 3 (by simp)
  injection he with he
  injection he with he1 he2
  subst he1; subst he2
  replace d0 : World.cell? _ ⟨bk, o, none⟩ = some (.int .u8 200) := d0
  replace d3 : World.cell? _ ⟨bk, o + 3, none⟩ = some (.int .u8 y) := d3
  have t3 : decide ((M : Int) < 3) = false := decide_eq_false (by omega)
  have t4 : decide ((M : Int) < 4) = false := decide_eq_false (by omega)
  have b0 : (0 : Int) < M := by omega
  have b3 : (3 : Int) < M := by omega
  have t9 : decide ((k : Int) < qi) = false := decide_eq_false (by omega)
  clear hr hc hM hMR hk h8 hcut1 hcut2 hcut3 hk2 hc2 hrd2 hrd3 hcut4 hr4 hm4 hq hqr hb
  go_enter Tryd.func39, Tryd.ntmps39
  go_wp2_with fail
  go_region_law (go_simp; go_at_call 30; refine (hbe _ (by repeat (first | exact Ch.refl _ _ | apply Ch.drewN | apply Ch.drew))).mono ?_; rintro e w1 ⟨rfl, hch1⟩; have C1 : Ch No w w1 := (by first | exact hch1 | exact (Ch.refl No _).drew.no_no hch1))
  all_goals
    have f3 := C1.cell0 d3
    go_wp2_with (go_quiet (fail))
    refine bodyPost_ret (v := .tuple #[.int .i8 z, .slice A2 k2 c2, .slice A3 q q, .nilIface]) ?_ rfl ?_
    · (simp [results, Tryd.results39, go_sem]; done)
    · exact RxOk.fin HRD.out HL.out (by repeat (first | exact C1 | apply Ch.drewN | apply Ch.drew))
set_option maxRecDepth 100000 in
set_option maxHeartbeats 2000000 in
theorem rx_cut_200 (A : Option Addr) (c : Nat) (n0 n1 y z : Int) (R : List Int) (w : World) (hr : Rd u8 w A (200 :: n0 :: n1 :: y :: R)) (hc : (200 :: n0 :: n1 :: y :: R).length ≤ c) (hy : IntKind.i8.wrap y = z) (q : Nat) (hb : Byt (n0 :: n1 :: y :: R)) (hq : beN [n0, n1] = q) (hs : Sh w) (h8 : R.length < q) :
    Calls Tryd.prog 39 #[.slice A (200 :: n0 :: n1 :: y :: R).length c] w (RxNo w) := by
  obtain ⟨M, hM⟩ : ∃ M, (200 :: n0 :: n1 :: y :: R).length = M := ⟨_, rfl⟩
  have hMR : M = 4 + R.length := by rw [← hM]; simp; omega
  rw [hM] at hc ⊢
  obtain ⟨A4, hb2, hb3, hcut4⟩ := Cut.ahead_l 24 5 Tryd.underlying24 size_u8 A M c 1 1 rfl .i64 (by omega)
  have hr4 : Rd u8 w A4 (n0 :: n1 :: y :: R) := hcut4.drop hr hM hc
  have hbe := fun W (h : Ch No w W) => be16_calls A4 (c - 1) (n0 :: n1 :: y :: R) W (hr4.keep0 h) hb (by simp)
  rw [show (n0 :: n1 :: y :: R).length = M - 1 by (rw [← hM]; simp), show (n0 :: n1 :: y :: R).take 2 = [n0, n1] from rfl] at hbe
  obtain ⟨m4, hm4⟩ : ∃ m4, M - 1 = m4 := ⟨_, rfl⟩
  rw [hm4] at hb2 hb3 hbe
  generalize c - 1 = c4 at hb2 hb3 hbe
  have hqr := beN_range 2 [n0, n1] rfl (fun x hx => hb x (by simp only [List.mem_cons, List.not_mem_nil, or_false] at hx ⊢; rcases hx with rfl | rfl <;> simp))
  generalize beN [n0, n1] = qi at hq hqr hbe
  have hqa : 0 ≤ qi := hqr.1
  have hqb : qi < 65536 := hqr.2
  obtain ⟨A1, hj2, hj3, hcut1⟩ := Cut.ahead_l 24 5 Tryd.underlying24 size_u8 A M c 4 4 rfl .i64 (by omega)
  obtain ⟨k, hk⟩ : ∃ k, M - 4 = k := ⟨_, rfl⟩
  rw [hk] at hj2 hj3
  obtain ⟨T, v, hg⟩ := hs
  obtain ⟨bk, o, rfl, d0⟩ := hr.at_ 0 (by simp)
  obtain ⟨bk', o', he, d3⟩ := hr.at_ 3 (by simp)
  injection he with he
  injection he with he1 he2
  subst he1; subst he2
  replace d0 : World.cell? _ ⟨bk, o, none⟩ = some (.int .u8 200) := d0
  replace d3 : World.cell? _ ⟨bk, o + 3, none⟩ = some (.int .u8 y) := d3
  have t3 : decide ((M : Int) < 3) = false := decide_eq_false (by omega)
  have t4 : decide ((M : Int) < 4) = false := decide_eq_false (by omega)
  have b0 : (0 : Int) < M := by omega
  have b3 : (3 : Int) < M := by omega
  have t9 : decide ((k : Int) < qi) = true := decide_eq_true (by omega)
  clear hr hc hM hMR hk h8 hcut1 hcut4 hr4 hm4 hq hqr hb
  go_enter Tryd.func39, Tryd.ntmps39
  go_wp2_with fail
  go_region_law (go_simp; go_at_call 30; refine (hbe _ (by repeat (first | exact Ch.refl _ _ | apply Ch.drewN | apply Ch.drew))).mono ?_; rintro e w1 ⟨rfl, hch1⟩; have C1 : Ch No w w1 := (by first | exact hch1 | exact (Ch.refl No _).drew.no_no hch1))
  all_goals
    have f3 := C1.cell0 d3
    have hg1 := C1.cell0 hg
    go_wp2_with (go_quiet (fail))
    refine bodyPost_ret (v := .tuple #[.int .i8 0, .slice (some ⟨bk, o, none⟩) M c, .slice none 0 0, .iface T v]) ?_ rfl ?_
    · (simp [results, Tryd.results39, go_sem]; done)
    · exact ⟨_, _, _, _, _, rfl, (by repeat (first | exact C1 | apply Ch.drewN | apply Ch.drew))⟩
set_option maxRecDepth 100000 in
set_option maxHeartbeats 2000000 in
theorem rx_ok_201 (A : Option Addr) (c : Nat) (n0 n1 n2 n3 y z : Int) (R : List Int) (w : World) (hr : Rd u8 w A (201 :: n0 :: n1 :: n2 :: n3 :: y :: R)) (hc : (201 :: n0 :: n1 :: n2 :: n3 :: y :: R).length ≤ c) (hy : IntKind.i8.wrap y = z) (q : Nat) (hb : Byt (n0 :: n1 :: n2 :: n3 :: y :: R)) (hq : beN [n0, n1, n2, n3] = q) (h8 : q ≤ R.length) :
    Calls Tryd.prog 39 #[.slice A (201 :: n0 :: n1 :: n2 :: n3 :: y :: R).length c] w (RxOk z (R.take q) (R.drop q) w) := by
  obtain ⟨M, hM⟩ : ∃ M, (201 :: n0 :: n1 :: n2 :: n3 :: y :: R).length = M := ⟨_, rfl⟩
  have hMR : M = 6 + R.length := by rw [← hM]; simp; omega
  rw [hM] at hc ⊢
  obtain ⟨A4, hb2, hb3, hcut4⟩ := Cut.ahead_l 24 5 Tryd.underlying24 size_u8 A M c 1 1 rfl .i64 (by omega)
  have hr4 : Rd u8 w A4 (n0 :: n1 :: n2 :: n3 :: y :: R) := hcut4.drop hr hM hc
  have hbe := fun W (h : Ch No w W) => be32_calls A4 (c - 1) (n0 :: n1 :: n2 :: n3 :: y :: R) W (hr4.keep0 h) hb (by simp)
  rw [show (n0 :: n1 :: n2 :: n3 :: y :: R).length = M - 1 by (rw [← hM]; simp), show (n0 :: n1 :: n2 :: n3 :: y :: R).take 4 = [n0, n1, n2, n3] from rfl] at hbe
  obtain ⟨m4, hm4⟩ : ∃ m4, M - 1 = m4 := ⟨_, rfl⟩
  rw [hm4] at hb2 hb3 hbe
  generalize c - 1 = c4 at hb2 hb3 hbe
  have hqr := beN_range 4 [n0, n1, n2, n3] rfl (fun x hx => hb x (by simp only [List.mem_cons, List.not_mem_nil, or_false] at hx ⊢; rcases hx with rfl | rfl | rfl | rfl <;> simp))
  generalize beN [n0, n1, n2, n3] = qi at hq hqr hbe
  have hqa : 0 ≤ qi := hqr.1
  have hqb : qi < 4294967296 := hqr.2
  obtain ⟨A1, hj2, hj3, hcut1⟩ := Cut.ahead_l 24 5 Tryd.underlying24 size_u8 A M c 6 6 rfl .i64 (by omega)
  obtain ⟨k, hk⟩ : ∃ k, M - 6 = k := ⟨_, rfl⟩
  rw [hk] at hj2 hj3
  obtain ⟨A2, hi2, hi3, hcut2⟩ := Cut.ahead_l 24 5 Tryd.underlying24 size_u8 A M c (6 + qi) (6 + q) (by omega) .i64 (by omega)
  obtain ⟨A3, hl2, hl3, hcut3⟩ := Cut.ahead_lhm 24 5 Tryd.underlying24 size_u8 A M c 6 (6 + qi) 6 (6 + q) rfl (by omega) .i64 .i64 (by omega) (by omega)
  obtain ⟨k2, hk2⟩ : ∃ k2, M - (6 + q) = k2 := ⟨_, rfl⟩
  obtain ⟨c2, hc2⟩ : ∃ c2, c - (6 + q) = c2 := ⟨_, rfl⟩
  rw [hk2, hc2] at hi2 hi3
  rw [show (6 + q) - 6 = q by omega] at hl2 hl3
  have hrd2 : Rd u8 w A2 (R.drop q) := by
    have h := hcut2.drop hr hM hc
    rwa [show (201 :: n0 :: n1 :: n2 :: n3 :: y :: R).drop (6 + q) = R.drop q by (rw [← List.drop_drop]; rfl)] at h
  have hrd3 : Rd u8 w A3 (R.take q) := by
    have h := hcut3 u8 w _ hr hM hc (by omega)
    rwa [List.drop_take, show (6 + q) - 6 = q by omega] at h
  have HRD := hid (And.intro hrd2 hrd3)
  have HL := hid (show (R.take q).length = q ∧ (R.drop q).length = k2 ∧ k2 ≤ c2 from ⟨by rw [List.length_take]; omega, by rw [List.length_drop]; omega, by omega⟩)
  generalize R.take q = X at hrd2 hrd3 HRD HL ⊢
  generalize R.drop q = Y at hrd2 hrd3 HRD HL ⊢
  obtain ⟨bk, o, rfl, d0⟩ := hr.at_ 0 (by simp)
  obtain ⟨bk', o', he, d5⟩ := hr.at_ 5 (by simp)
  injection he with he
  injection he with he1 he2
  subst he1; subst he2
  replace d0 : World.cell? _ ⟨bk, o, none⟩ = some (.int .u8 201) := d0
  replace d5 : World.cell? _ ⟨bk, o + 5, none⟩ = some (.int .u8 y) := d5
  have t3 : decide ((M : Int) < 3) = false := decide_eq_false (by omega)
  have t6 : decide ((M : Int) < 6) = false := decide_eq_false (by omega)
  have b0 : (0 : Int) < M := by omega
  have b5 : (5 : Int) < M := by omega
  have t9 : decide ((k : Int) < qi) = false := decide_eq_false (by omega)
  clear hr hc hM hMR hk h8 hcut1 hcut2 hcut3 hk2 hc2 hrd2 hrd3 hcut4 hr4 hm4 hq hqr hb
  go_enter Tryd.func39, Tryd.ntmps39
  go_wp2_with fail
  go_region_law (go_simp; go_at_call 31; refine (hbe _ (by repeat (first | exact Ch.refl _ _ | apply Ch.drewN | apply Ch.drew))).mono ?_; rintro e w1 ⟨rfl, hch1⟩; have C1 : Ch No w w1 := (by first | exact hch1 | exact (Ch.refl No _).drew.no_no hch1))
  all_goals
    have f5 := C1.cell0 d5
    go_wp2_with (go_quiet (fail))
    refine bodyPost_ret (v := .tuple #[.int .i8 z, .slice A2 k2 c2, .slice A3 q q, .nilIface]) ?_ rfl ?_
    · (simp [results, Tryd.results39, go_sem]; done)
    · exact RxOk.fin HRD.out HL.out (by repeat (first | exact C1 | apply Ch.drewN | apply Ch.drew))
set_option maxRecDepth 100000 in
set_option maxHeartbeats 2000000 in
theorem rx_cut_201 (A : Option Addr) (c : Nat) (n0 n1 n2 n3 y z : Int) (R : List Int) (w : World) (hr : Rd u8 w A (201 :: n0 :: n1 :: n2 :: n3 :: y :: R)) (hc : (201 :: n0 :: n1 :: n2 :: n3 :: y :: R).length ≤ c) (hy : IntKind.i8.wrap y = z) (q : Nat) (hb : Byt (n0 :: n1 :: n2 :: n3 :: y :: R)) (hq : beN [n0, n1, n2, n3] = q) (hs : Sh w) (h8 : R.length < q) :
    Calls Tryd.prog 39 #[.slice A (201 :: n0 :: n1 :: n2 :: n3 :: y :: R).length c] w (RxNo w) := by
  obtain ⟨M, hM⟩ : ∃ M, (201 :: n0 :: n1 :: n2 :: n3 :: y :: R).length = M := ⟨_, rfl⟩
  have hMR : M = 6 + R.length := by rw [← hM]; simp; omega
  rw [hM] at hc ⊢
  obtain ⟨A4, hb2, hb3, hcut4⟩ := Cut.ahead_l 24 5 Tryd.underlying24 size_u8 A M c 1 1 rfl .i64 (by omega)
  have hr4 : Rd u8 w A4 (n0 :: n1 :: n2 :: n3 :: y :: R) := hcut4.drop hr hM hc
  have hbe := fun W (h : Ch No w W) => be32_calls A4 (c - 1) (n0 :: n1 :: n2 :: n3 :: y :: R) W (hr4.keep0 h) hb (by simp)
  rw [show (n0 :: n1 :: n2 :: n3 :: y :: R).length = M - 1 by (rw [← hM]; simp), show (n0 :: n1 :: n2 :: n3 :: y :: R).take 4 = [n0, n1, n2, n3] from rfl] at hbe
  obtain ⟨m4, hm4⟩ : ∃ m4, M - 1 = m4 := ⟨_, rfl⟩
  rw [hm4] at hb2 hb3 hbe
  generalize c - 1 = c4 at hb2 hb3 hbe
  have hqr := beN_range 4 [n0, n1, n2, n3] rfl (fun x hx => hb x (by simp only [List.mem_cons, List.not_mem_nil, or_false] at hx ⊢; rcases hx with rfl | rfl | rfl | rfl <;> simp))
  generalize beN [n0, n1, n2, n3] = qi at hq hqr hbe
  have hqa : 0 ≤ qi := hqr.1
  have hqb : qi < 4294967296 := hqr.2
  obtain ⟨A1, hj2, hj3, hcut1⟩ := Cut.ahead_l 24 5 Tryd.underlying24 size_u8 A M c 6 6 rfl .i64 (by omega)
  obtain ⟨k, hk⟩ : ∃ k, M - 6 = k := ⟨_, rfl⟩
  rw [hk] at hj2 hj3
  obtain ⟨T, v, hg⟩ := hs
  obtain ⟨bk, o, rfl, d0⟩ := hr.at_ 0 (by simp)
  obtain ⟨bk', o', he, d5⟩ := hr.at_ 5 (by simp)
  injection he with he
  injection he with he1 he2
  subst he1; subst he2
  replace d0 : World.cell? _ ⟨bk, o, none⟩ = some (.int .u8 201) := d0
  replace d5 : World.cell? _ ⟨bk, o + 5, none⟩ = some (.int .u8 y) := d5
  have t3 : decide ((M : Int) < 3) = false := decide_eq_false (by omega)
  have t6 : decide ((M : Int) < 6) = false := decide_eq_false (by omega)
  have b0 : (0 : Int) < M := by omega
  have b5 : (5 : Int) < M := by omega
  have t9 : decide ((k : Int) < qi) = true := decide_eq_true (by omega)
  clear hr hc hM hMR hk h8 hcut1 hcut4 hr4 hm4 hq hqr hb
  go_enter Tryd.func39, Tryd.ntmps39
  go_wp2_with fail
  go_region_law (go_simp; go_at_call 31; refine (hbe _ (by repeat (first | exact Ch.refl _ _ | apply Ch.drewN | apply Ch.drew))).mono ?_; rintro e w1 ⟨rfl, hch1⟩; have C1 : Ch No w w1 := (by first | exact hch1 | exact (Ch.refl No _).drew.no_no hch1))
  all_goals
    have f5 := C1.cell0 d5
    have hg1 := C1.cell0 hg
    go_wp2_with (go_quiet (fail))
    refine bodyPost_ret (v := .tuple #[.int .i8 0, .slice (some ⟨bk, o, none⟩) M c, .slice none 0 0, .iface T v]) ?_ rfl ?_
    · (simp [results, Tryd.results39, go_sem]; done)
    · exact ⟨_, _, _, _, _, rfl, (by repeat (first | exact C1 | apply Ch.drewN | apply Ch.drew))⟩

end Go.Proofs.YtooifcdkpddlmaaDoor
