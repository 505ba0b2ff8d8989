/- The plain law of MessagePack's extensions: what is written is read, what is refused. No condition. -/
import Derived.Test.YtooifcdkpddlmaaDoorExtH
import Derived.Test.YtooifcdkpddlmaaDoorPutK
namespace Go.Proofs.YtooifcdkpddlmaaDoor
set_option linter.unusedVariables false
set_option linter.unusedSimpArgs false
open Go.RowKit

theorem Cut.ahead_lh2 {P : Program} (t e : TypeId) (ht : P.underlying t = some (.slice e)) (hsz : (P.info? e).map (·.size) = some 1) (A : Option Addr) (n c : Nat) (i i' : Int) (L H : Nat) (hi : i = (L : Int)) (hi' : i' = (H : Int)) (k k' : IntKind) (hL : L ≤ H) (hH : H ≤ c) :
    ∃ A', (∀ W : World, (Instr.sliceAt t (.slice A n c) (some (.int k i)) (some (.int k' i')) none).run P W = .ok (.slice A' (H - L) (c - L)) W) ∧ (∀ W : World, (Instr.slice t (.slice A n c) (some (.int k i)) (some (.int k' i')) none).run P W = .ok (.slice A' (H - L) (c - L)) W) ∧ Cut A n c L H A' := by
  subst hi; subst hi'
  obtain ⟨inf, hinf, hs⟩ := Option.map_eq_some_iff.1 hsz
  have hel : P.elem t = e := by simp [Program.elem, ht]
  have hu : P.underlying t = some (.slice (P.elem t)) := by rw [hel]; exact ht
  have h0 : ∀ W : World, (Instr.slice t (.slice A n c) (some (.int k (L : Int))) (some (.int k' (H : Int))) none).run P W = .ok (.slice (if c = L then A else A.map (·.add L)) (H - L) (c - L)) W := fun W => by
    rw [run_slice_lh W t A n c hu k k' (L : Int) (H : Int) (Int.natCast_nonneg _) (by omega) (by omega), hel]
    simp [sizeOf, typeInfo, hinf, hs, sliced, Result.andThen]
  exact ⟨_, fun W => by rw [run_sliceAt_slice W t _ _ _ _ hu, h0], h0, Cut.mk' A n c L H⟩
set_option maxRecDepth 100000 in
set_option maxHeartbeats 1000000 in
theorem rx_tiny (A : Option Addr) (c : Nat) (L : List Int) (w : World) (hs : Sh w) (h : L.length < 3) : Calls Tryd.prog 39 #[.slice A L.length c] w (RxNo w) := by
  obtain ⟨M, hM⟩ : ∃ M, L.length = M := ⟨_, rfl⟩
  rw [hM] at h ⊢
  obtain ⟨T, v, hg⟩ := hs
  have t3 : decide ((M : Int) < 3) = true := decide_eq_true (by omega)
  clear hM h
  go_enter Tryd.func39, Tryd.ntmps39
  go_wp2_with (go_quiet (fail))
  refine bodyPost_ret (v := .tuple #[.int .i8 0, .slice A M c, .slice none 0 0, .iface T v]) ?_ rfl ?_
  · (simp [results, Tryd.results39, go_sem]; done)
  · exact ⟨_, _, _, _, _, rfl, (by repeat (first | exact Ch.refl _ _ | apply Ch.drewN | apply Ch.drew))⟩
set_option maxRecDepth 100000 in
set_option maxHeartbeats 1000000 in
theorem rx_four (A : Option Addr) (c : Nat) (r : List Int) (w : World) (hs : Sh w) (hr : Rd u8 w A (200 :: r)) (h3 : 3 ≤ (200 :: r : List Int).length) (h : (200 :: r : List Int).length < 4) : Calls Tryd.prog 39 #[.slice A (200 :: r : List Int).length c] w (RxNo w) := by
  obtain ⟨bk, o, rfl, d0⟩ := hr.at_ 0 (by simp)
  replace d0 : World.cell? _ ⟨bk, o, none⟩ = some (.int .u8 200) := d0
  obtain ⟨M, hM⟩ : ∃ M, (200 :: r : List Int).length = M := ⟨_, rfl⟩
  rw [hM] at h h3 ⊢
  obtain ⟨T, v, hg⟩ := hs
  have t3 : decide ((M : Int) < 3) = false := decide_eq_false (by omega)
  have t4 : decide ((M : Int) < 4) = true := decide_eq_true (by omega)
  have b0 : (0 : Int) < M := by omega
  clear hM h h3 hr
  go_enter Tryd.func39, Tryd.ntmps39
  go_wp2_with (go_quiet (fail))
  refine bodyPost_ret (v := .tuple #[.int .i8 0, .slice (some ⟨bk, o, none⟩) M c, .slice none 0 0, .iface T v]) ?_ rfl ?_
  · (simp [results, Tryd.results39, go_sem]; done)
  · exact ⟨_, _, _, _, _, rfl, (by repeat (first | exact Ch.refl _ _ | apply Ch.drewN | apply Ch.drew))⟩
set_option maxRecDepth 100000 in
set_option maxHeartbeats 1000000 in
theorem rx_six (A : Option Addr) (c : Nat) (r : List Int) (w : World) (hs : Sh w) (hr : Rd u8 w A (201 :: r)) (h3 : 3 ≤ (201 :: r : List Int).length) (h : (201 :: r : List Int).length < 6) : Calls Tryd.prog 39 #[.slice A (201 :: r : List Int).length c] w (RxNo w) := by
  obtain ⟨bk, o, rfl, d0⟩ := hr.at_ 0 (by simp)
  replace d0 : World.cell? _ ⟨bk, o, none⟩ = some (.int .u8 201) := d0
  obtain ⟨M, hM⟩ : ∃ M, (201 :: r : List Int).length = M := ⟨_, rfl⟩
  rw [hM] at h h3 ⊢
  obtain ⟨T, v, hg⟩ := hs
  have t3 : decide ((M : Int) < 3) = false := decide_eq_false (by omega)
  have t4 : decide ((M : Int) < 6) = true := decide_eq_true (by omega)
  have b0 : (0 : Int) < M := by omega
  clear hM h h3 hr
  go_enter Tryd.func39, Tryd.ntmps39
  go_wp2_with (go_quiet (fail))
  refine bodyPost_ret (v := .tuple #[.int .i8 0, .slice (some ⟨bk, o, none⟩) M c, .slice none 0 0, .iface T v]) ?_ rfl ?_
  · (simp [results, Tryd.results39, go_sem]; done)
  · exact ⟨_, _, _, _, _, rfl, (by repeat (first | exact Ch.refl _ _ | apply Ch.drewN | apply Ch.drew))⟩
set_option maxRecDepth 100000 in
set_option maxHeartbeats 1000000 in
theorem rx_other (A : Option Addr) (c : Nat) (b : Int) (r : List Int) (w : World) (hr : Rd u8 w A (b :: r)) (h3 : 3 ≤ (b :: r).length) (h0 : 0 ≤ b) (h1 : b < 256) (hn : b < 199 ∨ (201 < b ∧ b < 212) ∨ 216 < b) : Calls Tryd.prog 39 #[.slice A (b :: r).length c] w (RxNo w) := by
  obtain ⟨bk, o, rfl, d0⟩ := hr.at_ 0 (by simp)
  replace d0 : World.cell? _ ⟨bk, o, none⟩ = some (.int .u8 b) := d0
  obtain ⟨M, hM⟩ : ∃ M, (b :: r).length = M := ⟨_, rfl⟩
  rw [hM] at h3 ⊢
  have hbp := fun t => badPrefix_calls t b w h0 h1
  have t3 : decide ((M : Int) < 3) = false := decide_eq_false (by omega)
  have b0 : (0 : Int) < M := by omega
  have x212 : (b == 212) = false := beq_eq_false_iff_ne.2 (by omega)
  have x213 : (b == 213) = false := beq_eq_false_iff_ne.2 (by omega)
  have x214 : (b == 214) = false := beq_eq_false_iff_ne.2 (by omega)
  have x215 : (b == 215) = false := beq_eq_false_iff_ne.2 (by omega)
  have x216 : (b == 216) = false := beq_eq_false_iff_ne.2 (by omega)
  have x199 : (b == 199) = false := beq_eq_false_iff_ne.2 (by omega)
  have x200 : (b == 200) = false := beq_eq_false_iff_ne.2 (by omega)
  have x201 : (b == 201) = false := beq_eq_false_iff_ne.2 (by omega)
  clear hM h3 hr hn
  go_enter Tryd.func39, Tryd.ntmps39
  go_wp2_with fail
  refine (hbp _).mono ?_
  rintro e w1 ⟨T, v, rfl, hch1⟩
  go_wp2_with fail
  refine bodyPost_ret (v := .tuple #[.int .i8 0, .slice (some ⟨bk, o, none⟩) M c, .slice none 0 0, .iface T v]) ?_ rfl ?_
  · (simp [results, Tryd.results39, go_sem]; done)
  · exact ⟨_, _, _, _, _, rfl, hch1⟩
set_option maxRecDepth 100000 in
set_option maxHeartbeats 1000000 in
theorem rx_zero (A : Option Addr) (c : Nat) (y z : Int) (R : List Int) (w : World) (hr : Rd u8 w A (199 :: 0 :: y :: R)) (hc : (199 :: 0 :: y :: R).length ≤ c) (hy : IntKind.i8.wrap y = z) : Calls Tryd.prog 39 #[.slice A (199 :: 0 :: y :: R).length c] w (RxOk z [] R w) := by
  obtain ⟨M, hM⟩ : ∃ M, (199 :: 0 :: y :: R).length = M := ⟨_, rfl⟩
  have hMR : M = 3 + R.length := by rw [← hM]; simp; omega
  rw [hM] at hc ⊢
  obtain ⟨A2, hi2, hi3, hcut2⟩ := Cut.ahead_l 24 5 Tryd.underlying24 size_u8 A M c 3 3 rfl .i64 (by omega)
  obtain ⟨A3, hl2, hl3, hcut3⟩ := Cut.ahead_lh2 24 5 Tryd.underlying24 size_u8 A M c 3 3 3 3 rfl rfl .i64 .i64 (by omega) (by omega)
  have hrd2 : Rd u8 w A2 R := hcut2.drop hr hM hc
  obtain ⟨bk, o, rfl, d0⟩ := hr.at_ 0 (by simp)
  obtain ⟨bk', o', he, d1⟩ := hr.at_ 1 (by simp)
  injection he with he
  injection he with he1 he2
  subst he1; subst he2
  obtain ⟨bk', o', he, d2⟩ := hr.at_ 2 (by simp)
  injection he with he
  injection he with he1 he2
  subst he1; subst he2
  replace d0 : World.cell? _ ⟨bk, o, none⟩ = some (.int .u8 199) := d0
  replace d1 : World.cell? _ ⟨bk, o + 1, none⟩ = some (.int .u8 0) := d1
  replace d2 : World.cell? _ ⟨bk, o + 2, none⟩ = some (.int .u8 y) := d2
  have t3 : decide ((M : Int) < 3) = false := decide_eq_false (by omega)
  have b0 : (0 : Int) < M := by omega
  have b1 : (1 : Int) < M := by omega
  have b2 : (2 : Int) < M := by omega
  obtain ⟨k2, hk2⟩ : ∃ k2, M - 3 = k2 := ⟨_, rfl⟩
  obtain ⟨c2, hc2⟩ : ∃ c2, c - 3 = c2 := ⟨_, rfl⟩
  rw [hk2, hc2] at hi2 hi3
  rw [hc2] at hl2 hl3
  have HL := hid (show R.length = k2 ∧ k2 ≤ c2 from ⟨by omega, by omega⟩)
  clear hr hc hM hMR hk2 hc2 hcut2
  go_enter Tryd.func39, Tryd.ntmps39
  go_wp2_with (go_quiet (fail))
  refine bodyPost_ret (v := .tuple #[.int .i8 z, .slice A2 k2 c2, .slice A3 0 c2, .nilIface]) ?_ rfl ?_
  · (simp [results, Tryd.results39, go_sem]; done)
  · obtain ⟨e1, e2⟩ := HL.out
    subst e1
    exact ⟨A3, c2, A2, c2, rfl, Rd.nil _ _ _, by simp, hrd2.keep0 (by repeat (first | exact Ch.refl _ _ | apply Ch.drewN | apply Ch.drew)), e2, (by repeat (first | exact Ch.refl _ _ | apply Ch.drewN | apply Ch.drew))⟩

end Go.Proofs.YtooifcdkpddlmaaDoor
