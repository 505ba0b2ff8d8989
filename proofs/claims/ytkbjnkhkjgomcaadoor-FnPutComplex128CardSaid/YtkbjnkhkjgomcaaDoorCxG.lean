/- The walks of MessagePack's complex numbers read, by the code and by the reference. No condition. -/
import Derived.Test.YtkbjnkhkjgomcaaDoorCx
import Derived.Test.YtkbjnkhkjgomcaaDoorReads
import Derived.Deep.RegionLaw
namespace Go.Proofs.YtkbjnkhkjgomcaaDoor
set_option linter.unusedVariables false
set_option linter.unusedSimpArgs false
open Go.RowKit

theorem beN_be8' (n : Int) (h0 : 0 ≤ n) : beN (be8 n) = n := beN_be8 n
theorem byt_encC {re im : Int} (h0 : 0 ≤ re) (h1 : re < 18446744073709551616) (k0 : 0 ≤ im) (k1 : im < 18446744073709551616) : Byt (encC re im) :=
  ((Byt.nil.cons (b := 4) (by omega) (by omega)).cons (b := 216) (by omega) (by omega)).append (byt_be8 h0 h1) |>.append (byt_be8 k0 k1)
def CxTo (n m : Nat) (w : World) (e : Ending) (w' : World) : Prop := ∃ A' c', e = .returned (.tuple #[.complex .f64 n m, .slice A' 0 c', .nilIface]) ∧ Ch No w w'
set_option maxRecDepth 100000 in
set_option maxHeartbeats 4000000 in
theorem readCx (A : Option Addr) (c : Nat) (n m : Nat) (w : World) (hr : Rd u8 w A (encC n m)) (hc : 18 ≤ c) (hn : (n : Int) < 18446744073709551616) (hm : (m : Int) < 18446744073709551616) :
    Calls Tryd.prog 14 #[.slice A 18 c] w (CxTo n m w) := by
  have hf0 := float64frombits_run n
  have hf1 := float64frombits_run m
  rw [Int.toNat_natCast] at hf0 hf1
  obtain ⟨A2, hk2, hk2', hcut2⟩ := Cut.ahead_l 22 5 Tryd.underlying22 size_u8 A 18 c 2 2 rfl .i64 (by omega)
  have hr2 : Rd u8 w A2 ((encC n m).drop 2) := hcut2.drop hr (encC_len _ _) hc
  have hb2 : Byt ((encC n m).drop 2) := fun x hx => byt_encC (by omega) hn (by omega) hm x (List.mem_of_mem_drop hx)
  have hU2 := fun W (h : Ch No w W) => be64_calls A2 (c - 2) ((encC n m).drop 2) W (hr2.keep0 h) hb2 (by simp [encC, be8])
  rw [show ((encC n m).drop 2).length = 16 from rfl] at hU2
  clear hcut2
  simp only [Nat.reduceSub] at hk2 hk2'
  obtain ⟨A10, hk10, hk10', hcut10⟩ := Cut.ahead_l 22 5 Tryd.underlying22 size_u8 A 18 c 10 10 rfl .i64 (by omega)
  have hr10 : Rd u8 w A10 ((encC n m).drop 10) := hcut10.drop hr (encC_len _ _) hc
  have hb10 : Byt ((encC n m).drop 10) := fun x hx => byt_encC (by omega) hn (by omega) hm x (List.mem_of_mem_drop hx)
  have hU10 := fun W (h : Ch No w W) => be64_calls A10 (c - 10) ((encC n m).drop 10) W (hr10.keep0 h) hb10 (by simp [encC, be8])
  rw [show ((encC n m).drop 10).length = 8 from rfl] at hU10
  clear hcut10
  simp only [Nat.reduceSub] at hk10 hk10'
  obtain ⟨A18, hk18, hk18', hcut18⟩ := Cut.ahead_l 22 5 Tryd.underlying22 size_u8 A 18 c 18 18 rfl .i64 (by omega)
  clear hcut18
  simp only [Nat.reduceSub] at hk18 hk18'

  rw [show ((encC n m).drop 2).take 8 = be8 n from rfl, beN_be8] at hU2
  rw [show ((encC n m).drop 10).take 8 = be8 m from rfl, beN_be8] at hU10
  clear hr2 hr10 hb2 hb10
  obtain ⟨bk, off, rfl, d0⟩ := hr.at_ 0 (by simp [encC])
  obtain ⟨bk', off', he, d1⟩ := hr.at_ 1 (by simp [encC])
  injection he with he
  injection he with he1 he2
  subst he1; subst he2
  replace d0 : World.cell? _ ⟨bk, off, none⟩ = some (.int .u8 216) := d0
  replace d1 : World.cell? _ ⟨bk, off + 1, none⟩ = some (.int .u8 4) := d1
  generalize c - 2 = c2 at hk2 hk2' hU2
  generalize c - 10 = c10 at hk10 hk10' hU10
  generalize c - 18 = c18 at hk18 hk18'
  have hU : ∀ (W : World) (A' : Option Addr) (k c' : Nat), Ch No w W → ((A' = A2 ∧ k = 16 ∧ c' = c2) ∨ (A' = A10 ∧ k = 8 ∧ c' = c10)) → Calls Tryd.prog 22 #[.agg #[], .slice A' k c'] W fun e w' => ∃ z : Int, e = .returned (.int .u64 z) ∧ ((k = 16 ∧ z = n) ∨ (k = 8 ∧ z = m)) ∧ Ch No W w' := by
    intro W A' k c' hW h
    rcases h with ⟨rfl, rfl, rfl⟩ | ⟨rfl, rfl, rfl⟩
    · exact (hU2 W hW).mono fun e w' ⟨he, hc⟩ => ⟨_, he, .inl ⟨rfl, rfl⟩, hc⟩
    · exact (hU10 W hW).mono fun e w' ⟨he, hc⟩ => ⟨_, he, .inr ⟨rfl, rfl⟩, hc⟩
  clear hr hU2 hU10
  go_enter Tryd.func14, Tryd.ntmps14
  go_wp2_with fail
  go_region_law (first | (go_simp; go_at_call 22; refine (hU _ _ _ _ (by (repeat (first | exact Ch.refl _ _ | assumption | apply Ch.alloc | apply Ch.drew | apply Ch.drewN))) (by simp)).mono ?_; rintro e wx ⟨z, rfl, hz, hch⟩; have hz := hz; simp at hz; subst hz; have HC : Ch No w wx := Ch.no_no (by (repeat (first | exact Ch.refl _ _ | assumption | apply Ch.alloc | apply Ch.drew | apply Ch.drewN))) hch; clear hch))

  all_goals
    go_wp2
    go_ret3
    exact ⟨A18, c18, rfl, by repeat (first | exact Ch.refl _ _ | assumption | apply Ch.alloc | apply Ch.drew | apply Ch.drewN)⟩
set_option maxRecDepth 100000 in
set_option maxHeartbeats 2000000 in
theorem getCx (A : Option Addr) (c : Nat) (n m : Nat) (w : World) (hr : Rd u8 w A (encC n m)) (hc : 18 ≤ c) (hn : (n : Int) < 18446744073709551616) (hm : (m : Int) < 18446744073709551616) :
    Calls Tryd.prog 7 #[.slice A 18 c] w fun e w' => ∃ A' c', e = .returned (.tuple #[.int .u64 n, .int .u64 m, .slice A' 0 c', .bool true]) ∧ Ch No w w' := by
  have hfb0 := float64bits_run n
  have hfb1 := float64bits_run m
  have hread := readCx A c n m w hr hc hn hm
  go_enter Tryd.func7, Tryd.ntmps7
  go_wp2_with fail
  refine hread.mono ?_
  rintro e w1 ⟨A1, c1, rfl, hch1⟩
  go_wp2_with fail
  refine (copied_calls A1 c1 [] w1 (Rd.nil _ _ _) (by simp)).mono ?_
  rintro e w2 ⟨v2, rfl, ho2, _, hch2⟩
  obtain ⟨A2, c2, rfl, _, _⟩ := ho2.slice
  go_wp2_with fail
  refine bodyPost_ret (v := .tuple #[.int .u64 n, .int .u64 m, .slice A2 0 c2, .bool true]) (by simp [results, Tryd.results7, go_sem]) rfl ?_
  exact ⟨A2, c2, rfl, hch1.no_no hch2⟩
theorem Cut.ahead_lh {P : Program} (t e : TypeId) (ht : P.underlying t = some (.slice e)) (hsz : (P.info? e).map (·.size) = some 1) (A : Option Addr) (n c : Nat) (i i' : Int) (L H : Nat) (hi : i = (L : Int)) (hi' : i' = (H : Int)) (k k' : IntKind) (hL : L ≤ H) (hH : H ≤ c) :
    ∃ A', (∀ W : World, (Instr.sliceAt t (.slice A n c) (some (.int k i)) (some (.int k' i')) none).run P W = .ok (.slice A' (H - L) (c - L)) W) ∧ (∀ W : World, (Instr.slice t (.slice A n c) (some (.int k i)) (some (.int k' i')) none).run P W = .ok (.slice A' (H - L) (c - L)) W) ∧ Cut A n c L H A' := by
  subst hi; subst hi'
  obtain ⟨inf, hinf, hs⟩ := Option.map_eq_some_iff.1 hsz
  have hel : P.elem t = e := by simp [Program.elem, ht]
  have hu : P.underlying t = some (.slice (P.elem t)) := by rw [hel]; exact ht
  have h0 : ∀ W : World, (Instr.slice t (.slice A n c) (some (.int k (L : Int))) (some (.int k' (H : Int))) none).run P W = .ok (.slice (if c = L then A else A.map (·.add L)) (H - L) (c - L)) W := fun W => by
    rw [run_slice_lh W t A n c hu k k' (L : Int) (H : Int) (Int.natCast_nonneg _) (by omega) (by omega), hel]
    simp [sizeOf, typeInfo, hinf, hs, sliced, Result.andThen]
  exact ⟨_, fun W => by rw [run_sliceAt_slice W t _ _ _ _ hu, h0], h0, Cut.mk' A n c L H⟩
/-- An extension of 16 bytes. -/
theorem takeExt_16 (A : Option Addr) (c : Nat) (t : Int) (d l : List Int) (w : World) (hd : d.length = 16) (hr : Rd u8 w A (t :: d ++ l)) (hc : (t :: d ++ l).length ≤ c) (ht : 0 ≤ t) (ht1 : t < 128) (hll : (t :: d ++ l).length ≤ 35184372088832) :
    Calls Tryd.prog 19 #[.int .u64 16, .slice A (t :: d ++ l).length c] w (TOk w A (t :: d ++ l) 17 c 10 0 (strOfNums d) t) := by
  have hlen : (t :: d ++ l).length = l.length + 17 := by simp [hd]; omega
  obtain ⟨A1, hk1, hk1', hcut1⟩ := Cut.ahead_lh 22 5 Tryd.underlying22 size_u8 A (t :: d ++ l).length c 1 17 1 17 rfl rfl .i64 .u64 (by omega) (by omega)
  obtain ⟨A2, hk2, hk2', hcut2⟩ := Cut.ahead_l 22 5 Tryd.underlying22 size_u8 A (t :: d ++ l).length c 17 17 rfl .u64 (by omega)
  have hrd : Rd u8 w A1 d := by
    have h := hcut1.rd u8 w _ hr rfl hc (by omega)
    rw [show ((t :: d ++ l).take 17).drop 1 = d by simp [List.take_append_of_le_length, hd, List.take_of_length_le]] at h
    exact h
  have hconv0 := conv_rd (c := c - 1) hrd
  rw [hd] at hconv0
  have hconv := hconv0 (w.alloc ZP).drew ((Ch.refl _ _).alloc _).drew
  obtain ⟨bk, off, rfl, d0⟩ := hr.at_ 0 (by simp)
  replace d0 : World.cell? _ ⟨bk, off, none⟩ = some (.int .u8 t) := d0
  have d1 : World.cell? (w.alloc ZP) ⟨bk, off, none⟩ = some (.int .u8 t) := ((Ch.refl No w).alloc ZP).cell0 d0
  have d2 : World.cell? (w.alloc ZP).drew ⟨bk, off, none⟩ = some (.int .u8 t) := ((Ch.refl No w).alloc ZP).drew.cell0 d0
  obtain ⟨M, hM⟩ : ∃ M, (t :: d ++ l).length = M := ⟨_, rfl⟩
  unfold TOk
  rw [hM] at hk1 hk1' hk2 hk2' hlen hcut2 hll ⊢
  simp only [Nat.reduceSub] at hk1 hk1'
  have e1 : ((M : Int) == 0) = false := beq_eq_false_iff_ne.2 (by omega)
  have e2 : IntKind.u64.wrap ((M : Int) - 1) = (M : Int) - 1 := by simp [IntKind.wrap, IntKind.bits, IntKind.signed]; omega
  have e3 : decide ((M : Int) - 1 < 16) = false := decide_eq_false (by omega)
  have e4 : IntKind.i8.wrap t = t := by simp [IntKind.wrap, IntKind.bits, IntKind.signed]; omega
  have e5 : IntKind.i64.wrap ((M : Int) - 1) = (M : Int) - 1 := by simp [IntKind.wrap, IntKind.bits, IntKind.signed]; omega
  have e6 : (0 : Int) < M := by omega
  generalize strOfNums d = S at hconv ⊢
  clear hconv0 hrd hcut1 hM hr hc hd hlen
  go_enter Tryd.func19, Tryd.ntmps19
  go_wp2
  go_region
  all_goals
    go_wp2
    refine bodyPost_ret (v := .tuple #[pk 10 0 S t, .slice A2 (M - 17) (c - 17), .bool true]) (by simp [results, Tryd.results19, go_sem, pk]) rfl ?_
    exact ⟨((Ch.refl _ _).alloc _).drew, A2, rfl, hcut2⟩
end Go.Proofs.YtkbjnkhkjgomcaaDoor
