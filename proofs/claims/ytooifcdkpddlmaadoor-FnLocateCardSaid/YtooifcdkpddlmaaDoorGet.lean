/- The walks of MessagePack's readers of heads of maps. No condition. -/
import Derived.Test.YtooifcdkpddlmaaDoorBad
import Derived.Test.YtooifcdkpddlmaaDoorCodec
import Derived.Lib.EndianBits
import Derived.RegionTactic
import Derived.Deep.QuietTactic
namespace Go.Proofs.YtooifcdkpddlmaaDoor
set_option linter.unusedVariables false
set_option linter.unusedSimpArgs false
open Go.RowKit

theorem size_bs : (Tryd.prog.info? 118).map (·.size) = some 4 := by kernel_rfl
set_option maxRecDepth 100000 in
set_option maxHeartbeats 1000000 in
theorem getBs (b : Int) (w : World) (h0 : 0 ≤ b) (h1 : b < 256) : Calls Tryd.prog 48 #[.int .u8 b] w (BsTo w) := by
  have hR := Row.alloc w [.int .u8 0, .int .i8 0, .int .u8 0, .int .u8 0] 118
  go_enter Tryd.func48, Tryd.ntmps48
  go_wp2_with (first | (go_at_call 52; refine (calc_calls b _ h0 h1).mono ?_; rintro e w1 ⟨x, y, z, t, rfl, hch1⟩) | ((with_reducible refine gate (.store 118 _ _) rfl ?_); refine wp_store rfl rfl 118 _ _ rfl w.heap.size 0 118 [.int .u8 0, .int .i8 0, .int .u8 0, .int .u8 0] (.agg #[.int .u8 x, .int .i8 y, .int .u8 z, .int .u8 t]) rfl rfl [.int .u8 x, .int .i8 y, .int .u8 z, .int .u8 t] rfl size_bs (by simp [Value.oneCell']) (hR.keep0 hch1) (by simp) ?_; intro w2 hrow2 hch2))
  have d0 := hrow2.cell 0 _ rfl
  have d1 := hrow2.cell 1 _ rfl
  have d2 := hrow2.cell 2 _ rfl
  have d3 := hrow2.cell 3 _ rfl
  refine bodyPost_ret (v := .agg #[.int .u8 x, .int .i8 y, .int .u8 z, .int .u8 t]) ?_ rfl ?_
  · simp [results, Tryd.results48, go_sem, d0, d1, d2, d3]
  exact ⟨x, y, z, t, rfl, (((Ch.refl No w).alloc _).no_no hch1).freshg hch2 (Nat.le_refl _)⟩
def GtTo (w : World) (e : Ending) (w' : World) : Prop := ∃ z : Int, e = .returned (.int .u8 z) ∧ Ch No w w'
set_option maxRecDepth 100000 in
theorem getType_calls (b : Int) (w : World) (h0 : 0 ≤ b) (h1 : b < 256) : Calls Tryd.prog 43 #[.int .u8 b] w (GtTo w) := by
  go_enter Tryd.func43, Tryd.ntmps43
  go_wp2_with (go_at_call 48; refine (getBs b _ h0 h1).mono ?_; rintro e w1 ⟨x, y, z, t, rfl, hch1⟩; have hfl : (Instr.field 118 (.agg #[.int .u8 x, .int .i8 y, .int .u8 z, .int .u8 t]) 2).run Tryd.prog w1 = .ok (.int .u8 z) w1 := by kernel_rfl)
  go_wp2
  go_ret
  exact ⟨z, rfl, hch1⟩
/-- An error that is not nil. -/
def ErTo (w : World) (e : Ending) (w' : World) : Prop := ∃ T v, e = .returned (.iface T v) ∧ Ch No w w'
set_option maxRecDepth 100000 in
theorem badPrefix_calls (want b : Int) (w : World) (h0 : 0 ≤ b) (h1 : b < 256) : Calls Tryd.prog 32 #[.int .u8 want, .int .u8 b] w (ErTo w) := by
  go_enter Tryd.func32, Tryd.ntmps32
  go_wp2_with fail
  refine (getType_calls b _ h0 h1).mono ?_
  rintro e w1 ⟨z, rfl, hch1⟩
  by_cases hz : z = 0
  · subst hz
    go_wp2
    go_ret
    exact ⟨_, _, rfl, hch1⟩
  · have hz' : (z == 0) = false := beq_eq_false_iff_ne.2 hz
    go_wp2
    go_ret
    exact ⟨_, _, rfl, hch1⟩
theorem isfixmap_calls (b : Int) (w : World) (h0 : 0 ≤ b) (h1 : b < 256) : Calls Tryd.prog 28 #[.int .u8 b] w fun e w' => e = .returned (.bool (decide (128 ≤ b ∧ b < 144))) ∧ w = w' := by
  go_enter Tryd.func28, Tryd.ntmps28
  go_wp2
  go_ret
  refine ⟨?_, rfl⟩
  have hf : ∀ k : Fin 256, (bits .and .u8 (k.val : Int) 240 == 128) = decide (128 ≤ (k.val : Int) ∧ (k.val : Int) < 144) := by decide +kernel
  have := hf ⟨b.toNat, by omega⟩
  rw [show ((b.toNat : Nat) : Int) = b by omega] at this
  first | exact congrArg (fun x => Ending.returned (Value.bool x)) this | (simp; trace_state; sorry)
theorem rfixmap_calls (b : Int) (w : World) (h0 : 128 ≤ b) (h1 : b < 144) : Calls Tryd.prog 29 #[.int .u8 b] w fun e w' => e = .returned (.int .u8 (b - 128)) ∧ w = w' := by
  go_enter Tryd.func29, Tryd.ntmps29
  go_wp2
  go_ret
  refine ⟨?_, rfl⟩
  have hf : ∀ k : Fin 16, bits .and .u8 ((k.val : Int) + 128) 15 = (k.val : Int) := by decide +kernel
  have := hf ⟨(b - 128).toNat, by omega⟩
  rw [show (((b - 128).toNat : Nat) : Int) = b - 128 by omega, show b - 128 + 128 = b by omega] at this
  first | exact congrArg (fun x => Ending.returned (Value.int .u8 x)) this | (simp; omega)
set_option maxRecDepth 100000 in
set_option maxHeartbeats 1000000 in
theorem be16_calls (A : Option Addr) (c : Nat) (l : List Int) (w : World) (hr : Rd u8 w A l) (hb : Byt l) (hn : 2 ≤ l.length) :
    Calls Tryd.prog 30 #[.agg #[], .slice A l.length c] w fun e w' => e = .returned (.int .u16 (beN (l.take 2))) ∧ Ch No w w' := by
  match l, hn with
  | b0 :: b1 :: r, _ =>
    have hr' := hr.keep0 ((Ch.refl No w).alloc (.cells #[] 80))
    obtain ⟨bk, off, rfl, c0⟩ := hr'.at_ 0 (by simp)
    obtain ⟨bk', off', he, c1⟩ := hr'.at_ 1 (by simp)
    injection he with he
    injection he with he1 he2
    subst he1; subst he2
    simp only [List.getElem_cons_zero, List.getElem_cons_succ, Nat.add_zero] at c0 c1
    replace c0 : World.cell? _ _ = some (.int .u8 b0) := c0
    replace c1 : World.cell? _ _ = some (.int .u8 b1) := c1
    have h0 := hb b0 (by simp)
    have h1 := hb b1 (by simp)
    have hlen : (1 : Int) < ((b0 :: b1 :: r).length : Int) := by simp; omega
    have hor : bits .or .u16 b1 (b0 * 256) = b0 * 256 + b1 := by
      rw [bits_join_low .u16 16 (by decide) (fun n h0 h1 => by simp [IntKind.wrap, IntKind.bits, IntKind.signed]; omega) 8 b1 (b0 * 256) (by omega) (by omega) (by omega) (by omega) (by omega) (by omega)]
      omega
    have hN : beN ((b0 :: b1 :: r).take 2) = b0 * 256 + b1 := by simp [beN]
    rw [hN]
    obtain ⟨m, hm⟩ : ∃ m, (b0 :: b1 :: r).length = m := ⟨_, rfl⟩
    rw [hm] at hlen ⊢
    clear hN hm hr' hr hb
    go_enter Tryd.func30, Tryd.ntmps30
    go_wp2_with (go_quiet (fail))
    go_ret
    exact ⟨rfl, ((Ch.refl No w).alloc _).drewN _⟩
set_option maxRecDepth 100000 in
set_option maxHeartbeats 1000000 in
theorem be32_calls (A : Option Addr) (c : Nat) (l : List Int) (w : World) (hr : Rd u8 w A l) (hb : Byt l) (hn : 4 ≤ l.length) :
    Calls Tryd.prog 31 #[.agg #[], .slice A l.length c] w fun e w' => e = .returned (.int .u32 (beN (l.take 4))) ∧ Ch No w w' := by
  match l, hn with
  | b0 :: b1 :: b2 :: b3 :: r, _ =>
    have hr' := hr.keep0 ((Ch.refl No w).alloc (.cells #[] 80))
    obtain ⟨bk, off, rfl, c0⟩ := hr'.at_ 0 (by simp)
    obtain ⟨bk', off', he, c1⟩ := hr'.at_ 1 (by simp)
    injection he with he
    injection he with he1 he2
    subst he1; subst he2
    obtain ⟨bk', off', he, c2⟩ := hr'.at_ 2 (by simp)
    injection he with he
    injection he with he1 he2
    subst he1; subst he2
    obtain ⟨bk', off', he, c3⟩ := hr'.at_ 3 (by simp)
    injection he with he
    injection he with he1 he2
    subst he1; subst he2

    simp only [List.getElem_cons_zero, List.getElem_cons_succ, Nat.add_zero] at c0 c1 c2 c3
    replace c0 : World.cell? _ _ = some (.int .u8 b0) := c0
    replace c1 : World.cell? _ _ = some (.int .u8 b1) := c1
    replace c2 : World.cell? _ _ = some (.int .u8 b2) := c2
    replace c3 : World.cell? _ _ = some (.int .u8 b3) := c3
    have h0 := hb b0 (by simp)
    have h1 := hb b1 (by simp)
    have h2 := hb b2 (by simp)
    have h3 := hb b3 (by simp)
    have hlen : (3 : Int) < ((b0 :: b1 :: b2 :: b3 :: r).length : Int) := by simp; omega
    have hwr : ∀ n : Int, 0 ≤ n → n < 2 ^ 32 → IntKind.u32.wrap n = n := fun n h0 h1 => by simp [IntKind.wrap, IntKind.bits, IntKind.signed]; omega
    have hor1 : bits .or .u32 b3 (b2 * 256) = b2 * 256 + b3 := by
      rw [bits_join_low .u32 32 (by decide) hwr 8 b3 (b2 * 256) (by omega) (by omega) (by omega) (by omega) (by omega) (by omega)]
      omega
    have hor2 : bits .or .u32 (b2 * 256 + b3) (b1 * 65536) = b1 * 65536 + (b2 * 256 + b3) := by
      rw [bits_join_low .u32 32 (by decide) hwr 16 (b2 * 256 + b3) (b1 * 65536) (by omega) (by omega) (by omega) (by omega) (by omega) (by omega)]
      omega
    have hor3 : bits .or .u32 (b1 * 65536 + (b2 * 256 + b3)) (b0 * 16777216) = b0 * 16777216 + (b1 * 65536 + (b2 * 256 + b3)) := by
      rw [bits_join_low .u32 32 (by decide) hwr 24 (b1 * 65536 + (b2 * 256 + b3)) (b0 * 16777216) (by omega) (by omega) (by omega) (by omega) (by omega) (by omega)]
      omega
    have hN : beN ((b0 :: b1 :: b2 :: b3 :: r).take 4) = b0 * 16777216 + (b1 * 65536 + (b2 * 256 + b3)) := by simp [beN]; omega
    rw [hN]
    obtain ⟨m, hm⟩ : ∃ m, (b0 :: b1 :: b2 :: b3 :: r).length = m := ⟨_, rfl⟩
    rw [hm] at hlen ⊢
    clear hN hm hr' hr hb hwr
    go_enter Tryd.func31, Tryd.ntmps31
    go_wp2_with (go_quiet (fail))
    go_ret
    exact ⟨rfl, ((Ch.refl No w).alloc _).drewN _⟩
end Go.Proofs.YtooifcdkpddlmaaDoor
