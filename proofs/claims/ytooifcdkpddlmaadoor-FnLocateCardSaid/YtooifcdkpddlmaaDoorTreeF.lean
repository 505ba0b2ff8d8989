/- The walks of the reference's count of the values in a tree. No condition. -/
import Derived.Test.YtooifcdkpddlmaaDoorTree
import Derived.Deep.LoopGhost
namespace Go.Proofs.YtooifcdkpddlmaaDoor
set_option linter.unusedVariables false
set_option linter.unusedSimpArgs false
open Go.RowKit

def psum (f : Nat → Nat) : Nat → Nat
  | 0 => 0
  | n + 1 => psum f n + f n
/-- How many values there are in a tree. -/
def cnt : Pk → Nat
  | .mk _ _ _ _ m K => 1 + psum (fun i => if h : i < m then cnt (K ⟨i, h⟩) else 0) m
/-- New blocks. -/
def Fro (N : Nat) (b : Nat) : Prop := N ≤ b
theorem psum_le (f : Nat → Nat) {i n : Nat} (h : i ≤ n) : psum f i ≤ psum f n := by
  induction n with
  | zero => obtain rfl : i = 0 := by omega
            exact Nat.le_refl _
  | succ n ih =>
    by_cases hi : i = n + 1
    · subst hi; exact Nat.le_refl _
    · exact Nat.le_trans (ih (by omega)) (by simp [psum])
/-- A kid's cells, in a world that has turned beyond the tree's blocks alone. -/
theorem TrP.kid {w0 w : World} {k n x : Int} {s : ByteArray} {m : Nat} {K : Fin m → Pk} {A : Option Addr} {cap : Nat} {v0 v1 v2 v3 : Value} (h : TrP w0 (.mk k n s x m K) [v0, v1, v2, v3, .slice A m cap]) (hw : Ch (Fro w0.heap.size) w0 w) (i : Nat) (hi : i < m) :
    ∃ (b o : Nat) (u0 u1 u2 u3 u4 : Value), A = some ⟨b, o, none⟩ ∧ TrP w0 (K ⟨i, hi⟩) [u0, u1, u2, u3, u4] ∧ w.cell? ⟨b, o + i * 5, none⟩ = some u0 ∧ w.cell? ⟨b, o + i * 5 + 1, none⟩ = some u1 ∧ w.cell? ⟨b, o + i * 5 + 2, none⟩ = some u2 ∧ w.cell? ⟨b, o + i * 5 + 3, none⟩ = some u3 ∧ w.cell? ⟨b, o + i * 5 + 4, none⟩ = some u4 := by
  obtain ⟨A', cap', h1, _, _, _, _, _, _, h8⟩ := h
  injection h1 with _ h1
  injection h1 with _ h1
  injection h1 with _ h1
  injection h1 with _ h1
  injection h1 with h1 _
  injection h1 with h1 _ _
  obtain ⟨b, o, cs', e, hl, hc, ht⟩ := h8 ⟨i, hi⟩
  match cs', hl with
  | [u0, u1, u2, u3, u4], _ =>
    have hk : ∀ j, j < 5 → w.cell? ⟨b, o + (i * 5 + j), none⟩ = [u0, u1, u2, u3, u4][j]? := fun j hj => by
      have := hc j hj
      rw [List.getElem?_eq_getElem (by simpa using hj)] at this ⊢
      exact hw.cell this (fun hb => by have h2 : b < w0.heap.size := World.block_lt_of_cell? _ _ this; have h3 : w0.heap.size ≤ b := hb; omega)
    exact ⟨b, o, u0, u1, u2, u3, u4, by rw [h1, e], ht, hk 0 (by omega), hk 1 (by omega), hk 2 (by omega), hk 3 (by omega), hk 4 (by omega)⟩
def FewTo (q : Nat) (z : Int) (t : Pk) (w : World) (e : Ending) (w' : World) : Prop :=
  ∃ (b : Bool) (z' : Int), e = .returned (.bool b) ∧ Row w' q 3 [.int .i64 z'] ∧ Ch (fun k => k = q) w w' ∧ (b = true → 0 ≤ z' ∧ z' + cnt t = z)
set_option maxRecDepth 100000 in
set_option maxHeartbeats 2000000 in
theorem few_calls (w0 : World) (q : Nat) (hq : w0.heap.size ≤ q) : ∀ (t : Pk) (v0 v1 v2 v3 v4 : Value) (w : World) (z : Int), TrP w0 t [v0, v1, v2, v3, v4] → Ch (Fro w0.heap.size) w0 w → Row w q 3 [.int .i64 z] → 0 ≤ z → z ≤ 2000 →
    Calls Tryd.prog 37 #[.agg #[v0, v1, v2, v3, v4], .pointer (some ⟨q, 0, none⟩)] w (FewTo q z t w) := by
  intro t
  induction t with
  | mk k n s x m K ih =>
    intro v0 v1 v2 v3 v4 w z ht hw hrow h0 h1
    have ht' := ht
    obtain ⟨A, cap, he, _, _, _, _, hmc, hcm, _⟩ := ht'
    have hmb : m ≤ maxLen := Nat.le_trans hmc hcm
    unfold maxLen at hmb
    clear hmc hcm
    simp only [List.cons.injEq, and_true] at he
    obtain ⟨rfl, rfl, rfl, rfl, rfl⟩ := he
    have hB := Row.alloc w [.int .i64 k, .int .u64 n, .string s, .int .i64 x, .slice A m cap] 35
    have hrow1 := hrow.keep0 ((Ch.refl No w).alloc (.cells #[.int .i64 k, .int .u64 n, .string s, .int .i64 x, .slice A m cap] 35))
    have hc := hrow1.cell 0 _ rfl
    have hf := hrow1.frozen 0
    have hwr : IntKind.i64.wrap (z - 1) = z - 1 := by simp [IntKind.wrap, IntKind.bits, IntKind.signed]; omega
    have hsets := Row.sets [.int .i64 (z - 1)] 0 _ _ hrow1 (by simp)
    by_cases hz : z - 1 < 0
    · have hd : decide (z - 1 < 0) = true := decide_eq_true hz
      go_enter Tryd.func37, Tryd.ntmps37
      go_wp2_with fail
      go_ret
      refine ⟨false, z - 1, rfl, hsets.1, (Ch.of_no ((Ch.refl No w).alloc _)).trans hsets.2 (fun _ h => h) (fun _ h => .inl h), fun h => by cases h⟩
    · have hd : decide (z - 1 < 0) = false := decide_eq_false hz
      go_enter Tryd.func37, Tryd.ntmps37
      go_wp2_with fail
      obtain ⟨hs1, hs2⟩ := hsets
      have hB1 := hB.keep hs2 (by have := hrow.lt; omega)
      have hCs : Ch (fun k => k = q) w ((w.alloc (.cells #[.int .i64 k, .int .u64 n, .string s, .int .i64 x, .slice A m cap] 35)).setCells q 0 [.int .i64 (z - 1)]) := (Ch.of_no ((Ch.refl No w).alloc _)).trans hs2 (fun _ h => h) (fun _ h => .inl h)
      go_loopg [5] m (fun kk s5 wr => ∃ (i : Nat) (zr : Int), kk + i = m ∧ s5 = .int .i64 i ∧ Row wr q 3 [.int .i64 zr] ∧ 0 ≤ zr ∧ zr + 1 + psum (fun i => if h : i < m then cnt (K ⟨i, h⟩) else 0) i = z ∧ Row wr w.heap.size 35 [.int .i64 k, .int .u64 n, .string s, .int .i64 x, .slice A m cap] ∧ Ch (fun k => k = q) w wr)
      case atStart => exact ⟨0, z - 1, by omega, rfl, hs1, by omega, by simp [psum], hB1, hCs⟩
      case round =>
        obtain ⟨i, zr, hki, rfl, hrq, hz0, hzs, hbx, hch⟩ := hrel
        have e4 := hbx.cell 4 _ rfl
        by_cases hi : i < m
        · obtain ⟨b1, o1, u0, u1, u2, u3, u4, rfl, htk, a0, a1, a2, a3, a4⟩ := ht.kid (w := wr) (hw.trans hch (fun _ h => h) (fun k hk => .inl (by subst hk; exact hq))) i hi
          have hi' : (i : Int) < m := by omega
          have hi0 : (0 : Int) ≤ i := by omega
          have hps : psum (fun i => if h : i < m then cnt (K ⟨i, h⟩) else 0) (i + 1) = psum (fun i => if h : i < m then cnt (K ⟨i, h⟩) else 0) i + cnt (K ⟨i, hi⟩) := by
            simp only [psum, dif_pos hi]
          have HPS := hid hps
          clear hps
          go_wp2_with fail
          refine (ih ⟨i, hi⟩ u0 u1 u2 u3 u4 wr zr htk (hw.trans hch (fun _ h => h) (fun k hk => .inl (by subst hk; exact hq))) hrq hz0 (by omega)).mono ?_
          rintro e w2 ⟨bb, z2, rfl, hrow2, hch2, hz2⟩
          have C2 : Ch (fun k => k = q) w w2 := hch.trans hch2 (fun _ h => h) (fun _ h => .inl h)
          have hbx2 := hbx.keep hch2 (by have := hrow.lt; omega)
          cases bb
          · go_wp2_with fail
            go_ret
            exact ⟨false, z2, rfl, hrow2, C2, fun h => by cases h⟩
          · obtain ⟨hz3, hz4⟩ := hz2 rfl
            go_wp2_with fail
            go_roundg (gk - 1)
            case measure => omega
            case rel => exact ⟨i + 1, z2, by omega, by go_num, hrow2, hz3, by have := HPS.out; omega, hbx2, C2⟩
        · obtain rfl : i = m := by omega
          go_wp2_with fail
          go_ret
          refine ⟨true, zr, rfl, hrq, hch, fun _ => ⟨hz0, ?_⟩⟩
          unfold cnt
          omega
end Go.Proofs.YtooifcdkpddlmaaDoor
