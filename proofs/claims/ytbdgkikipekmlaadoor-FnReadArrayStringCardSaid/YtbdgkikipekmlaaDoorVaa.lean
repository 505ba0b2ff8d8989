/- Values of AMQP that come in: trees, and what the cells hold of them. The walk of the reference's count of the values in a value. The walk of the reference's number of the values in a value. No condition. -/
import Derived.Test.YtbdgkikipekmlaaDoorBas
import Derived.ChangeArms
import Derived.DataReads
import Derived.DataElems
import Derived.Deep.LoopGhost
namespace Go.Proofs.YtbdgkikipekmlaaDoor
set_option linter.unusedVariables false
set_option linter.unusedSimpArgs false
open Go.RowKit

inductive Va where
  | mk (k n : Int) (s : ByteArray) (m : Nat) (K : Fin m → Va) (o : Int) (d : Nat) (D : Fin d → Va)
def Va.kind : Va → Int
  | .mk k _ _ _ _ _ _ _ => k
def Va.text : Va → ByteArray
  | .mk _ _ s _ _ _ _ _ => s
def Va.descs : Va → Nat
  | .mk _ _ _ _ _ _ d _ => d
/-- These cells are that tree. -/
def VaP (w : World) : Va → List Value → Prop
  | .mk k n s m K o d D, cs => ∃ A cap B capB, cs = [.int .i64 k, .int .u64 n, .string s, .slice A m cap, .int .i64 o, .slice B d capB] ∧ (Lit.int .i64 k).wf = true ∧ (Lit.int .u64 n).wf = true ∧ (Lit.int .i64 o).wf = true ∧ s.size ≤ maxLen ∧ m ≤ cap ∧ cap ≤ maxLen ∧ d ≤ capB ∧ capB ≤ maxLen ∧
      (∀ i : Fin m, ∃ b o cs', A = some ⟨b, o, none⟩ ∧ cs'.length = 6 ∧ (∀ j, j < 6 → w.cell? ⟨b, o + (i.val * 6 + j), none⟩ = cs'[j]?) ∧ VaP w (K i) cs') ∧
      (∀ i : Fin d, ∃ b o cs', B = some ⟨b, o, none⟩ ∧ cs'.length = 6 ∧ (∀ j, j < 6 → w.cell? ⟨b, o + (i.val * 6 + j), none⟩ = cs'[j]?) ∧ VaP w (D i) cs')
theorem VaP.keep0 {w w' : World} (hch : Ch No w w') : ∀ (t : Va) (cs : List Value), VaP w t cs → VaP w' t cs := by
  intro t
  induction t with
  | mk k n s m K o d D ihK ihD =>
    rintro cs ⟨A, cap, B, capB, h1, h2, h3, h4, h5, h6, h7, h8, h9, hk, hd⟩
    refine ⟨A, cap, B, capB, h1, h2, h3, h4, h5, h6, h7, h8, h9, fun i => ?_, fun i => ?_⟩
    · obtain ⟨b, o, cs', e, hl, hc, ht⟩ := hk i
      refine ⟨b, o, cs', e, hl, fun j hj => ?_, ihK i cs' ht⟩
      have := hc j hj
      rw [List.getElem?_eq_getElem (by omega)] at this ⊢
      exact hch.cell0 this
    · obtain ⟨b, o, cs', e, hl, hc, ht⟩ := hd i
      refine ⟨b, o, cs', e, hl, fun j hj => ?_, ihD i cs' ht⟩
      have := hc j hj
      rw [List.getElem?_eq_getElem (by omega)] at this ⊢
      exact hch.cell0 this
theorem cells_va : Tryd.prog.cellsOf 25 = 6 := by kernel_rfl
section
variable {H : Type} {enc : TypeId × Value → H} {w : World} {base : Nat} {sp : Nat → Bool} {held : Bool}
set_option maxRecDepth 100000 in
/-- A list of Values that comes in: its elements are trees, if each of them is. -/
theorem open_kids {n fuel : Nat} (hn : n < fuel) (ih : ∀ m, m < fuel → ∀ (cs : List Value) (x : DataW H × List MemPlace), DataW.trod enc Tryd.prog w base sp held m 25 cs = some x → ∃ t, VaP w t cs)
    {v : Value} {y : DataW H × List MemPlace} (f : DataW.trod enc Tryd.prog w base sp held n 23 [v] = some y) :
    ∃ (A : Option Addr) (m cap : Nat) (K : Fin m → Va), v = .slice A m cap ∧ m ≤ cap ∧ cap ≤ maxLen ∧ ∀ i : Fin m, ∃ b o cs', A = some ⟨b, o, none⟩ ∧ cs'.length = 6 ∧ (∀ j, j < 6 → w.cell? ⟨b, o + (i.val * 6 + j), none⟩ = cs'[j]?) ∧ VaP w (K i) cs' := by
  rcases DataW.trod_slice Tryd.underlying23 f with ⟨h0, _⟩ | ⟨a, len, cap, elems, rest, n', rfl, h0, _, _, hlc, hcm, hel, hat, _, _⟩
  · obtain rfl : v = .slice none 0 0 := by simpa using h0
    exact ⟨none, 0, 0, fun i => i.elim0, rfl, Nat.le_refl _, by decide, fun i => i.elim0⟩
  · obtain rfl : v = .slice (some a) len cap := by simpa using h0
    have hsp : 0 < len → a.spot = none := fun hp => by
      have hi := hat 0 hp
      rw [List.getElem?_eq_getElem (by omega)] at hi
      obtain ⟨cs', h1, _⟩ := Option.bind_eq_some_iff.1 hi
      obtain ⟨_, h5, hcell⟩ := World.cells?_some h1
      rw [cells_va] at h5 hcell
      have hc0 := hcell 0 (by omega)
      rw [List.getElem?_eq_getElem (by omega)] at hc0
      simpa [Addr.add] using World.cell?_spot hc0
    have hk : ∀ i : Fin len, ∃ (t : Va) (b o : Nat) (cs' : List Value), a = ⟨b, o, none⟩ ∧ cs'.length = 6 ∧ (∀ j, j < 6 → w.cell? ⟨b, o + (i.val * 6 + j), none⟩ = cs'[j]?) ∧ VaP w t cs' := fun i => by
      have hi := hat i.val i.isLt
      rw [List.getElem?_eq_getElem (by omega)] at hi
      obtain ⟨cs', h1, h2⟩ := Option.bind_eq_some_iff.1 hi
      obtain ⟨t, ht⟩ := ih n' (by omega) cs' _ h2
      obtain ⟨_, h5, hcell⟩ := World.cells?_some h1
      rw [cells_va] at h5 hcell
      obtain ⟨b, o, spot⟩ := a
      have hs : spot = none := hsp (by have := i.isLt; omega)
      subst hs
      refine ⟨t, b, o, cs', rfl, h5, fun j hj => ?_, ht⟩
      have := hcell j hj
      rw [Addr.add_add] at this
      rw [← this]
      unfold Addr.add
      split <;> simp_all
    refine ⟨some a, len, cap, fun i => Classical.choose (hk i), rfl, hlc, hcm, fun i => ?_⟩
    obtain ⟨b, o, cs', e1, e2, e3, e4⟩ := Classical.choose_spec (hk i)
    exact ⟨b, o, cs', by rw [e1], e2, e3, e4⟩
set_option maxRecDepth 100000 in
theorem open_va : ∀ (fuel : Nat) (cs : List Value) (x : DataW H × List MemPlace), DataW.trod enc Tryd.prog w base sp held fuel 25 cs = some x → ∃ t, VaP w t cs := by
  intro fuel
  induction fuel using Nat.strongRecOn with
  | ind fuel ih =>
    intro cs x h
    obtain ⟨xs, n, rfl, rfl, hl, hlen, hf⟩ := DataW.trod_struct Tryd.underlying25 h
    rw [cells_va] at hl
    replace hlen : xs.length = 6 := hlen
    match cs, hl, xs, hlen with
    | [v0, v1, v2, v3, v4, v5], _, [y0, y1, y2, y3, y4, y5], _ =>
      have f0 : DataW.trod enc Tryd.prog w base sp held n 3 (([v0, v1, v2, v3, v4, v5].drop 0).take (Tryd.prog.cellsOf 3)) = some y0 := hf 0 _ rfl
      have f1 : DataW.trod enc Tryd.prog w base sp held n 22 (([v0, v1, v2, v3, v4, v5].drop 1).take (Tryd.prog.cellsOf 22)) = some y1 := hf 1 _ rfl
      have f2 : DataW.trod enc Tryd.prog w base sp held n 9 (([v0, v1, v2, v3, v4, v5].drop 2).take (Tryd.prog.cellsOf 9)) = some y2 := hf 2 _ rfl
      have f3 : DataW.trod enc Tryd.prog w base sp held n 23 (([v0, v1, v2, v3, v4, v5].drop 3).take (Tryd.prog.cellsOf 23)) = some y3 := hf 3 _ rfl
      have f4 : DataW.trod enc Tryd.prog w base sp held n 3 (([v0, v1, v2, v3, v4, v5].drop 4).take (Tryd.prog.cellsOf 3)) = some y4 := hf 4 _ rfl
      have f5 : DataW.trod enc Tryd.prog w base sp held n 23 (([v0, v1, v2, v3, v4, v5].drop 5).take (Tryd.prog.cellsOf 23)) = some y5 := hf 5 _ rfl

      simp only [show Tryd.prog.cellsOf 3 = 1 by kernel_rfl, show Tryd.prog.cellsOf 22 = 1 by kernel_rfl, show Tryd.prog.cellsOf 9 = 1 by kernel_rfl, show Tryd.prog.cellsOf 23 = 1 by kernel_rfl, List.drop_zero, List.drop_succ_cons, List.take_succ_cons, List.take_zero] at f0 f1 f2 f3 f4 f5
      obtain ⟨k, hk, _, wk⟩ := DataW.trod_int Tryd.underlying3 f0
      obtain ⟨u, hu, _, wu⟩ := DataW.trod_int Tryd.underlying22 f1
      obtain ⟨s, hs, _, ws⟩ := DataW.trod_string Tryd.underlying9 f2
      obtain ⟨e, he, _, we⟩ := DataW.trod_int Tryd.underlying3 f4
      obtain rfl : v0 = .int .i64 k := by simpa using hk
      obtain rfl : v1 = .int .u64 u := by simpa using hu
      obtain rfl : v2 = .string s := by simpa using hs
      obtain rfl : v4 = .int .i64 e := by simpa using he
      obtain ⟨A, m, cap, K, rfl, a1, a2, a3⟩ := open_kids (n := n) (Nat.lt_succ_self n) ih f3
      obtain ⟨B, d, capB, D, rfl, b1, b2, b3⟩ := open_kids (n := n) (Nat.lt_succ_self n) ih f5
      exact ⟨.mk k u s m K e d D, A, cap, B, capB, rfl, wk, wu, we, ws, a1, a2, b1, b2, a3, b3⟩
end
def psum (f : Nat → Nat) : Nat → Nat
  | 0 => 0
  | n + 1 => psum f n + f n
theorem psum_le (f : Nat → Nat) {i n : Nat} (h : i ≤ n) : psum f i ≤ psum f n := by
  induction n with
  | zero => obtain rfl : i = 0 := by omega
            exact Nat.le_refl _
  | succ n ih =>
    by_cases hi : i = n + 1
    · subst hi; exact Nat.le_refl _
    · exact Nat.le_trans (ih (by omega)) (by simp [psum])
/-- New blocks. -/
def Fro (N : Nat) (b : Nat) : Prop := N ≤ b
/-- How many values there are in a tree. -/
def cntV : Va → Nat
  | .mk _ _ _ m K _ d D => 1 + psum (fun i => if h : i < m then cntV (K ⟨i, h⟩) else 0) m + psum (fun i => if h : i < d then cntV (D ⟨i, h⟩) else 0) d
section
variable {w0 w : World} {k n o : Int} {s : ByteArray} {m d : Nat} {K : Fin m → Va} {D : Fin d → Va} {A B : Option Addr} {cap capB : Nat} {v0 v1 v2 v4 : Value}
theorem six_cells {cs : List Value} (hl : cs.length = 6) : ∃ u0 u1 u2 u3 u4 u5, cs = [u0, u1, u2, u3, u4, u5] :=
  match cs, hl with
  | [u0, u1, u2, u3, u4, u5], _ => ⟨u0, u1, u2, u3, u4, u5, rfl⟩
theorem kid_at {A : Option Addr} {m : Nat} {K : Fin m → Va} (h : ∀ i : Fin m, ∃ b o cs', A = some ⟨b, o, none⟩ ∧ cs'.length = 6 ∧ (∀ j, j < 6 → w0.cell? ⟨b, o + (i.val * 6 + j), none⟩ = cs'[j]?) ∧ VaP w0 (K i) cs') (hw : Ch (Fro w0.heap.size) w0 w) (i : Nat) (hi : i < m) :
    ∃ (b o : Nat) (u0 u1 u2 u3 u4 u5 : Value), A = some ⟨b, o, none⟩ ∧ VaP w0 (K ⟨i, hi⟩) [u0, u1, u2, u3, u4, u5] ∧ w.cell? ⟨b, o + i * 6, none⟩ = some u0 ∧ w.cell? ⟨b, o + i * 6 + 1, none⟩ = some u1 ∧ w.cell? ⟨b, o + i * 6 + 2, none⟩ = some u2 ∧ w.cell? ⟨b, o + i * 6 + 3, none⟩ = some u3 ∧ w.cell? ⟨b, o + i * 6 + 4, none⟩ = some u4 ∧ w.cell? ⟨b, o + i * 6 + 5, none⟩ = some u5 := by
  obtain ⟨b, o, cs', e, hl, hc, ht⟩ := h ⟨i, hi⟩
  obtain ⟨u0, u1, u2, u3, u4, u5, rfl⟩ := six_cells hl
  have hk : ∀ j, j < 6 → w.cell? ⟨b, o + (i * 6 + j), none⟩ = [u0, u1, u2, u3, u4, u5][j]? := fun j hj => by
    have := hc j hj
    rw [List.getElem?_eq_getElem (by simpa using hj)] at this ⊢
    exact hw.cell this (fun hb => by have h2 : b < w0.heap.size := World.block_lt_of_cell? _ _ this; have h3 : w0.heap.size ≤ b := hb; omega)
  exact ⟨b, o, u0, u1, u2, u3, u4, u5, e, ht, hk 0 (by omega), hk 1 (by omega), hk 2 (by omega), hk 3 (by omega), hk 4 (by omega), hk 5 (by omega)⟩
/-- A kid's cells, in a world that has turned beyond the tree's blocks alone. -/
theorem VaP.kid {v5 : Value} (h : VaP w0 (.mk k n s m K o d D) [v0, v1, v2, .slice A m cap, v4, v5]) (hw : Ch (Fro w0.heap.size) w0 w) (i : Nat) (hi : i < m) :
    ∃ (b o : Nat) (u0 u1 u2 u3 u4 u5 : Value), A = some ⟨b, o, none⟩ ∧ VaP w0 (K ⟨i, hi⟩) [u0, u1, u2, u3, u4, u5] ∧ w.cell? ⟨b, o + i * 6, none⟩ = some u0 ∧ w.cell? ⟨b, o + i * 6 + 1, none⟩ = some u1 ∧ w.cell? ⟨b, o + i * 6 + 2, none⟩ = some u2 ∧ w.cell? ⟨b, o + i * 6 + 3, none⟩ = some u3 ∧ w.cell? ⟨b, o + i * 6 + 4, none⟩ = some u4 ∧ w.cell? ⟨b, o + i * 6 + 5, none⟩ = some u5 := by
  obtain ⟨A', cap', B', capB', h1, _, _, _, _, _, _, _, _, hk, _⟩ := h
  simp only [List.cons.injEq, Value.slice.injEq, and_true, true_and] at h1
  obtain ⟨_, _, _, ⟨rfl, rfl⟩, _⟩ := h1
  exact kid_at hk hw i hi
/-- Its descriptor's cells. -/
theorem VaP.desc {v3 : Value} (h : VaP w0 (.mk k n s m K o d D) [v0, v1, v2, v3, v4, .slice B d capB]) (hw : Ch (Fro w0.heap.size) w0 w) (i : Nat) (hi : i < d) :
    ∃ (b o : Nat) (u0 u1 u2 u3 u4 u5 : Value), B = some ⟨b, o, none⟩ ∧ VaP w0 (D ⟨i, hi⟩) [u0, u1, u2, u3, u4, u5] ∧ w.cell? ⟨b, o + i * 6, none⟩ = some u0 ∧ w.cell? ⟨b, o + i * 6 + 1, none⟩ = some u1 ∧ w.cell? ⟨b, o + i * 6 + 2, none⟩ = some u2 ∧ w.cell? ⟨b, o + i * 6 + 3, none⟩ = some u3 ∧ w.cell? ⟨b, o + i * 6 + 4, none⟩ = some u4 ∧ w.cell? ⟨b, o + i * 6 + 5, none⟩ = some u5 := by
  obtain ⟨A', cap', B', capB', h1, _, _, _, _, _, _, _, _, _, hd⟩ := h
  simp only [List.cons.injEq, Value.slice.injEq, and_true, true_and] at h1
  obtain ⟨_, _, _, _, _, ⟨rfl, rfl⟩⟩ := h1
  exact kid_at hd hw i hi
end
/-- Each cell of a tree is one cell. -/
theorem VaP.one {w : World} {t : Va} {cs : List Value} (h : VaP w t cs) : ∀ u ∈ cs, u.oneCell' = true := by
  cases t with
  | mk k n s m K o d D =>
    obtain ⟨A, cap, B, capB, rfl, _⟩ := h
    simp [Value.oneCell']
theorem size_va : (Tryd.prog.info? 25).map (·.size) = some 6 := by kernel_rfl
abbrev VZ : List Value := [.int .i64 0, .int .u64 0, .string ⟨#[]⟩, .slice none 0 0, .int .i64 0, .slice none 0 0]
end Go.Proofs.YtbdgkikipekmlaaDoor

namespace Go.Proofs.YtbdgkikipekmlaaDoor
set_option linter.unusedVariables false
set_option linter.unusedSimpArgs false
open Go.RowKit

def FewV (q : Nat) (z : Int) (t : Va) (w : World) (e : Ending) (w' : World) : Prop :=
  ∃ (b : Bool) (z' : Int), e = .returned (.bool b) ∧ Row w' q 3 [.int .i64 z'] ∧ Ch (fun k => k = q) w w' ∧ (b = true → 0 ≤ z' ∧ z' + cntV t = z)
set_option maxRecDepth 100000 in
set_option maxHeartbeats 4000000 in
theorem fewV_calls (w0 : World) (q : Nat) (hq : w0.heap.size ≤ q) : ∀ (t : Va) (v0 v1 v2 v3 v4 v5 : Value) (w : World) (z : Int), VaP w0 t [v0, v1, v2, v3, v4, v5] → Ch (Fro w0.heap.size) w0 w → Row w q 3 [.int .i64 z] → 0 ≤ z → z ≤ 2000 →
    Calls Tryd.prog 67 #[.agg #[v0, v1, v2, v3, v4, v5], .pointer (some ⟨q, 0, none⟩)] w (FewV q z t w) := by
  intro t
  induction t with
  | mk k n s m K o d D ihK ihD =>
    intro v0 v1 v2 v3 v4 v5 w z ht hw hrow h0 h1
    have ht' := ht
    obtain ⟨A, cap, B, capB, he, _, _, _, _, hmc, hcm, hdc, hcd, _, _⟩ := ht'
    have hmb : m ≤ maxLen := Nat.le_trans hmc hcm
    have hdb : d ≤ maxLen := Nat.le_trans hdc hcd
    unfold maxLen at hmb hdb
    clear hmc hcm hdc hcd
    simp only [List.cons.injEq, and_true] at he
    obtain ⟨rfl, rfl, rfl, rfl, rfl, rfl⟩ := he
    have hB := Row.alloc w [.int .i64 k, .int .u64 n, .string s, .slice A m cap, .int .i64 o, .slice B d capB] 25
    have hrow1 := hrow.keep0 ((Ch.refl No w).alloc (.cells #[.int .i64 k, .int .u64 n, .string s, .slice A m cap, .int .i64 o, .slice B d capB] 25))
    have hc := hrow1.cell 0 _ rfl
    have hf := hrow1.frozen 0
    have hwr : IntKind.i64.wrap (z - 1) = z - 1 := by simp [IntKind.wrap, IntKind.bits, IntKind.signed]; omega
    have hsets := Row.sets [.int .i64 (z - 1)] 0 _ _ hrow1 (by simp)
    obtain ⟨fK, hfK⟩ : ∃ f : Nat → Nat, f = (fun i => if h : i < m then cntV (K ⟨i, h⟩) else 0) := ⟨_, rfl⟩
    obtain ⟨fD, hfD⟩ : ∃ f : Nat → Nat, f = (fun i => if h : i < d then cntV (D ⟨i, h⟩) else 0) := ⟨_, rfl⟩
    have hct : cntV (.mk k n s m K o d D) = 1 + psum fK m + psum fD d := by rw [hfK, hfD]; rfl
    have hki : ∀ i (h : i < m), psum fK (i + 1) = psum fK i + cntV (K ⟨i, h⟩) := fun i h => by simp only [psum]; rw [hfK]; simp only [dif_pos h]
    have hdi : ∀ i (h : i < d), psum fD (i + 1) = psum fD i + cntV (D ⟨i, h⟩) := fun i h => by simp only [psum]; rw [hfD]; simp only [dif_pos h]
    have HCT := hid hct
    have HKI := hid hki
    have HDI := hid hdi
    clear hct hki hdi hfK hfD
    by_cases hz : z - 1 < 0
    · have hd : decide (z - 1 < 0) = true := decide_eq_true hz
      go_enter Tryd.func67, Tryd.ntmps67
      go_wp2_with fail
      go_ret
      refine ⟨false, z - 1, rfl, hsets.1, (Ch.of_no ((Ch.refl No w).alloc _)).trans hsets.2 (fun _ h => h) (fun _ h => .inl h), fun h => by cases h⟩
    · have hd : decide (z - 1 < 0) = false := decide_eq_false hz
      go_enter Tryd.func67, Tryd.ntmps67
      go_wp2_with fail
      obtain ⟨hs1, hs2⟩ := hsets
      have hB1 := hB.keep hs2 (by have := hrow.lt; omega)
      have hCs : Ch (fun k => k = q) w ((w.alloc (.cells #[.int .i64 k, .int .u64 n, .string s, .slice A m cap, .int .i64 o, .slice B d capB] 25)).setCells q 0 [.int .i64 (z - 1)]) := (Ch.of_no ((Ch.refl No w).alloc _)).trans hs2 (fun _ h => h) (fun _ h => .inl h)
      go_loopg [5] m (fun kk s5 wr => ∃ (i : Nat) (zr : Int), kk + i = m ∧ s5 = .int .i64 i ∧ Row wr q 3 [.int .i64 zr] ∧ 0 ≤ zr ∧ zr + 1 + 0 + psum fK i = z ∧ Row wr w.heap.size 25 [.int .i64 k, .int .u64 n, .string s, .slice A m cap, .int .i64 o, .slice B d capB] ∧ Ch (fun k => k = q) w wr)
      case atStart => exact ⟨0, z - 1, by omega, rfl, hs1, by omega, by simp [psum], hB1, hCs⟩
      case round =>
        obtain ⟨i, zr, hki, rfl, hrq, hz0, hzs, hbx, hch⟩ := hrel
        have e3 := hbx.cell 3 _ rfl
        have e5 := hbx.cell 5 _ rfl
        by_cases hi : i < m
        · obtain ⟨b1, o1, u0, u1, u2, u3, u4, u5, rfl, htk, a0, a1, a2, a3, a4, a5⟩ := ht.kid (w := wr) (hw.trans hch (fun _ h => h) (fun k hk => .inl (by subst hk; exact hq))) i hi
          have hi' : (i : Int) < m := by omega
          have hi0 : (0 : Int) ≤ i := by omega
          go_wp2_with fail
          refine (ihK ⟨i, hi⟩ u0 u1 u2 u3 u4 u5 wr zr htk (hw.trans hch (fun _ h => h) (fun k hk => .inl (by subst hk; exact hq))) hrq hz0 (by omega)).mono ?_
          rintro e w2 ⟨bb, z2, rfl, hrow2, hch2, hz2⟩
          have C2 : Ch (fun k => k = q) w w2 := hch.trans hch2 (fun _ h => h) (fun _ h => .inl h)
          have hbx2 := hbx.keep hch2 (by have := hrow.lt; omega)
          cases bb
          · go_wp2_with fail
            go_ret
            exact ⟨false, z2, rfl, hrow2, C2, fun h => by cases h⟩
          · obtain ⟨hz3, hz4⟩ := hz2 rfl
            go_wp2_with fail
            go_roundg (gk - 1)
            case measure => omega
            case rel => exact ⟨i + 1, z2, by omega, by go_num, hrow2, hz3, by have := HKI.out i hi; omega, hbx2, C2⟩
        · obtain rfl : m = i := by omega
          obtain ⟨PK, hPK⟩ : ∃ P, P = psum fK m := ⟨_, rfl⟩
          rw [← hPK] at hzs
          have HPK := hid hPK
          clear hPK
          go_wp2_with fail
          go_loopg [6] d (fun kk s6 wr => ∃ (i : Nat) (zr : Int), kk + i = d ∧ s6 = .int .i64 i ∧ Row wr q 3 [.int .i64 zr] ∧ 0 ≤ zr ∧ zr + 1 + PK + psum fD i = z ∧ Row wr w.heap.size 25 [.int .i64 k, .int .u64 n, .string s, .slice A m cap, .int .i64 o, .slice B d capB] ∧ Ch (fun k => k = q) w wr)
          case atStart => exact ⟨0, zr, by omega, rfl, hrq, hz0, by simp only [psum]; omega, hbx, hch⟩
          case round =>
            obtain ⟨i, zr, hki, rfl, hrq, hz0, hzs, hbx, hch⟩ := hrel
            have e3 := hbx.cell 3 _ rfl
            have e5 := hbx.cell 5 _ rfl
            by_cases hi : i < d
            · obtain ⟨b1, o1, u0, u1, u2, u3, u4, u5, rfl, htk, a0, a1, a2, a3, a4, a5⟩ := ht.desc (w := wr) (hw.trans hch (fun _ h => h) (fun k hk => .inl (by subst hk; exact hq))) i hi
              have hi' : (i : Int) < d := by omega
              have hi0 : (0 : Int) ≤ i := by omega
              go_wp2_with fail
              refine (ihD ⟨i, hi⟩ u0 u1 u2 u3 u4 u5 wr zr htk (hw.trans hch (fun _ h => h) (fun k hk => .inl (by subst hk; exact hq))) hrq hz0 (by omega)).mono ?_
              rintro e w2 ⟨bb, z2, rfl, hrow2, hch2, hz2⟩
              have C2 : Ch (fun k => k = q) w w2 := hch.trans hch2 (fun _ h => h) (fun _ h => .inl h)
              have hbx2 := hbx.keep hch2 (by have := hrow.lt; omega)
              cases bb
              · go_wp2_with fail
                go_ret
                exact ⟨false, z2, rfl, hrow2, C2, fun h => by cases h⟩
              · obtain ⟨hz3, hz4⟩ := hz2 rfl
                go_wp2_with fail
                go_roundg (gk - 1)
                case measure => omega
                case rel => exact ⟨i + 1, z2, by omega, by go_num, hrow2, hz3, by have := HDI.out i hi; omega, hbx2, C2⟩
            · obtain rfl : d = i := by omega
              go_wp2_with fail
              go_ret
              refine ⟨true, zr, rfl, hrq, hch, fun _ => ⟨hz0, ?_⟩⟩
              rw [HCT.out, ← HPK.out]
              omega

end Go.Proofs.YtbdgkikipekmlaaDoor

namespace Go.Proofs.YtbdgkikipekmlaaDoor
set_option linter.unusedVariables false
set_option linter.unusedSimpArgs false
open Go.RowKit

/-- Elements of S cells in memory that came in. -/
def Src (w : World) (A : Option Addr) (ys : List Value) : Prop := 0 < ys.length → ∃ b o, A = some ⟨b, o, none⟩ ∧ ∀ j u, ys[j]? = some u → w.cell? ⟨b, o + j, none⟩ = some u
theorem Src.keep0 {w w' : World} {A : Option Addr} {ys : List Value} (h : Src w A ys) (k : Ch No w w') : Src w' A ys := fun hp => by
  obtain ⟨b, o, e, hc⟩ := h hp
  exact ⟨b, o, e, fun j u hj => k.cell0 (hc j u hj)⟩
section
variable {P : Program} {ops : Array Oper} {Q : Exit → Act → World → Prop} {o : Oper} {rest : List Oper} {a : Act} {w : World}
theorem run_appendM (ty : TypeId) (t e : TypeId) (z : Value) (S bytes : Nat)
    (ht : P.underlying t = some (.slice e)) (hinfo : (P.info? e).map (fun i => (i.zero, i.size, i.bytes)) = some (some z, S, bytes)) (hz : z.cells.size = S) (hb0 : 0 < S) (hbb : bytes ≤ 1000) (hSS : S ≤ 1000)
    (v : Value) (n : Nat) (cells ys : List Value) (A : Option Addr) (m c : Nat) (hlen : ys.length = m * S) (h1 : ∀ u ∈ ys, u.oneCell' = true)
    (HO : OwK e S w v n cells) (HR : Src w A ys) (hl : n + m ≤ 1048576) :
    ∃ v1 w1, (Builtin.append_ #[t, t] ty #[v, .slice A m c]).run P w = .ok v1 w1 ∧ OwK e S w1 v1 (n + m) (cells ++ ys) ∧ Ch (Blk v) w w1 ∧ (∀ k, Blk v1 k → Blk v k ∨ w.heap.size ≤ k) := by
  obtain ⟨i0, hi, hzz⟩ := Option.map_eq_some_iff.1 hinfo
  simp only [Prod.mk.injEq] at hzz
  obtain ⟨hz0, hz1, hz2⟩ := hzz
  have m1 : (n + m) * S ≤ 1048576 * 1000 := Nat.mul_le_mul hl hSS
  have m2 : (n + m) * bytes ≤ 1048576 * 1000 := Nat.mul_le_mul hl hbb
  have hOw : w.ownsRow 0 e S v n cells := HO
  rcases Nat.eq_zero_or_pos m with h0 | hp
  · subst h0
    obtain rfl : ys = [] := List.eq_nil_of_length_eq_zero (by simpa using hlen)
    refine ⟨v, w, ?_, by simpa using HO, Ch.refl _ _, fun k h => .inl h⟩
    rcases hOw.2 with ⟨rfl, hn⟩ | ⟨g, cap, cur, rfl, _, _, hnc, _⟩
    · cases A with
      | none => simp [Builtin.append_, run_underlying ht, sizeOf, typeInfo, hi, Builtin.lenOf, Builtin.firstCells]
      | some ad =>
        have hl0 : (loadCells ad 0).run P w = .ok #[] w := by simpa using run_loadCells_list (P := P) w ad [] (by simp)
        simp [Builtin.append_, run_underlying ht, sizeOf, typeInfo, hi, Builtin.lenOf, Builtin.firstCells, hl0]
    · cases A with
      | none => simp [Builtin.append_, run_underlying ht, sizeOf, typeInfo, hi, Builtin.lenOf, Builtin.firstCells, hnc, storeCells]
      | some ad =>
        have hl0 : (loadCells ad 0).run P w = .ok #[] w := by simpa using run_loadCells_list (P := P) w ad [] (by simp)
        simp [Builtin.append_, run_underlying ht, sizeOf, typeInfo, hi, Builtin.lenOf, Builtin.firstCells, hnc, storeCells, hl0]
  · have hyp : 0 < ys.length := by rw [hlen]; exact Nat.mul_pos hp hb0
    obtain ⟨b, o2, rfl, hc⟩ := HR hyp
    have hadd : ∀ j, (⟨b, o2, none⟩ : Addr).add j = ⟨b, o2 + j, none⟩ := fun j => by unfold Addr.add; split <;> simp_all
    obtain ⟨v1, w1, hr, h2, h3, _, h5⟩ := run_append_own_at (P := P) w 0 t ty e i0 z S bytes ht hi hz0 hz1 hz2 hz hb0 v n cells HO ⟨b, o2, none⟩ m c ys hlen
      (fun j u hu => by rw [hadd]; exact hc j u hu) h1 (by simp only [maxLen]; omega) (by omega) (Nat.zero_le _)
    refine ⟨v1, w1, hr, h2, ⟨h3.os, h3.tape, h3.output, h3.size, fun k hk hn => h3.block k hk (fun he => hn he.symm)⟩, fun k hk => ?_⟩
    rcases h5 with h5 | h5
    · exact .inl (show v.ownBlock = some k from h5 ▸ hk)
    · have hk' : v1.ownBlock = some k := hk
      rw [h5] at hk'
      injection hk' with hk'
      exact .inr (by omega)
/-- append(v, m elements of S cells...) at the operation. -/
theorem wp_appendM (hgd : o.guard = none) (s x : Operand) (t e : TypeId) (z : Value) (S bytes : Nat) (ho : o.op = .call { callee := .builtin .append, args := #[s, x], argTypes := #[t, t] })
    (ht : P.underlying t = some (.slice e)) (hinfo : (P.info? e).map (fun i => (i.zero, i.size, i.bytes)) = some (some z, S, bytes)) (hz : z.cells.size = S) (hb0 : 0 < S) (hbb : bytes ≤ 1000) (hSS : S ≤ 1000)
    (v : Value) (n : Nat) (cells ys : List Value) (A : Option Addr) (m c : Nat) (hs : a.eval s = v) (hx : a.eval x = .slice A m c) (hlen : ys.length = m * S) (h1 : ∀ u ∈ ys, u.oneCell' = true)
    (HO : OwK e S w v n cells) (HR : Src w A ys) (hl : n + m ≤ 1048576)
    (h : ∀ v1 w1, OwK e S w1 v1 (n + m) (cells ++ ys) → Ch (Blk v) w w1 → (∀ k, Blk v1 k → Blk v k ∨ w.heap.size ≤ k) → wpList P ops Q rest (a.put o.dst v1) w1) :
    wpList P ops Q (o :: rest) a w := by
  obtain ⟨v1, w1, hr, h2, h3, h4⟩ := run_appendM (P := P) (w := w) o.type t e z S bytes ht hinfo hz hb0 hbb hSS v n cells ys A m c hlen h1 HO HR hl
  refine wpList_plain hgd fun K hK => ?_
  unfold Oper.wp execOp
  simp only [ho, resolve, invoke, builtin, Sem.run_bind, Sem.run_pure, Result.andThen_ok, List.map_toArray, List.map_cons, List.map_nil, hs, hx, hr]
  exact hK _ _ (h v1 w1 h2 h3 h4)
/-- append(v, m elements of S cells...) as one step of a region that draws its order. -/
theorem step_appendM {K : Act → World → Prop} {E : Prop} (hgd : o.guard = none) (s x : Operand) (t e : TypeId) (z : Value) (S bytes : Nat) (ho : o.op = .call { callee := .builtin .append, args := #[s, x], argTypes := #[t, t] })
    (ht : P.underlying t = some (.slice e)) (hinfo : (P.info? e).map (fun i => (i.zero, i.size, i.bytes)) = some (some z, S, bytes)) (hz : z.cells.size = S) (hb0 : 0 < S) (hbb : bytes ≤ 1000) (hSS : S ≤ 1000)
    (v : Value) (n : Nat) (cells ys : List Value) (A : Option Addr) (m c : Nat) (hs : a.eval s = v) (hx : a.eval x = .slice A m c) (hlen : ys.length = m * S) (h1 : ∀ u ∈ ys, u.oneCell' = true)
    (HO : OwK e S w v n cells) (HR : Src w A ys) (hl : n + m ≤ 1048576)
    (h : ∀ v1 w1, OwK e S w1 v1 (n + m) (cells ++ ys) → Ch (Blk v) w w1 → (∀ k, Blk v1 k → Blk v k ∨ w.heap.size ≤ k) → K (a.put o.dst v1) w1) :
    if Region.wanted o (yielded ops a.tmps) = true then Oper.wp P o a w K Q else E := by
  have hw : Region.wanted o (yielded ops a.tmps) = true := by simp [Region.wanted, hgd]
  rw [if_pos hw]
  obtain ⟨v1, w1, hr, h2, h3, h4⟩ := run_appendM (P := P) (w := w) o.type t e z S bytes ht hinfo hz hb0 hbb hSS v n cells ys A m c hlen h1 HO HR hl
  unfold Oper.wp execOp
  simp only [ho, resolve, invoke, builtin, Sem.run_bind, Sem.run_pure, Result.andThen_ok, List.map_toArray, List.map_cons, List.map_nil, hs, hx, hr]
  exact h v1 w1 h2 h3 h4
end
theorem OwK.lit0 (e : TypeId) (S : Nat) (w : World) : OwK e S (w.alloc (.cells #[] e)) (.slice (some ⟨w.heap.size, 0, none⟩) 0 0) 0 [] :=
  ⟨by simp, .inr ⟨w.heap.size, 0, #[], rfl, Nat.zero_le _, Row.alloc w [] e, Nat.le_refl _, by simp [maxLen], by simp, by simp⟩⟩
theorem OwK.lit1 (e : TypeId) (S : Nat) (w : World) (o : Obj) : OwK e S ((w.alloc o).alloc (.cells #[] e)) (.slice (some ⟨w.heap.size + 1, 0, none⟩) 0 0) 0 [] := by
  have h := OwK.lit0 e S (w.alloc o)
  rwa [World.size_alloc] at h
theorem OwK.cellAt {e : TypeId} {S : Nat} {w : World} {A : Option Addr} {m c n : Nat} {cells : List Value} (h : OwK e S w (.slice A m c) n cells) (hn : 0 < n) : ∃ g, A = some ⟨g, 0, none⟩ ∧ ∀ j u, cells[j]? = some u → w.cell? ⟨g, j, none⟩ = some u := by
  rcases h.2 with ⟨_, h0⟩ | ⟨g, cap, cur, hv, hb, hg, hnc, hcm, hcs, htk⟩
  · omega
  · injection hv with hA _ _
    refine ⟨g, hA, fun j u hj => ?_⟩
    subst htk
    rw [List.getElem?_take] at hj
    split at hj
    · have hrow : Row w g e cur.toList := by unfold Row; rw [Array.toArray_toList]; exact hg
      exact hrow.cell j u hj
    · cases hj
/-- The kids' cells behind each other. -/
theorem kids_src {w0 w : World} {A : Option Addr} : ∀ {m : Nat} {K : Fin m → Va}, (∀ i : Fin m, ∃ b o cs', A = some ⟨b, o, none⟩ ∧ cs'.length = 6 ∧ (∀ j, j < 6 → w0.cell? ⟨b, o + (i.val * 6 + j), none⟩ = cs'[j]?) ∧ VaP w0 (K i) cs') → Ch (Fro w0.heap.size) w0 w →
    ∃ ys : List Value, ys.length = m * 6 ∧ (∀ u ∈ ys, u.oneCell' = true) ∧ Src w A ys ∧ ∀ i (h : i < m), ∃ u0 u1 u2 u3 u4 u5, VaP w0 (K ⟨i, h⟩) [u0, u1, u2, u3, u4, u5] ∧ ys[i * 6]? = some u0 ∧ ys[i * 6 + 1]? = some u1 ∧ ys[i * 6 + 2]? = some u2 ∧ ys[i * 6 + 3]? = some u3 ∧ ys[i * 6 + 4]? = some u4 ∧ ys[i * 6 + 5]? = some u5
  | 0, _, _, _ => ⟨[], by simp, by simp, fun h => absurd h (by simp), fun i h => absurd h (by omega)⟩
  | m + 1, K, h, hw => by
    obtain ⟨ys, h1, h2, h3, h4⟩ := kids_src (m := m) (K := fun i => K ⟨i.val, by omega⟩) (fun i => h ⟨i.val, by omega⟩) hw
    obtain ⟨b, o, u0, u1, u2, u3, u4, u5, e, ht, a0, a1, a2, a3, a4, a5⟩ := kid_at h hw m (by omega)
    refine ⟨ys ++ [u0, u1, u2, u3, u4, u5], by simp [h1]; omega, fun u hu => ?_, fun _ => ⟨b, o, e, fun j u hj => ?_⟩, fun i hi => ?_⟩
    · rcases List.mem_append.1 hu with hu | hu
      · exact h2 u hu
      · exact ht.one u hu
    · by_cases hjl : j < ys.length
      · rw [List.getElem?_append_left hjl] at hj
        obtain ⟨b', o', e', hc⟩ := h3 (by omega)
        rw [e] at e'
        injection e' with e'
        injection e' with e1 e2
        subst e1; subst e2
        exact hc j u hj
      · rw [List.getElem?_append_right (by omega)] at hj
        obtain ⟨q, rfl⟩ : ∃ q, j = ys.length + q := ⟨j - ys.length, by omega⟩
        rw [Nat.add_sub_cancel_left] at hj
        have hq : q < 6 := (List.getElem?_eq_some_iff.1 hj).1
        rw [h1]
        obtain rfl | rfl | rfl | rfl | rfl | rfl : q = 0 ∨ q = 1 ∨ q = 2 ∨ q = 3 ∨ q = 4 ∨ q = 5 := by omega
        all_goals
          simp only [List.getElem?_cons_zero, List.getElem?_cons_succ, Option.some.injEq] at hj
          subst hj
          first | exact a0 | exact a1 | exact a2 | exact a3 | exact a4 | exact a5
    · by_cases him : i < m
      · obtain ⟨x0, x1, x2, x3, x4, x5, hx, g0, g1, g2, g3, g4, g5⟩ := h4 i him
        refine ⟨x0, x1, x2, x3, x4, x5, hx, ?_, ?_, ?_, ?_, ?_, ?_⟩
        all_goals
          rw [List.getElem?_append_left (by omega)]
          assumption
      · obtain rfl : i = m := by omega
        refine ⟨u0, u1, u2, u3, u4, u5, ht, ?_, ?_, ?_, ?_, ?_, ?_⟩
        all_goals
          rw [List.getElem?_append_right (by omega), h1]
          simp [Nat.add_sub_cancel_left]
theorem info_va : (Tryd.prog.info? 25).map (fun i => (i.zero, i.size, i.bytes)) = some (some (.agg #[.int .i64 0, .int .u64 0, .string ⟨#[]⟩, .slice none 0 0, .int .i64 0, .slice none 0 0]), 6, 88) := by kernel_rfl
end Go.Proofs.YtbdgkikipekmlaaDoor
