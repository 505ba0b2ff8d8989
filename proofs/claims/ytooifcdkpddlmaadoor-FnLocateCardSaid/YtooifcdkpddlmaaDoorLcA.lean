/- Plain words for the reference's entries of a map: elements of several cells appended in a region that draws its order; a tree is what its cells say. No condition. -/
import Derived.Test.YtooifcdkpddlmaaDoorSkN
import Derived.Test.YtooifcdkpddlmaaDoorSkT
import Derived.Test.YtooifcdkpddlmaaDoorPutK
import Derived.Test.YtooifcdkpddlmaaDoorTreeP
import Derived.Deep.RegionLaw
import Derived.RegionTactic
namespace Go.Proofs.YtooifcdkpddlmaaDoor
set_option linter.unusedVariables false
set_option linter.unusedSimpArgs false
open Go.RowKit

/-- Elements of S cells in memory that came in. -/
def Src (w : World) (A : Option Addr) (ys : List Value) : Prop := 0 < ys.length → ∃ b o, A = some ⟨b, o, none⟩ ∧ ∀ j u, ys[j]? = some u → w.cell? ⟨b, o + j, none⟩ = some u
theorem Src.keep0 {w w' : World} {A : Option Addr} {ys : List Value} (h : Src w A ys) (k : Ch No w w') : Src w' A ys := fun hp => by
  obtain ⟨b, o, e, hc⟩ := h hp
  exact ⟨b, o, e, fun j u hj => k.cell0 (hc j u hj)⟩
section
variable {P : Program} {ops : Array Oper} {Q : Exit → Act → World → Prop} {o : Oper} {rest : List Oper} {a : Act} {w : World}
/-- A store as one step of a region that draws its order. -/
theorem step_store {K : Act → World → Prop} {E : Prop} (hgd : o.guard = none) (hN : o.dst = none) (t : TypeId) (p x : Operand) (ho : o.op = .store t p x) (g off : Nat) (e : TypeId) (cur : List Value) (u : Value) (haddr : a.eval p = .pointer (some ⟨g, off, none⟩)) (hx : a.eval x = u)
    (seg : List Value) (hu : u.cells.toList = seg) (ht : (P.info? t).map (·.size) = some seg.length) (h1 : ∀ q ∈ seg, q.oneCell' = true) (hR : Row w g e cur) (hfit : off + seg.length ≤ cur.length)
    (h : ∀ w', Row w' g e (cur.take off ++ seg ++ cur.drop (off + seg.length)) → Ch (fun k => k = g) w w' → K a w') :
    if Region.wanted o (yielded ops a.tmps) = true then Oper.wp P o a w K Q else E := by
  have hw : Region.wanted o (yielded ops a.tmps) = true := by simp [Region.wanted, hgd]
  rw [if_pos hw]
  obtain ⟨i, hi, hsz⟩ := Option.map_eq_some_iff.1 ht
  have hc : u.cells.size = i.size := by rw [hsz, ← hu, Array.length_toList]
  have hst := run_storeCells_cells (P := P) g off seg 0 w (fun j hj => by
    rw [hR.cell (off + 0 + j) cur[off + 0 + j] (List.getElem?_eq_getElem (by omega))]
    rfl) (fun j _ => hR.frozen _) h1
  simp only [Nat.add_zero] at hst
  have hrun : (Instr.storeAt t (.pointer (some ⟨g, off, none⟩)) u).run P w = .ok () (w.setCells g off seg) := by
    simp [Instr.storeAt, Instr.sureAddr, storeVar, sizeOf, typeInfo, hi, hc, hu, hst]
  obtain ⟨r1, r2⟩ := Row.sets seg off w cur hR hfit
  unfold Oper.wp execOp
  simp only [ho, haddr, hx, Sem.run_bind, Sem.run_pure, Result.andThen_ok, hrun]
  show K (a.put o.dst undef) _
  rw [hN]
  exact h _ r1 r2
theorem run_appendM (ty : TypeId) (t e : TypeId) (z : Value) (S bytes : Nat)
    (ht : P.underlying t = some (.slice e)) (hinfo : (P.info? e).map (fun i => (i.zero, i.size, i.bytes)) = some (some z, S, bytes)) (hz : z.cells.size = S) (hb0 : 0 < S) (hbb : bytes ≤ 1000) (hSS : S ≤ 1000)
    (v : Value) (n : Nat) (cells ys : List Value) (A : Option Addr) (m c : Nat) (hlen : ys.length = m * S) (h1 : ∀ u ∈ ys, u.oneCell' = true)
    (HO : OwK e S w v n cells) (HR : Src w A ys) (hl : n + m ≤ 1048576) :
    ∃ v1 w1, (Builtin.append_ #[t, t] ty #[v, .slice A m c]).run P w = .ok v1 w1 ∧ OwK e S w1 v1 (n + m) (cells ++ ys) ∧ Ch (Blk v) w w1 ∧ (∀ k, Blk v1 k → Blk v k ∨ w.heap.size ≤ k) := by
  obtain ⟨i0, hi, hzz⟩ := Option.map_eq_some_iff.1 hinfo
  simp only [Prod.mk.injEq] at hzz
  obtain ⟨hz0, hz1, hz2⟩ := hzz
  have m1 : (n + m) * S ≤ 1048576 * 1000 := Nat.mul_le_mul hl hSS
  have m2 : (n + m) * bytes ≤ 1048576 * 1000 := Nat.mul_le_mul hl hbb
  have hOw : w.ownsRow 0 e S v n cells := HO
  rcases Nat.eq_zero_or_pos m with h0 | hp
  · subst h0
    obtain rfl : ys = [] := List.eq_nil_of_length_eq_zero (by simpa using hlen)
    refine ⟨v, w, ?_, by simpa using HO, Ch.refl _ _, fun k h => .inl h⟩
    rcases hOw.2 with ⟨rfl, hn⟩ | ⟨g, cap, cur, rfl, _, _, hnc, _⟩
    · cases A with
      | none => simp [Builtin.append_, run_underlying ht, sizeOf, typeInfo, hi, Builtin.lenOf, Builtin.firstCells]
      | some ad =>
        have hl0 : (loadCells ad 0).run P w = .ok #[] w := by simpa using run_loadCells_list (P := P) w ad [] (by simp)
        simp [Builtin.append_, run_underlying ht, sizeOf, typeInfo, hi, Builtin.lenOf, Builtin.firstCells, hl0]
    · cases A with
      | none => simp [Builtin.append_, run_underlying ht, sizeOf, typeInfo, hi, Builtin.lenOf, Builtin.firstCells, hnc, storeCells]
      | some ad =>
        have hl0 : (loadCells ad 0).run P w = .ok #[] w := by simpa using run_loadCells_list (P := P) w ad [] (by simp)
        simp [Builtin.append_, run_underlying ht, sizeOf, typeInfo, hi, Builtin.lenOf, Builtin.firstCells, hnc, storeCells, hl0]
  · have hyp : 0 < ys.length := by rw [hlen]; exact Nat.mul_pos hp hb0
    obtain ⟨b, o2, rfl, hc⟩ := HR hyp
    have hadd : ∀ j, (⟨b, o2, none⟩ : Addr).add j = ⟨b, o2 + j, none⟩ := fun j => by unfold Addr.add; split <;> simp_all
    obtain ⟨v1, w1, hr, h2, h3, _, h5⟩ := run_append_own_at (P := P) w 0 t ty e i0 z S bytes ht hi hz0 hz1 hz2 hz hb0 v n cells HO ⟨b, o2, none⟩ m c ys hlen
      (fun j u hu => by rw [hadd]; exact hc j u hu) h1 (by simp only [maxLen]; omega) (by omega) (Nat.zero_le _)
    refine ⟨v1, w1, hr, h2, ⟨h3.os, h3.tape, h3.output, h3.size, fun k hk hn => h3.block k hk (fun he => hn he.symm)⟩, fun k hk => ?_⟩
    rcases h5 with h5 | h5
    · exact .inl (show v.ownBlock = some k from h5 ▸ hk)
    · have hk' : v1.ownBlock = some k := hk
      rw [h5] at hk'
      injection hk' with hk'
      exact .inr (by omega)
/-- append(v, m elements of S cells...) at the operation. -/
theorem wp_appendM (hgd : o.guard = none) (s x : Operand) (t e : TypeId) (z : Value) (S bytes : Nat) (ho : o.op = .call { callee := .builtin .append, args := #[s, x], argTypes := #[t, t] })
    (ht : P.underlying t = some (.slice e)) (hinfo : (P.info? e).map (fun i => (i.zero, i.size, i.bytes)) = some (some z, S, bytes)) (hz : z.cells.size = S) (hb0 : 0 < S) (hbb : bytes ≤ 1000) (hSS : S ≤ 1000)
    (v : Value) (n : Nat) (cells ys : List Value) (A : Option Addr) (m c : Nat) (hs : a.eval s = v) (hx : a.eval x = .slice A m c) (hlen : ys.length = m * S) (h1 : ∀ u ∈ ys, u.oneCell' = true)
    (HO : OwK e S w v n cells) (HR : Src w A ys) (hl : n + m ≤ 1048576)
    (h : ∀ v1 w1, OwK e S w1 v1 (n + m) (cells ++ ys) → Ch (Blk v) w w1 → (∀ k, Blk v1 k → Blk v k ∨ w.heap.size ≤ k) → wpList P ops Q rest (a.put o.dst v1) w1) :
    wpList P ops Q (o :: rest) a w := by
  obtain ⟨v1, w1, hr, h2, h3, h4⟩ := run_appendM (P := P) (w := w) o.type t e z S bytes ht hinfo hz hb0 hbb hSS v n cells ys A m c hlen h1 HO HR hl
  refine wpList_plain hgd fun K hK => ?_
  unfold Oper.wp execOp
  simp only [ho, resolve, invoke, builtin, Sem.run_bind, Sem.run_pure, Result.andThen_ok, List.map_toArray, List.map_cons, List.map_nil, hs, hx, hr]
  exact hK _ _ (h v1 w1 h2 h3 h4)
/-- append(v, m elements of S cells...) as one step of a region that draws its order. -/
theorem step_appendM {K : Act → World → Prop} {E : Prop} (hgd : o.guard = none) (s x : Operand) (t e : TypeId) (z : Value) (S bytes : Nat) (ho : o.op = .call { callee := .builtin .append, args := #[s, x], argTypes := #[t, t] })
    (ht : P.underlying t = some (.slice e)) (hinfo : (P.info? e).map (fun i => (i.zero, i.size, i.bytes)) = some (some z, S, bytes)) (hz : z.cells.size = S) (hb0 : 0 < S) (hbb : bytes ≤ 1000) (hSS : S ≤ 1000)
    (v : Value) (n : Nat) (cells ys : List Value) (A : Option Addr) (m c : Nat) (hs : a.eval s = v) (hx : a.eval x = .slice A m c) (hlen : ys.length = m * S) (h1 : ∀ u ∈ ys, u.oneCell' = true)
    (HO : OwK e S w v n cells) (HR : Src w A ys) (hl : n + m ≤ 1048576)
    (h : ∀ v1 w1, OwK e S w1 v1 (n + m) (cells ++ ys) → Ch (Blk v) w w1 → (∀ k, Blk v1 k → Blk v k ∨ w.heap.size ≤ k) → K (a.put o.dst v1) w1) :
    if Region.wanted o (yielded ops a.tmps) = true then Oper.wp P o a w K Q else E := by
  have hw : Region.wanted o (yielded ops a.tmps) = true := by simp [Region.wanted, hgd]
  rw [if_pos hw]
  obtain ⟨v1, w1, hr, h2, h3, h4⟩ := run_appendM (P := P) (w := w) o.type t e z S bytes ht hinfo hz hb0 hbb hSS v n cells ys A m c hlen h1 HO HR hl
  unfold Oper.wp execOp
  simp only [ho, resolve, invoke, builtin, Sem.run_bind, Sem.run_pure, Result.andThen_ok, List.map_toArray, List.map_cons, List.map_nil, hs, hx, hr]
  exact h v1 w1 h2 h3 h4
end
/-- A store as an equation laid ahead. -/
theorem store1_ahead {P : Program} (w : World) (g j : Nat) (e : TypeId) (cur : List Value) (u : Value) (h1 : u.oneCell' = true) (hR : Row w g e cur) (hj : j < cur.length) :
    ∃ w', (store ⟨g, j, none⟩ u).run P w = .ok () w' ∧ Row w' g e (cur.take j ++ [u] ++ cur.drop (j + 1)) ∧ Ch (fun k => k = g) w w' := by
  have hst := run_storeCells_cells (P := P) g j [u] 0 w (fun i hi => by
    obtain rfl : i = 0 := by simpa using hi
    rw [hR.cell (j + 0 + 0) cur[j] (by simp)]
    rfl) (fun i _ => hR.frozen _) (fun q hq => by obtain rfl : q = u := by simpa using hq
                                                  exact h1)
  obtain ⟨r1, r2⟩ := Row.sets [u] j w cur hR (by simp; omega)
  refine ⟨_, ?_, r1, r2⟩
  simpa [storeCells, Addr.add] using hst
theorem store5_ahead {P : Program} (w : World) (g : Nat) (e : TypeId) (c0 c1 c2 c3 c4 u0 u1 u2 u3 u4 : Value) (h1 : ∀ q ∈ [u0, u1, u2, u3, u4], q.oneCell' = true) (hR : Row w g e [c0, c1, c2, c3, c4]) :
    ∃ w1 w2 w3 w4 w5, (store ⟨g, 0, none⟩ u0).run P w = .ok () w1 ∧ (store ⟨g, 1, none⟩ u1).run P w1 = .ok () w2 ∧ (store ⟨g, 2, none⟩ u2).run P w2 = .ok () w3 ∧ (store ⟨g, 3, none⟩ u3).run P w3 = .ok () w4 ∧ (store ⟨g, 4, none⟩ u4).run P w4 = .ok () w5 ∧
      Row w5 g e [u0, u1, u2, u3, u4] ∧ Ch (fun k => k = g) w w5 := by
  obtain ⟨w1, e1, r1, k1⟩ := store1_ahead (P := P) w g 0 e _ u0 (h1 _ (by simp)) hR (by simp)
  obtain ⟨w2, e2, r2, k2⟩ := store1_ahead (P := P) w1 g 1 e _ u1 (h1 _ (by simp)) r1 (by simp)
  obtain ⟨w3, e3, r3, k3⟩ := store1_ahead (P := P) w2 g 2 e _ u2 (h1 _ (by simp)) r2 (by simp)
  obtain ⟨w4, e4, r4, k4⟩ := store1_ahead (P := P) w3 g 3 e _ u3 (h1 _ (by simp)) r3 (by simp)
  obtain ⟨w5, e5, r5, k5⟩ := store1_ahead (P := P) w4 g 4 e _ u4 (h1 _ (by simp)) r4 (by simp)
  have tr : ∀ {a b c : World}, Ch (fun k => k = g) a b → Ch (fun k => k = g) b c → Ch (fun k => k = g) a c := fun h k => h.trans k (fun _ h => h) (fun _ h => .inl h)
  exact ⟨w1, w2, w3, w4, w5, e1, e2, e3, e4, e5, by simpa using r5, tr (tr (tr (tr k1 k2) k3) k4) k5⟩
/-- A tree is what its cells say. -/
theorem TrP.one_tree {w : World} : ∀ (t t' : Pk) (cs : List Value), TrP w t cs → TrP w t' cs → t = t' := by
  intro t
  induction t with
  | mk k n s x m K ih =>
    intro t' cs h h'
    obtain ⟨k', n', s', x', m', K'⟩ := t'
    obtain ⟨A, cap, e1, _, _, _, _, _, _, h8⟩ := h
    obtain ⟨A', cap', e2, _, _, _, _, _, _, h8'⟩ := h'
    rw [e1] at e2
    simp only [List.cons.injEq, Value.int.injEq, Value.string.injEq, Value.slice.injEq, true_and, and_true] at e2
    obtain ⟨rfl, rfl, rfl, rfl, rfl, rfl, rfl⟩ := e2
    congr 1
    funext i
    obtain ⟨b, o, cs1, g1, g2, g3, g4⟩ := h8 i
    obtain ⟨b', o', cs2, g1', g2', g3', g4'⟩ := h8' i
    rw [g1] at g1'
    simp only [Option.some.injEq, Addr.mk.injEq, and_true] at g1'
    obtain ⟨rfl, rfl⟩ := g1'
    refine ih i _ cs1 g4 ?_
    have : cs1 = cs2 := by
      apply List.ext_getElem?
      intro j
      by_cases hj : j < 5
      · rw [← g3 j hj, ← g3' j hj]
      · rw [List.getElem?_eq_none (by omega), List.getElem?_eq_none (by omega)]
    rw [this]; exact g4'

/-- An entry of a map, written. -/
structure Ent where
  s : ByteArray
  A1 : Option Addr
  c1 : Nat
  kd : List Int
  u0 : Value
  u1 : Value
  u2 : Value
  u3 : Value
  u4 : Value
  A2 : Option Addr
  c2 : Nat
  vd : List Int
def enE (e : Ent) : List Value := [.string e.s, .slice e.A1 e.kd.length e.c1, e.u0, e.u1, e.u2, e.u3, e.u4, .slice e.A2 e.vd.length e.c2]
theorem enE_len (e : Ent) : (enE e).length = 8 := rfl
theorem enE_one (s : ByteArray) (A1 : Option Addr) (c1 : Nat) (kd : List Int) (u0 u1 u2 u3 u4 : Value) (A2 : Option Addr) (c2 : Nat) (vd : List Int) (h : ∀ u ∈ [u0, u1, u2, u3, u4], u.oneCell' = true) : ∀ u ∈ enE ⟨s, A1, c1, kd, u0, u1, u2, u3, u4, A2, c2, vd⟩, u.oneCell' = true := by
  intro u hu
  simp only [enE, List.mem_cons, List.not_mem_nil, or_false] at hu
  rcases hu with rfl | rfl | rfl | rfl | rfl | rfl | rfl | rfl
  · rfl
  · rfl
  · exact h _ (by simp)
  · exact h _ (by simp)
  · exact h _ (by simp)
  · exact h _ (by simp)
  · exact h _ (by simp)
  · rfl
theorem Src.lit (w : World) (e : TypeId) (ys : List Value) : Src (w.alloc (.cells ys.toArray e)) (some ⟨w.heap.size, 0, none⟩) ys := fun _ =>
  ⟨_, _, rfl, fun j u hj => by rw [Nat.zero_add]; exact (Row.alloc w ys e).cell j u hj⟩
/-- What is known of an entry's bytes: they are a key's, and a value's. -/
def EnP (e : Ent) : Prop := (∃ n x m K, PutD (.mk 6 n e.s x m K) e.kd ∧ NumP (.mk 6 n e.s x m K)) ∧ (∃ t lv, lv ≤ 6 ∧ NumP t ∧ FitP t lv ∧ PutD t e.vd) ∧ e.kd.length ≤ 262200000 ∧ e.vd.length ≤ 262200000
/-- Its bytes are read, and lie apart from the choices. -/
structure EnR (pf : Nat) (w : World) (e : Ent) : Prop where
  r1 : Rd u8 w e.A1 e.kd
  r2 : Rd u8 w e.A2 e.vd
  p1 : ∀ ad, e.A1 = some ad → ad.block ≠ pf
  p2 : ∀ ad, e.A2 = some ad → ad.block ≠ pf
  l1 : ∀ ad, e.A1 = some ad → ad.block < w.heap.size
  l2 : ∀ ad, e.A2 = some ad → ad.block < w.heap.size
  c1 : e.kd.length ≤ e.c1
  c2 : e.vd.length ≤ e.c2
  one : ∀ q ∈ enE e, q.oneCell' = true
theorem EnR.keepS {pf : Nat} {S : Nat → Prop} {w w' : World} {e : Ent} (h : EnR pf w e) (k : Ch S w w') (h1 : ∀ ad, e.A1 = some ad → ¬ S ad.block) (h2 : ∀ ad, e.A2 = some ad → ¬ S ad.block) : EnR pf w' e :=
  ⟨h.r1.keep k h1, h.r2.keep k h2, h.p1, h.p2, fun ad e => Nat.lt_of_lt_of_le (h.l1 ad e) k.size, fun ad e => Nat.lt_of_lt_of_le (h.l2 ad e) k.size, h.c1, h.c2, h.one⟩
theorem EnR.keep {pf : Nat} {w w' : World} {e : Ent} (h : EnR pf w e) (k : Ch (fun b => b = pf) w w') : EnR pf w' e := h.keepS k h.p1 h.p2
theorem EnR.keep0 {pf : Nat} {w w' : World} {e : Ent} (h : EnR pf w e) (k : Ch No w w') : EnR pf w' e := h.keepS k (fun _ _ h => h) (fun _ _ h => h)
theorem Ow.at_blk {e : TypeId} {α : Type} {f : α → Value} {w : World} {A : Option Addr} {n c : Nat} {l : List α} (ho : Ow e f w (.slice A n c) l) (ad : Addr) (h : A = some ad) : Blk (.slice A n c) ad.block ∧ ad.block < w.heap.size := by
  rcases ho.form with ⟨h1, _⟩ | ⟨g, c', cur, h1, _, _, h2, _⟩
  · injection h1 with h1; rw [h] at h1; cases h1
  · injection h1 with h1 _ _
    rw [h] at h1
    injection h1 with h1
    subst h1; subst h
    exact ⟨Blk_slice.2 rfl, h2⟩
/-- What a written value is, whatever tree its cells say. -/
def PuTo (w0 : World) (zs : List Value) (pf : Nat) (w : World) (e : Ending) (w' : World) : Prop :=
  ∃ v d, e = .returned v ∧ (∀ t, TrP w0 t zs → PutD t d) ∧ d.length ≤ 262200000 ∧ Ow 5 u8 w' v d ∧ Fr w v ∧ Fm w' pf ∧ Ch (fun b => b = pf) w w'
theorem put_any (w0 : World) (pf : Nat) (hpf : w0.heap.size ≤ pf) (z0 z1 z2 z3 z4 : Value) (w : World) (hF : Fm w pf) (hw : Ch (Fro w0.heap.size) w0 w) (ht : ∃ t lv, TrP w0 t [z0, z1, z2, z3, z4] ∧ FitP t lv ∧ cnt t ≤ 2000) :
    Calls Tryd.prog 27 #[.agg #[z0, z1, z2, z3, z4], .pointer (some ⟨pf, 0, none⟩)] w (PuTo w0 [z0, z1, z2, z3, z4] pf w) := by
  obtain ⟨t, lv, h1, h2, h3⟩ := ht
  refine (putPack_calls w0 pf hpf t z0 z1 z2 z3 z4 w lv h1 hw hF h2 h3).mono ?_
  rintro e w' ⟨v, d, rfl, hd, hl, ho, hf, hF', hch⟩
  exact ⟨v, d, rfl, fun t' h' => (TrP.one_tree t t' _ h1 h') ▸ hd, by omega, ho, hf, hF', hch⟩
end Go.Proofs.YtooifcdkpddlmaaDoor
