/- Laws for a map with integer keys that a call lays as a literal and looks into. No condition. -/
import Derived.Test.YtkbjnkhkjgomcaaDoorLib
import Derived.MapKept
import Derived.Maps.OwnOps
namespace Go.Proofs.YtkbjnkhkjgomcaaDoor
set_option linter.unusedVariables false
set_option linter.unusedSimpArgs false
open Go.RowKit

def look (kvs : List (Int × Value)) (k : Int) : Option Value := (kvs.find? fun p => p.1 == k).map (·.2)
/-- Block m is a map of keys of kind q: under k lies what the list has under it. -/
def IMap (q : IntKind) (w : World) (m : Nat) (kvs : List (Int × Value)) : Prop :=
  ∃ es clk, w.heap[m]? = some (.map es clk) ∧ ∀ k : Int, ∃ r, Instr.findNow (.int q) (.int q k) es.toList 0 = some r ∧ r.map (·.2) = look kvs k
theorem IMap.keep {S : Nat → Prop} {q : IntKind} {w w' : World} {m : Nat} {kvs : List (Int × Value)} (h : IMap q w m kvs) (k : Ch S w w') (hn : ¬ S m) : IMap q w' m kvs := by
  obtain ⟨es, clk, h1, h2⟩ := h
  exact ⟨es, clk, (k.block m (Array.getElem?_eq_some_iff.1 h1).1 hn).trans h1, h2⟩
theorem findNow_snoc (q : IntKind) (k j : Int) (v : Value) (clk : Nat) : ∀ (es : List MapEntry) (i : Nat) (r : Option (Nat × Value)), Instr.findNow (.int q) (.int q k) es i = some r →
    Instr.findNow (.int q) (.int q k) (es ++ [⟨.int q j, v, clk⟩]) i = some (match r with | some x => some x | none => if k = j then some (i + es.length, v) else none)
  | [], i, r, h => by
    simp [Instr.findNow] at h
    subst h
    by_cases e : k = j
    · simp [Instr.findNow, Instr.sameNow, e]
    · have e' : (k == j) = false := by simpa using e
      simp [Instr.findNow, Instr.sameNow, e, e']
  | e :: es, i, r, h => by
    simp only [List.cons_append, Instr.findNow] at h ⊢
    split at h
    · rename_i hs
      injection h with h
      subst h
      simp
    · rename_i hs
      have := findNow_snoc q k j v clk es (i + 1) r h
      simp only [this]
      cases r with
      | some x => rfl
      | none => simp [Nat.add_comm, Nat.add_left_comm]
    · cases h
section
variable {P : Program} {ops : Array Oper} {rest : List Oper} {o : Oper} {a : Act} {Q : Exit → Act → World → Prop} {w : World}
theorem wp_makeMap (hgd : o.guard = none) (t : TypeId) (ho : o.op = .makeMap t none) (q : IntKind) (h : ∀ w' m, w.heap.size ≤ m → IMap q w' m [] → Ch No w w' → wpList P ops Q rest (a.put o.dst (.map (some m))) w') : wpList P ops Q (o :: rest) a w := by
  refine wpList_plain hgd fun K hK => ?_
  have hrun : (Instr.makeMap t none).run P w = .ok (.map (some w.heap.size)) (w.alloc (.map #[] 0)) := by simp [Instr.makeMap]
  unfold Oper.wp execOp
  simp only [ho, Option.map, Sem.run_bind, Sem.run_pure, hrun, Result.andThen_ok]
  refine hK _ _ (h _ _ (Nat.le_refl _) ⟨#[], 0, ?_, fun k => ⟨none, rfl, rfl⟩⟩ ((Ch.refl _ _).alloc _))
  show (w.heap.push _)[w.heap.size]? = _
  simp
/-- A key that was not there is laid. w0: the world ahead of the map's making. -/
theorem wp_insert {w0 : World} (hgd : o.guard = none) (hN : o.dst = none) (t kt et : TypeId) (x kx vx : Operand) (ho : o.op = .insert t x kx vx) (q : IntKind) (ht : P.underlying t = some (.map kt et)) (hkt : P.underlying kt = some (.int q))
    (m : Nat) (k : Int) (v : Value) (kvs : List (Int × Value)) (hx : a.eval x = .map (some m)) (hk : a.eval kx = .int q k) (hv : a.eval vx = v) (hM : IMap q w m kvs) (hnew : look kvs k = none) (hC : Ch No w0 w) (hm : w0.heap.size ≤ m)
    (h : ∀ w', IMap q w' m (kvs ++ [(k, v)]) → Ch No w0 w' → wpList P ops Q rest a w') : wpList P ops Q (o :: rest) a w := by
  obtain ⟨es, clk, hb, hf⟩ := hM
  obtain ⟨r, hr, hr2⟩ := hf k
  rw [hnew] at hr2
  have hr0 : r = none := by cases r with
    | none => rfl
    | some y => cases hr2
  subst hr0
  have hrun : (Instr.mapUpdate t (.map (some m)) (.int q k) v).run P w = .ok () { w with heap := w.heap.setIfInBounds m (.map (es.push ⟨.int q k, v, clk⟩) (clk + 1)) } := by
    simp [Instr.mapUpdate, run_underlying ht, MapKept.run_getObj_map hb, MapKept.run_checkKey hkt (k := .int q k) rfl, MapKept.run_findKey hkt hr, MapKept.run_setObj_map _ hb, Result.andThen]
  refine wpList_plain hgd fun K hK => ?_
  unfold Oper.wp execOp
  simp only [ho, hx, hk, hv, Sem.run_bind, Sem.run_pure, hrun, Result.andThen_ok]
  show K (a.put o.dst undef) _
  rw [hN]
  obtain ⟨g1, g2⟩ := MapKept.heap_set (o' := .map (es.push ⟨.int q k, v, clk⟩) (clk + 1)) hb
  refine hK a _ (h _ ⟨_, _, g1, fun j => ?_⟩ (hC.trans (S' := fun x => x = m) ⟨rfl, rfl, rfl, by simp, fun i _ hn => g2 i hn⟩ (fun _ h => h) (fun x hx => .inr (by subst hx; exact hm))))
  obtain ⟨r, hr, hr2⟩ := hf j
  have hs := findNow_snoc q j k v clk es.toList 0 r hr
  refine ⟨_, by rw [Array.toList_push]; exact hs, ?_⟩
  unfold look at hr2 ⊢
  rw [List.find?_append]
  cases r with
  | some y =>
    cases hfd : kvs.find? fun p => p.1 == j with
    | none => rw [hfd] at hr2; cases hr2
    | some z => rw [hfd] at hr2; simpa using hr2
  | none =>
    cases hfd : kvs.find? fun p => p.1 == j with
    | some z => rw [hfd] at hr2; cases hr2
    | none =>
      by_cases e : j = k
      · subst e; simp
      · have e' : ¬ k = j := fun h => e h.symm
        simp [e, e']
/-- m[k]: what lies under k, or the zero value. -/
theorem wp_look (hgd : o.guard = none) (t kt et : TypeId) (x kx : Operand) (ho : o.op = .lookup t x kx false) (q : IntKind) (ht : P.underlying t = some (.map kt et)) (hkt : P.underlying kt = some (.int q)) (z : Value) (hz : ∀ w : World, (zeroValue et).run P w = .ok z w)
    (m : Nat) (k : Int) (kvs : List (Int × Value)) (hx : a.eval x = .map (some m)) (hk : a.eval kx = .int q k) (hM : IMap q w m kvs) (v : Value) (hv : (look kvs k).getD z = v)
    (h : wpList P ops Q rest (a.put o.dst v) w) : wpList P ops Q (o :: rest) a w := by
  obtain ⟨es, clk, hb, hf⟩ := hM
  obtain ⟨r, hr, hr2⟩ := hf k
  have hrun : (Instr.lookup t (.map (some m)) (.int q k) false).run P w = .ok v w := by
    cases r with
    | none =>
      have hl : look kvs k = none := hr2.symm
      rw [hl] at hv
      simp [Instr.lookup, run_underlying ht, MapKept.run_getObj_map hb, MapKept.run_checkKey hkt (k := .int q k) rfl, MapKept.run_findKey hkt hr, hz, Result.andThen]
      exact hv
    | some y =>
      have hl : look kvs k = some y.2 := hr2.symm
      rw [hl] at hv
      simp [Instr.lookup, run_underlying ht, MapKept.run_getObj_map hb, MapKept.run_checkKey hkt (k := .int q k) rfl, MapKept.run_findKey hkt hr, Result.andThen]
      exact hv
  refine wpList_plain hgd fun K hK => ?_
  unfold Oper.wp execOp
  simp only [ho, hx, hk, Sem.run_bind, Sem.run_pure, hrun, Result.andThen_ok]
  exact hK _ _ h
/-- v, ok := m[k]. -/
theorem wp_look_ok (hgd : o.guard = none) (t kt et : TypeId) (x kx : Operand) (ho : o.op = .lookup t x kx true) (q : IntKind) (ht : P.underlying t = some (.map kt et)) (hkt : P.underlying kt = some (.int q)) (z : Value) (hz : ∀ w : World, (zeroValue et).run P w = .ok z w)
    (m : Nat) (k : Int) (kvs : List (Int × Value)) (hx : a.eval x = .map (some m)) (hk : a.eval kx = .int q k) (hM : IMap q w m kvs) (v : Value) (b : Bool) (hv : (look kvs k).getD z = v) (hbo : (look kvs k).isSome = b)
    (h : wpList P ops Q rest (a.put o.dst (.tuple #[v, .bool b])) w) : wpList P ops Q (o :: rest) a w := by
  obtain ⟨es, clk, hb, hf⟩ := hM
  obtain ⟨r, hr, hr2⟩ := hf k
  have hrun : (Instr.lookup t (.map (some m)) (.int q k) true).run P w = .ok (.tuple #[v, .bool b]) w := by
    cases r with
    | none =>
      have hl : look kvs k = none := hr2.symm
      rw [hl] at hv hbo
      simp [Instr.lookup, run_underlying ht, MapKept.run_getObj_map hb, MapKept.run_checkKey hkt (k := .int q k) rfl, MapKept.run_findKey hkt hr, hz, Result.andThen]
      exact ⟨hv, by simpa using hbo⟩
    | some y =>
      have hl : look kvs k = some y.2 := hr2.symm
      rw [hl] at hv hbo
      simp [Instr.lookup, run_underlying ht, MapKept.run_getObj_map hb, MapKept.run_checkKey hkt (k := .int q k) rfl, MapKept.run_findKey hkt hr, Result.andThen]
      exact ⟨hv, by simpa using hbo⟩
  refine wpList_plain hgd fun K hK => ?_
  unfold Oper.wp execOp
  simp only [ho, hx, hk, Sem.run_bind, Sem.run_pure, hrun, Result.andThen_ok]
  exact hK _ _ h
end
section
variable {P : Program} {o : Oper} {a : Act} {E : Exit → Act → World → Prop} {K : Act → World → Prop} {w : World}
/-- The same in a region of many operations, at the operation half run. -/
theorem upon_makeMap (t : TypeId) (q : IntKind) (f : Value → World → Result Next) (h : ∀ w' m, w.heap.size ≤ m → IMap q w' m [] → Ch No w w' → Oper.upon P o a K E (f (.map (some m)) w')) :
    Oper.upon P o a K E ((Sem.run P (Instr.makeMap t none) w).andThen f) := by
  have hrun : (Instr.makeMap t none).run P w = .ok (.map (some w.heap.size)) (w.alloc (.map #[] 0)) := by simp [Instr.makeMap]
  have e : (Sem.run P (Instr.makeMap t none) w).andThen f = f (.map (some w.heap.size)) (w.alloc (.map #[] 0)) := by
    rw [show Sem.run P (Instr.makeMap t none) w = _ from hrun]; rfl
  rw [e]
  refine h _ _ (Nat.le_refl _) ⟨#[], 0, ?_, fun k => ⟨none, rfl, rfl⟩⟩ ((Ch.refl _ _).alloc _)
  show (w.heap.push _)[w.heap.size]? = _
  simp
theorem insert_run {w0 : World} (t kt et : TypeId) (q : IntKind) (ht : P.underlying t = some (.map kt et)) (hkt : P.underlying kt = some (.int q)) (m : Nat) (k : Int) (v : Value) (kvs : List (Int × Value)) (hM : IMap q w m kvs) (hnew : look kvs k = none) (hC : Ch No w0 w) (hm : w0.heap.size ≤ m) :
    ∃ w', (Instr.mapUpdate t (.map (some m)) (.int q k) v).run P w = .ok () w' ∧ IMap q w' m (kvs ++ [(k, v)]) ∧ Ch No w0 w' := by
  obtain ⟨es, clk, hb, hf⟩ := hM
  obtain ⟨r, hr, hr2⟩ := hf k
  rw [hnew] at hr2
  have hr0 : r = none := by cases r with
    | none => rfl
    | some y => cases hr2
  subst hr0
  have hrun : (Instr.mapUpdate t (.map (some m)) (.int q k) v).run P w = .ok () { w with heap := w.heap.setIfInBounds m (.map (es.push ⟨.int q k, v, clk⟩) (clk + 1)) } := by
    simp [Instr.mapUpdate, run_underlying ht, MapKept.run_getObj_map hb, MapKept.run_checkKey hkt (k := .int q k) rfl, MapKept.run_findKey hkt hr, MapKept.run_setObj_map _ hb, Result.andThen]
  obtain ⟨g1, g2⟩ := MapKept.heap_set (o' := .map (es.push ⟨.int q k, v, clk⟩) (clk + 1)) hb
  refine ⟨_, hrun, ⟨_, _, g1, fun j => ?_⟩, (hC.trans (S' := fun x => x = m) ⟨rfl, rfl, rfl, by simp, fun i _ hn => g2 i hn⟩ (fun _ h => h) (fun x hx => .inr (by subst hx; exact hm)))⟩
  obtain ⟨r, hr, hr2⟩ := hf j
  have hs := findNow_snoc q j k v clk es.toList 0 r hr
  refine ⟨_, by rw [Array.toList_push]; exact hs, ?_⟩
  unfold look at hr2 ⊢
  rw [List.find?_append]
  cases r with
  | some y =>
    cases hfd : kvs.find? fun p => p.1 == j with
    | none => rw [hfd] at hr2; cases hr2
    | some z => rw [hfd] at hr2; simpa using hr2
  | none =>
    cases hfd : kvs.find? fun p => p.1 == j with
    | some z => rw [hfd] at hr2; cases hr2
    | none =>
      by_cases e : j = k
      · subst e; simp
      · have e' : ¬ k = j := fun h => e h.symm
        simp [e, e']
theorem upon_insert {w0 : World} (t kt et : TypeId) (q : IntKind) (ht : P.underlying t = some (.map kt et)) (hkt : P.underlying kt = some (.int q)) (m : Nat) (k : Int) (v : Value) (kvs : List (Int × Value)) (f : Unit → World → Result Next) (hM : IMap q w m kvs) (hnew : look kvs k = none) (hC : Ch No w0 w) (hm : w0.heap.size ≤ m)
    (h : ∀ w', IMap q w' m (kvs ++ [(k, v)]) → Ch No w0 w' → Oper.upon P o a K E (f () w')) : Oper.upon P o a K E ((Sem.run P (Instr.mapUpdate t (.map (some m)) (.int q k) v) w).andThen f) := by
  obtain ⟨w', hrun, h1, h2⟩ := insert_run t kt et q ht hkt m k v kvs hM hnew hC hm
  have e : (Sem.run P (Instr.mapUpdate t (.map (some m)) (.int q k) v) w).andThen f = f () w' := by
    rw [show Sem.run P (Instr.mapUpdate t (.map (some m)) (.int q k) v) w = _ from hrun]; rfl
  rw [e]
  exact h w' h1 h2
end
end Go.Proofs.YtkbjnkhkjgomcaaDoor
