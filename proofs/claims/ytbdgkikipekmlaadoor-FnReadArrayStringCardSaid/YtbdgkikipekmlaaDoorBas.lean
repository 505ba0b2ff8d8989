/- Plain words on big-endian numbers. Laws for a map with integer keys that a call lays as a literal and looks into. Plain words: numbers as bytes, the highest first, and back. The walks of MessagePack's small writers: prefixes, room, bytes copied. The walks of MessagePack's writers over a copy of what stood before. Lists that the call has made, of elements of several cells. What the library's functions without a Go body come to that turn floats into their bits and back. No condition. -/
import Derived.Test.YtbdgkikipekmlaaDoorLib
import Derived.MapKept
import Derived.Maps.OwnOps
import Derived.Deep.RegionWith
namespace Go.Proofs.YtbdgkikipekmlaaDoor
set_option linter.unusedVariables false
set_option linter.unusedSimpArgs false
open Go.RowKit
def Byt (l : List Int) : Prop := ∀ x ∈ l, 0 ≤ x ∧ x < 256
theorem Byt.at_ {l : List Int} (h : Byt l) (i : Nat) (hi : i < l.length) : 0 ≤ l[i] ∧ l[i] < 256 := h _ (List.getElem_mem hi)
theorem Byt.take {l : List Int} (h : Byt l) (n : Nat) : Byt (l.take n) := fun x hx => h x (List.mem_of_mem_take hx)
theorem Byt.drop {l : List Int} (h : Byt l) (n : Nat) : Byt (l.drop n) := fun x hx => h x (List.mem_of_mem_drop hx)
theorem Byt.append {l m : List Int} (h : Byt l) (k : Byt m) : Byt (l ++ m) := fun x hx => (List.mem_append.1 hx).elim (h x) (k x)
def beN (l : List Int) : Int := l.foldl (fun u b => u * 256 + b) 0
theorem beN_snoc (l : List Int) (b : Int) : beN (l ++ [b]) = beN l * 256 + b := by simp [beN]
theorem beN_take (l : List Int) (k : Nat) (hk : k < l.length) : beN (l.take (k + 1)) = beN (l.take k) * 256 + l[k] := by
  rw [List.take_succ_eq_append_getElem hk, beN_snoc]
theorem beN_range : ∀ (n : Nat) (l : List Int), l.length = n → Byt l → 0 ≤ beN l ∧ beN l < 256 ^ n
  | 0, l, hl, _ => by
    obtain rfl : l = [] := List.eq_nil_of_length_eq_zero hl
    simp [beN]
  | n + 1, l, hl, hb => by
    have e : l = l.take n ++ [l[n]] := by
      rw [← List.take_succ_eq_append_getElem (by omega), List.take_of_length_le (by omega)]
    obtain ⟨h1, h2⟩ := beN_range n (l.take n) (by rw [List.length_take]; omega) (hb.take n)
    have h3 := hb.at_ n (by omega)
    rw [e, beN_snoc, Int.pow_succ]
    omega
theorem beN_lt7 {l : List Int} (hl : l.length ≤ 7) (hb : Byt l) : 0 ≤ beN l ∧ beN l < 72057594037927936 := by
  obtain ⟨h0, h1⟩ := beN_range _ l rfl hb
  have hf : ∀ k : Fin 8, (256 : Int) ^ k.val ≤ 72057594037927936 := by decide
  exact ⟨h0, Int.lt_of_lt_of_le h1 (hf ⟨l.length, by omega⟩)⟩
theorem beN_lt8 {l : List Int} (hl : l.length ≤ 8) (hb : Byt l) : 0 ≤ beN l ∧ beN l < 18446744073709551616 := by
  obtain ⟨h0, h1⟩ := beN_range _ l rfl hb
  have hf : ∀ k : Fin 9, (256 : Int) ^ k.val ≤ 18446744073709551616 := by decide
  exact ⟨h0, Int.lt_of_lt_of_le h1 (hf ⟨l.length, by omega⟩)⟩
theorem or_u64 (u b : Int) (h0 : 0 ≤ u) (h1 : u < 72057594037927936) (hb0 : 0 ≤ b) (hb1 : b < 256) : bits .or .u64 (u * 256) b = u * 256 + b := by
  exact bits_join .u64 64 (by decide) (fun n h0 h1 => by simp [IntKind.wrap, IntKind.bits, IntKind.signed]; omega) 8 (u * 256) b (by omega) (by omega) (by omega) (by omega) (by omega) (by omega)
end Go.Proofs.YtbdgkikipekmlaaDoor

namespace Go.Proofs.YtbdgkikipekmlaaDoor
set_option linter.unusedVariables false
set_option linter.unusedSimpArgs false
open Go.RowKit

def look (kvs : List (Int × Value)) (k : Int) : Option Value := (kvs.find? fun p => p.1 == k).map (·.2)
/-- Block m is a map of keys of kind q: under k lies what the list has under it. -/
def IMap (q : IntKind) (w : World) (m : Nat) (kvs : List (Int × Value)) : Prop :=
  ∃ es clk, w.heap[m]? = some (.map es clk) ∧ ∀ k : Int, ∃ r, Instr.findNow (.int q) (.int q k) es.toList 0 = some r ∧ r.map (·.2) = look kvs k
theorem IMap.keep {S : Nat → Prop} {q : IntKind} {w w' : World} {m : Nat} {kvs : List (Int × Value)} (h : IMap q w m kvs) (k : Ch S w w') (hn : ¬ S m) : IMap q w' m kvs := by
  obtain ⟨es, clk, h1, h2⟩ := h
  exact ⟨es, clk, (k.block m (Array.getElem?_eq_some_iff.1 h1).1 hn).trans h1, h2⟩
theorem findNow_snoc (q : IntKind) (k j : Int) (v : Value) (clk : Nat) : ∀ (es : List MapEntry) (i : Nat) (r : Option (Nat × Value)), Instr.findNow (.int q) (.int q k) es i = some r →
    Instr.findNow (.int q) (.int q k) (es ++ [⟨.int q j, v, clk⟩]) i = some (match r with | some x => some x | none => if k = j then some (i + es.length, v) else none)
  | [], i, r, h => by
    simp [Instr.findNow] at h
    subst h
    by_cases e : k = j
    · simp [Instr.findNow, Instr.sameNow, e]
    · have e' : (k == j) = false := by simpa using e
      simp [Instr.findNow, Instr.sameNow, e, e']
  | e :: es, i, r, h => by
    simp only [List.cons_append, Instr.findNow] at h ⊢
    split at h
    · rename_i hs
      injection h with h
      subst h
      simp
    · rename_i hs
      have := findNow_snoc q k j v clk es (i + 1) r h
      simp only [this]
      cases r with
      | some x => rfl
      | none => simp [Nat.add_comm, Nat.add_left_comm]
    · cases h
section
variable {P : Program} {ops : Array Oper} {rest : List Oper} {o : Oper} {a : Act} {Q : Exit → Act → World → Prop} {w : World}
theorem wp_makeMap (hgd : o.guard = none) (t : TypeId) (ho : o.op = .makeMap t none) (q : IntKind) (h : ∀ w' m, w.heap.size ≤ m → IMap q w' m [] → Ch No w w' → wpList P ops Q rest (a.put o.dst (.map (some m))) w') : wpList P ops Q (o :: rest) a w := by
  refine wpList_plain hgd fun K hK => ?_
  have hrun : (Instr.makeMap t none).run P w = .ok (.map (some w.heap.size)) (w.alloc (.map #[] 0)) := by simp [Instr.makeMap]
  unfold Oper.wp execOp
  simp only [ho, Option.map, Sem.run_bind, Sem.run_pure, hrun, Result.andThen_ok]
  refine hK _ _ (h _ _ (Nat.le_refl _) ⟨#[], 0, ?_, fun k => ⟨none, rfl, rfl⟩⟩ ((Ch.refl _ _).alloc _))
  show (w.heap.push _)[w.heap.size]? = _
  simp
/-- A key that was not there is laid. w0: the world ahead of the map's making. -/
theorem wp_insert {w0 : World} (hgd : o.guard = none) (hN : o.dst = none) (t kt et : TypeId) (x kx vx : Operand) (ho : o.op = .insert t x kx vx) (q : IntKind) (ht : P.underlying t = some (.map kt et)) (hkt : P.underlying kt = some (.int q))
    (m : Nat) (k : Int) (v : Value) (kvs : List (Int × Value)) (hx : a.eval x = .map (some m)) (hk : a.eval kx = .int q k) (hv : a.eval vx = v) (hM : IMap q w m kvs) (hnew : look kvs k = none) (hC : Ch No w0 w) (hm : w0.heap.size ≤ m)
    (h : ∀ w', IMap q w' m (kvs ++ [(k, v)]) → Ch No w0 w' → wpList P ops Q rest a w') : wpList P ops Q (o :: rest) a w := by
  obtain ⟨es, clk, hb, hf⟩ := hM
  obtain ⟨r, hr, hr2⟩ := hf k
  rw [hnew] at hr2
  have hr0 : r = none := by cases r with
    | none => rfl
    | some y => cases hr2
  subst hr0
  have hrun : (Instr.mapUpdate t (.map (some m)) (.int q k) v).run P w = .ok () { w with heap := w.heap.setIfInBounds m (.map (es.push ⟨.int q k, v, clk⟩) (clk + 1)) } := by
    simp [Instr.mapUpdate, run_underlying ht, MapKept.run_getObj_map hb, MapKept.run_checkKey hkt (k := .int q k) rfl, MapKept.run_findKey hkt hr, MapKept.run_setObj_map _ hb, Result.andThen]
  refine wpList_plain hgd fun K hK => ?_
  unfold Oper.wp execOp
  simp only [ho, hx, hk, hv, Sem.run_bind, Sem.run_pure, hrun, Result.andThen_ok]
  show K (a.put o.dst undef) _
  rw [hN]
  obtain ⟨g1, g2⟩ := MapKept.heap_set (o' := .map (es.push ⟨.int q k, v, clk⟩) (clk + 1)) hb
  refine hK a _ (h _ ⟨_, _, g1, fun j => ?_⟩ (hC.trans (S' := fun x => x = m) ⟨rfl, rfl, rfl, by simp, fun i _ hn => g2 i hn⟩ (fun _ h => h) (fun x hx => .inr (by subst hx; exact hm))))
  obtain ⟨r, hr, hr2⟩ := hf j
  have hs := findNow_snoc q j k v clk es.toList 0 r hr
  refine ⟨_, by rw [Array.toList_push]; exact hs, ?_⟩
  unfold look at hr2 ⊢
  rw [List.find?_append]
  cases r with
  | some y =>
    cases hfd : kvs.find? fun p => p.1 == j with
    | none => rw [hfd] at hr2; cases hr2
    | some z => rw [hfd] at hr2; simpa using hr2
  | none =>
    cases hfd : kvs.find? fun p => p.1 == j with
    | some z => rw [hfd] at hr2; cases hr2
    | none =>
      by_cases e : j = k
      · subst e; simp
      · have e' : ¬ k = j := fun h => e h.symm
        simp [e, e']
/-- m[k]: what lies under k, or the zero value. -/
theorem wp_look (hgd : o.guard = none) (t kt et : TypeId) (x kx : Operand) (ho : o.op = .lookup t x kx false) (q : IntKind) (ht : P.underlying t = some (.map kt et)) (hkt : P.underlying kt = some (.int q)) (z : Value) (hz : ∀ w : World, (zeroValue et).run P w = .ok z w)
    (m : Nat) (k : Int) (kvs : List (Int × Value)) (hx : a.eval x = .map (some m)) (hk : a.eval kx = .int q k) (hM : IMap q w m kvs) (v : Value) (hv : (look kvs k).getD z = v)
    (h : wpList P ops Q rest (a.put o.dst v) w) : wpList P ops Q (o :: rest) a w := by
  obtain ⟨es, clk, hb, hf⟩ := hM
  obtain ⟨r, hr, hr2⟩ := hf k
  have hrun : (Instr.lookup t (.map (some m)) (.int q k) false).run P w = .ok v w := by
    cases r with
    | none =>
      have hl : look kvs k = none := hr2.symm
      rw [hl] at hv
      simp [Instr.lookup, run_underlying ht, MapKept.run_getObj_map hb, MapKept.run_checkKey hkt (k := .int q k) rfl, MapKept.run_findKey hkt hr, hz, Result.andThen]
      exact hv
    | some y =>
      have hl : look kvs k = some y.2 := hr2.symm
      rw [hl] at hv
      simp [Instr.lookup, run_underlying ht, MapKept.run_getObj_map hb, MapKept.run_checkKey hkt (k := .int q k) rfl, MapKept.run_findKey hkt hr, Result.andThen]
      exact hv
  refine wpList_plain hgd fun K hK => ?_
  unfold Oper.wp execOp
  simp only [ho, hx, hk, Sem.run_bind, Sem.run_pure, hrun, Result.andThen_ok]
  exact hK _ _ h
/-- v, ok := m[k]. -/
theorem wp_look_ok (hgd : o.guard = none) (t kt et : TypeId) (x kx : Operand) (ho : o.op = .lookup t x kx true) (q : IntKind) (ht : P.underlying t = some (.map kt et)) (hkt : P.underlying kt = some (.int q)) (z : Value) (hz : ∀ w : World, (zeroValue et).run P w = .ok z w)
    (m : Nat) (k : Int) (kvs : List (Int × Value)) (hx : a.eval x = .map (some m)) (hk : a.eval kx = .int q k) (hM : IMap q w m kvs) (v : Value) (b : Bool) (hv : (look kvs k).getD z = v) (hbo : (look kvs k).isSome = b)
    (h : wpList P ops Q rest (a.put o.dst (.tuple #[v, .bool b])) w) : wpList P ops Q (o :: rest) a w := by
  obtain ⟨es, clk, hb, hf⟩ := hM
  obtain ⟨r, hr, hr2⟩ := hf k
  have hrun : (Instr.lookup t (.map (some m)) (.int q k) true).run P w = .ok (.tuple #[v, .bool b]) w := by
    cases r with
    | none =>
      have hl : look kvs k = none := hr2.symm
      rw [hl] at hv hbo
      simp [Instr.lookup, run_underlying ht, MapKept.run_getObj_map hb, MapKept.run_checkKey hkt (k := .int q k) rfl, MapKept.run_findKey hkt hr, hz, Result.andThen]
      exact ⟨hv, by simpa using hbo⟩
    | some y =>
      have hl : look kvs k = some y.2 := hr2.symm
      rw [hl] at hv hbo
      simp [Instr.lookup, run_underlying ht, MapKept.run_getObj_map hb, MapKept.run_checkKey hkt (k := .int q k) rfl, MapKept.run_findKey hkt hr, Result.andThen]
      exact ⟨hv, by simpa using hbo⟩
  refine wpList_plain hgd fun K hK => ?_
  unfold Oper.wp execOp
  simp only [ho, hx, hk, Sem.run_bind, Sem.run_pure, hrun, Result.andThen_ok]
  exact hK _ _ h
end
section
variable {P : Program} {o : Oper} {a : Act} {E : Exit → Act → World → Prop} {K : Act → World → Prop} {w : World}
/-- The same in a region of many operations, at the operation half run. -/
theorem upon_makeMap (t : TypeId) (q : IntKind) (f : Value → World → Result Next) (h : ∀ w' m, w.heap.size ≤ m → IMap q w' m [] → Ch No w w' → Oper.upon P o a K E (f (.map (some m)) w')) :
    Oper.upon P o a K E ((Sem.run P (Instr.makeMap t none) w).andThen f) := by
  have hrun : (Instr.makeMap t none).run P w = .ok (.map (some w.heap.size)) (w.alloc (.map #[] 0)) := by simp [Instr.makeMap]
  have e : (Sem.run P (Instr.makeMap t none) w).andThen f = f (.map (some w.heap.size)) (w.alloc (.map #[] 0)) := by
    rw [show Sem.run P (Instr.makeMap t none) w = _ from hrun]; rfl
  rw [e]
  refine h _ _ (Nat.le_refl _) ⟨#[], 0, ?_, fun k => ⟨none, rfl, rfl⟩⟩ ((Ch.refl _ _).alloc _)
  show (w.heap.push _)[w.heap.size]? = _
  simp
theorem insert_run {w0 : World} (t kt et : TypeId) (q : IntKind) (ht : P.underlying t = some (.map kt et)) (hkt : P.underlying kt = some (.int q)) (m : Nat) (k : Int) (v : Value) (kvs : List (Int × Value)) (hM : IMap q w m kvs) (hnew : look kvs k = none) (hC : Ch No w0 w) (hm : w0.heap.size ≤ m) :
    ∃ w', (Instr.mapUpdate t (.map (some m)) (.int q k) v).run P w = .ok () w' ∧ IMap q w' m (kvs ++ [(k, v)]) ∧ Ch No w0 w' := by
  obtain ⟨es, clk, hb, hf⟩ := hM
  obtain ⟨r, hr, hr2⟩ := hf k
  rw [hnew] at hr2
  have hr0 : r = none := by cases r with
    | none => rfl
    | some y => cases hr2
  subst hr0
  have hrun : (Instr.mapUpdate t (.map (some m)) (.int q k) v).run P w = .ok () { w with heap := w.heap.setIfInBounds m (.map (es.push ⟨.int q k, v, clk⟩) (clk + 1)) } := by
    simp [Instr.mapUpdate, run_underlying ht, MapKept.run_getObj_map hb, MapKept.run_checkKey hkt (k := .int q k) rfl, MapKept.run_findKey hkt hr, MapKept.run_setObj_map _ hb, Result.andThen]
  obtain ⟨g1, g2⟩ := MapKept.heap_set (o' := .map (es.push ⟨.int q k, v, clk⟩) (clk + 1)) hb
  refine ⟨_, hrun, ⟨_, _, g1, fun j => ?_⟩, (hC.trans (S' := fun x => x = m) ⟨rfl, rfl, rfl, by simp, fun i _ hn => g2 i hn⟩ (fun _ h => h) (fun x hx => .inr (by subst hx; exact hm)))⟩
  obtain ⟨r, hr, hr2⟩ := hf j
  have hs := findNow_snoc q j k v clk es.toList 0 r hr
  refine ⟨_, by rw [Array.toList_push]; exact hs, ?_⟩
  unfold look at hr2 ⊢
  rw [List.find?_append]
  cases r with
  | some y =>
    cases hfd : kvs.find? fun p => p.1 == j with
    | none => rw [hfd] at hr2; cases hr2
    | some z => rw [hfd] at hr2; simpa using hr2
  | none =>
    cases hfd : kvs.find? fun p => p.1 == j with
    | some z => rw [hfd] at hr2; cases hr2
    | none =>
      by_cases e : j = k
      · subst e; simp
      · have e' : ¬ k = j := fun h => e h.symm
        simp [e, e']
theorem upon_insert {w0 : World} (t kt et : TypeId) (q : IntKind) (ht : P.underlying t = some (.map kt et)) (hkt : P.underlying kt = some (.int q)) (m : Nat) (k : Int) (v : Value) (kvs : List (Int × Value)) (f : Unit → World → Result Next) (hM : IMap q w m kvs) (hnew : look kvs k = none) (hC : Ch No w0 w) (hm : w0.heap.size ≤ m)
    (h : ∀ w', IMap q w' m (kvs ++ [(k, v)]) → Ch No w0 w' → Oper.upon P o a K E (f () w')) : Oper.upon P o a K E ((Sem.run P (Instr.mapUpdate t (.map (some m)) (.int q k) v) w).andThen f) := by
  obtain ⟨w', hrun, h1, h2⟩ := insert_run t kt et q ht hkt m k v kvs hM hnew hC hm
  have e : (Sem.run P (Instr.mapUpdate t (.map (some m)) (.int q k) v) w).andThen f = f () w' := by
    rw [show Sem.run P (Instr.mapUpdate t (.map (some m)) (.int q k) v) w = _ from hrun]; rfl
  rw [e]
  exact h w' h1 h2
end
section
variable {P : Program} {ops : Array Oper} {Q : Exit → Act → World → Prop} {o : Oper} {a : Act} {w : World}
/-- The same as steps of a region that draws its order. -/
theorem step_makeMap {K : Act → World → Prop} {E : Prop} (hgd : o.guard = none) (t : TypeId) (ho : o.op = .makeMap t none) (q : IntKind) (h : ∀ w' m, w.heap.size ≤ m → IMap q w' m [] → Ch No w w' → K (a.put o.dst (.map (some m))) w') :
    if Region.wanted o (yielded ops a.tmps) = true then Oper.wp P o a w K Q else E := by
  have hw : Region.wanted o (yielded ops a.tmps) = true := by simp [Region.wanted, hgd]
  rw [if_pos hw]
  have hrun : (Instr.makeMap t none).run P w = .ok (.map (some w.heap.size)) (w.alloc (.map #[] 0)) := by simp [Instr.makeMap]
  unfold Oper.wp execOp
  simp only [ho, Option.map, Sem.run_bind, Sem.run_pure, hrun, Result.andThen_ok]
  refine h _ _ (Nat.le_refl _) ⟨#[], 0, ?_, fun k => ⟨none, rfl, rfl⟩⟩ ((Ch.refl _ _).alloc _)
  show (w.heap.push _)[w.heap.size]? = _
  simp
theorem step_insert {w0 : World} {K : Act → World → Prop} {E : Prop} (hgd : o.guard = none) (hN : o.dst = none) (t kt et : TypeId) (x kx vx : Operand) (ho : o.op = .insert t x kx vx) (q : IntKind) (ht : P.underlying t = some (.map kt et)) (hkt : P.underlying kt = some (.int q))
    (m : Nat) (k : Int) (v : Value) (kvs : List (Int × Value)) (hx : a.eval x = .map (some m)) (hk : a.eval kx = .int q k) (hv : a.eval vx = v) (hM : IMap q w m kvs) (hnew : look kvs k = none) (hC : Ch No w0 w) (hm : w0.heap.size ≤ m)
    (h : ∀ w', IMap q w' m (kvs ++ [(k, v)]) → Ch No w0 w' → K a w') : if Region.wanted o (yielded ops a.tmps) = true then Oper.wp P o a w K Q else E := by
  have hw : Region.wanted o (yielded ops a.tmps) = true := by simp [Region.wanted, hgd]
  rw [if_pos hw]
  obtain ⟨w', hrun, h1, h2⟩ := insert_run (P := P) t kt et q ht hkt m k v kvs hM hnew hC hm
  unfold Oper.wp execOp
  simp only [ho, hx, hk, hv, Sem.run_bind, Sem.run_pure, hrun, Result.andThen_ok]
  show K (a.put o.dst undef) _
  rw [hN]
  exact h w' h1 h2
theorem step_look {K : Act → World → Prop} {E : Prop} (hgd : o.guard = none) (t kt et : TypeId) (x kx : Operand) (ho : o.op = .lookup t x kx false) (q : IntKind) (ht : P.underlying t = some (.map kt et)) (hkt : P.underlying kt = some (.int q)) (z : Value) (hz : ∀ w : World, (zeroValue et).run P w = .ok z w)
    (m : Nat) (k : Int) (kvs : List (Int × Value)) (hx : a.eval x = .map (some m)) (hk : a.eval kx = .int q k) (hM : IMap q w m kvs) (v : Value) (hv : (look kvs k).getD z = v)
    (h : K (a.put o.dst v) w) : if Region.wanted o (yielded ops a.tmps) = true then Oper.wp P o a w K Q else E := by
  have hw : Region.wanted o (yielded ops a.tmps) = true := by simp [Region.wanted, hgd]
  rw [if_pos hw]
  obtain ⟨es, clk, hb, hf⟩ := hM
  obtain ⟨r, hr, hr2⟩ := hf k
  have hrun : (Instr.lookup t (.map (some m)) (.int q k) false).run P w = .ok v w := by
    cases r with
    | none =>
      have hl : look kvs k = none := hr2.symm
      rw [hl] at hv
      simp [Instr.lookup, run_underlying ht, MapKept.run_getObj_map hb, MapKept.run_checkKey hkt (k := .int q k) rfl, MapKept.run_findKey hkt hr, hz, Result.andThen]
      exact hv
    | some y =>
      have hl : look kvs k = some y.2 := hr2.symm
      rw [hl] at hv
      simp [Instr.lookup, run_underlying ht, MapKept.run_getObj_map hb, MapKept.run_checkKey hkt (k := .int q k) rfl, MapKept.run_findKey hkt hr, Result.andThen]
      exact hv
  unfold Oper.wp execOp
  simp only [ho, hx, hk, Sem.run_bind, Sem.run_pure, hrun, Result.andThen_ok]
  exact h
end
end Go.Proofs.YtbdgkikipekmlaaDoor

namespace Go.Proofs.YtbdgkikipekmlaaDoor
set_option linter.unusedVariables false
set_option linter.unusedSimpArgs false
open Go.RowKit
def be2 (n : Int) : List Int := [n / 256, n % 256]
def be4 (n : Int) : List Int := [n / 16777216, n / 65536 % 256, n / 256 % 256, n % 256]
def be8 (n : Int) : List Int := [n / 72057594037927936, n / 281474976710656 % 256, n / 1099511627776 % 256, n / 4294967296 % 256, n / 16777216 % 256, n / 65536 % 256, n / 256 % 256, n % 256]
theorem byt_be2 {n : Int} (h0 : 0 ≤ n) (h1 : n < 65536) : Byt (be2 n) := fun x hx => by
  simp only [be2, List.mem_cons, List.not_mem_nil, or_false] at hx
  omega
theorem byt_be4 {n : Int} (h0 : 0 ≤ n) (h1 : n < 4294967296) : Byt (be4 n) := fun x hx => by
  simp only [be4, List.mem_cons, List.not_mem_nil, or_false] at hx
  omega
theorem byt_be8 {n : Int} (h0 : 0 ≤ n) (h1 : n < 18446744073709551616) : Byt (be8 n) := fun x hx => by
  simp only [be8, List.mem_cons, List.not_mem_nil, or_false] at hx
  omega
theorem beN_be2 (n : Int) : beN (be2 n) = n := by simp only [beN, be2, List.foldl]; omega
theorem beN_be4 (n : Int) : beN (be4 n) = n := by simp only [beN, be4, List.foldl]; omega
theorem beN_be8 (n : Int) : beN (be8 n) = n := by simp only [beN, be8, List.foldl]; omega
theorem beN_1 (n : Int) : beN [n] = n := by simp [beN]
theorem Byt.cons {b : Int} {l : List Int} (h0 : 0 ≤ b) (h1 : b < 256) (h : Byt l) : Byt (b :: l) := fun x hx => by
  rcases List.mem_cons.1 hx with rfl | hx
  · exact ⟨h0, h1⟩
  · exact h x hx
theorem Byt.nil : Byt [] := fun _ hx => by cases hx
end Go.Proofs.YtbdgkikipekmlaaDoor

namespace Go.Proofs.YtbdgkikipekmlaaDoor
set_option linter.unusedVariables false
set_option linter.unusedSimpArgs false
open Go.RowKit

theorem info_u8 : (Tryd.prog.info? 5).map (fun i => (i.zero, i.size, i.bytes)) = some (some (.int .u8 0), 1, 1) := by kernel_rfl
theorem size_u8 : (Tryd.prog.info? 5).map (·.size) = some 1 := by kernel_rfl
abbrev u8 (x : Int) : Value := .int .u8 x



end Go.Proofs.YtbdgkikipekmlaaDoor

namespace Go.Proofs.YtbdgkikipekmlaaDoor
set_option linter.unusedVariables false
set_option linter.unusedSimpArgs false
open Go.RowKit

set_option maxHeartbeats 1000000 in
theorem copied_calls (A : Option Addr) (c : Nat) (l : List Int) (w : World) (hr : Rd u8 w A l) (hl : l.length ≤ 35184372088832) :
    Calls Tryd.prog 34 #[.slice A l.length c] w fun e w' => ∃ v, e = .returned v ∧ Ow 5 u8 w' v l ∧ Fr w v ∧ Ch No w w' := by
  go_enter Tryd.func34, Tryd.ntmps34
  go_wp2_with (first
    | ((with_reducible refine gate (.call { callee := .builtin .append, args := #[.tmp 3, .tmp 4], argTypes := #[26, 26] }) rfl ?_); refine wp_append rfl _ _ 26 5 (.int .u8 0) 1 rfl Tryd.underlying26 info_u8 rfl (by decide) u8 (fun _ => rfl) _ [] l _ _ _ rfl rfl rfl (Ow.lit 5 u8 w [] (by simp [maxLen])) (hr.keep0 ((Ch.refl _ _).alloc _)) (by simp; omega) ?_; intro v1 w1 ho hch hat))
  go_ret
  have hch1 := (Ch.refl No w).alloc (.cells #[] 5)
  have hf : Fr w (.slice (some ⟨w.heap.size, 0, none⟩) 0 0) := Fr.mk' (Nat.le_refl _)
  exact ⟨v1, rfl, by simpa using ho, hf.step hch1.size hat, hch1.fresh hch hf⟩

/-- Bytes are appended: what comes back is a row of the call's own, in the block of what was handed in or in a new one. -/
def AppTo (w : World) (vin : Value) (l enc : List Int) (e : Ending) (w' : World) : Prop := ∃ v, e = .returned v ∧ Ow 5 u8 w' v (l ++ enc) ∧ Ch (Blk vin) w w' ∧ ∀ k, Blk v k → Blk vin k ∨ w.heap.size ≤ k
theorem app_put {w w1 : World} {A : Option Addr} {c : Nat} {l : List Int} {g : Nat} {cur : List Value} {m : Nat} (enc : List Int) (hm : enc.length = m) (hrow : Row w1 g 5 cur) (htk : cur.take l.length = l.map u8) (hlen : l.length + m ≤ cur.length) (hmx : cur.length ≤ maxLen) (hch : Ch No w w1) (hor : A = some ⟨g, 0, none⟩ ∨ w.heap.size ≤ g) :
    AppTo w (.slice A l.length c) l enc (.returned (.slice (some ⟨g, 0, none⟩) (l.length + m) cur.length)) (w1.setCells g l.length (enc.map u8)) := by
  subst hm
  obtain ⟨h1, h2⟩ := Row.sets (enc.map u8) l.length w1 cur hrow (by simpa using hlen)
  refine ⟨_, rfl, ?_, ?_, ?_⟩
  · have hl : (cur.take l.length ++ enc.map u8 ++ cur.drop (l.length + (enc.map u8).length)).length = cur.length := by simp; omega
    have := h1.ow (f := u8) (l := l ++ enc) (by
      rw [List.map_append, htk, List.append_assoc, List.length_append, ← List.append_assoc]
      rw [List.take_append_of_le_length (by simp)]
      rw [List.take_of_length_le (by simp)]) (by rw [hl, List.length_append]; exact hlen) (by rw [hl]; exact hmx)
    rw [hl, List.length_append] at this
    exact this
  · rcases hor with rfl | hg
    · exact hch.trans h2 (fun _ h => h.elim) (fun x hx => .inl (by subst hx; exact Blk_slice.2 rfl))
    · exact hch.trans h2 (fun _ h => h.elim) (fun x hx => .inr (by subst hx; exact hg))
  · intro k hk
    have hk' := Blk_slice.1 hk
    subst hk'
    rcases hor with rfl | hg
    · exact .inl (Blk_slice.2 rfl)
    · exact .inr hg
theorem Row.isCell {w : World} {g : Nat} {e : TypeId} {cur : List Value} (h : Row w g e cur) (n m : Nat) (hn : n + m ≤ cur.length) : ∀ j, j < m → ∃ u, w.cell? ⟨g, n + j, none⟩ = some u := fun j hj =>
  ⟨_, h.cell (n + j) cur[n + j] (List.getElem?_eq_getElem (by omega))⟩


theorem Row.one (w : World) (x : Int) : Rd u8 (w.alloc (.cells #[u8 x] 5)) (some ⟨w.heap.size, 0, none⟩) [x] :=
  (Row.alloc w [u8 x] 5).rd (l := [x]) rfl
/-- Behind append(b, x): what is told of it, as AppTo. -/
theorem app_one {w w0 w1 : World} {v v1 : Value} {l : List Int} {x : Int} (ho : Ow 5 u8 w1 v1 (l ++ [x])) (hch : Ch (Blk v) w0 w1) (hat : ∀ k, Blk v1 k → Blk v k ∨ w0.heap.size ≤ k) (h0 : Ch No w w0) : AppTo w v l [x] (.returned v1) w1 :=
  ⟨v1, rfl, ho, h0.no_then hch, fun k hk => (hat k hk).imp id (fun h => Nat.le_trans h0.size h)⟩




end Go.Proofs.YtbdgkikipekmlaaDoor

namespace Go.Proofs.YtbdgkikipekmlaaDoor
set_option linter.unusedVariables false
set_option linter.unusedSimpArgs false
open Go.RowKit

/-! ### A list that the call has made, of elements of S cells -/
def OwK (e : TypeId) (S : Nat) (w : World) (v : Value) (n : Nat) (cells : List Value) : Prop := w.ownsRow 0 e S v n cells
section
variable {e : TypeId} {S : Nat} {w w' : World} {v : Value} {n : Nat} {cells : List Value}
theorem OwK.nil (e : TypeId) (S : Nat) (w : World) : OwK e S w (.slice none 0 0) 0 [] := World.ownsRow_nil w 0 e S
theorem OwK.keep {T : Nat → Prop} (h : OwK e S w v n cells) (k : Ch T w w') (hn : ∀ b, Blk v b → ¬ T b) : OwK e S w' v n cells := by
  refine ⟨h.1, ?_⟩
  rcases h.2 with h0 | ⟨g, cap, cur, hv, hb, hg, rest⟩
  · exact .inl h0
  · have hlt : g < w.heap.size := (Array.getElem?_eq_some_iff.1 hg).1
    exact .inr ⟨g, cap, cur, hv, hb, (k.block g hlt (hn g (by subst hv; rfl))).trans hg, rest⟩
theorem OwK.keep0 (h : OwK e S w v n cells) (k : Ch No w w') : OwK e S w' v n cells := h.keep k (fun _ _ h => h)
theorem OwK.slice (h : OwK e S w v n cells) : ∃ A c, v = .slice A n c := by
  rcases h.2 with ⟨rfl, rfl⟩ | ⟨g, cap, cur, hv, _⟩
  · exact ⟨none, 0, rfl⟩
  · exact ⟨_, _, hv⟩
theorem OwK.blk_lt (h : OwK e S w v n cells) : ∀ k, Blk v k → k < w.heap.size := fun k hk => by
  rcases h.2 with ⟨rfl, rfl⟩ | ⟨g, cap, cur, hv, hb, hg, rest⟩
  · exact absurd hk Blk_nil
  · subst hv
    have := Blk_slice.1 hk
    have := (Array.getElem?_eq_some_iff.1 hg).1
    omega
end
def RdK {α : Type} (f : α → List Value) (w : World) (A : Option Addr) (l : List α) : Prop := 0 < l.length → ∃ b, A = some ⟨b, 0, none⟩ ∧ ∀ j u, (l.flatMap f)[j]? = some u → w.cell? ⟨b, j, none⟩ = some u
theorem OwK.rd {α : Type} {f : α → List Value} {e : TypeId} {S : Nat} {w : World} {A : Option Addr} {m c : Nat} {l : List α} (h : OwK e S w (.slice A m c) l.length (l.flatMap f)) : RdK f w A l := fun hn => by
  rcases h.2 with ⟨_, h0⟩ | ⟨g, cap, cur, hv, hb, hg, hnc, hcm, hcs, htk⟩
  · omega
  · injection hv with hA _ _
    refine ⟨g, hA, fun j u hj => ?_⟩
    rw [← htk] at hj
    rw [List.getElem?_take] at hj
    split at hj
    · have hrow : Row w g e cur.toList := by unfold Row; rw [Array.toArray_toList]; exact hg
      exact hrow.cell j u hj
    · cases hj
theorem RdK.keep {α : Type} {f : α → List Value} {w w' : World} {A : Option Addr} {l : List α} {T : Nat → Prop} (h : RdK f w A l) (k : Ch T w w') (hn : ∀ ad, A = some ad → ¬ T ad.block) : RdK f w' A l := fun hp => by
  obtain ⟨b, e, hc⟩ := h hp
  exact ⟨b, e, fun j u hj => k.cell (hc j u hj) (hn ⟨b, 0, none⟩ e)⟩
theorem RdK.keep0 {α : Type} {f : α → List Value} {w w' : World} {A : Option Addr} {l : List α} (h : RdK f w A l) (k : Ch No w w') : RdK f w' A l := h.keep k (fun _ _ h => h)
theorem flatK {α : Type} {f : α → List Value} {S : Nat} (hS : ∀ x, (f x).length = S) : ∀ (l : List α) (i : Nat) (hi : i < l.length) (j : Nat), j < S → (l.flatMap f)[i * S + j]? = (f l[i])[j]?
  | [], i, hi, _, _ => absurd hi (by simp)
  | x :: l, 0, _, j, hj => by
    rw [List.flatMap_cons, Nat.zero_mul, Nat.zero_add, List.getElem?_append_left (by rw [hS]; exact hj)]
    rfl
  | x :: l, i + 1, hi, j, hj => by
    rw [List.flatMap_cons, List.getElem?_append_right (by rw [hS, Nat.succ_mul]; omega), hS, show (i + 1) * S + j - S = i * S + j by rw [Nat.succ_mul]; omega]
    exact flatK hS l i (by simpa using hi) j hj
section
variable {P : Program} {ops : Array Oper} {Q : Exit → Act → World → Prop} {o : Oper} {rest : List Oper} {a : Act} {w : World}
/-- append(v, one element of S cells) at the operation. -/
theorem wp_appendK (hgd : o.guard = none) (s x : Operand) (t e : TypeId) (z : Value) (S bytes : Nat) (ho : o.op = .call { callee := .builtin .append, args := #[s, x], argTypes := #[t, t] })
    (ht : P.underlying t = some (.slice e)) (hinfo : (P.info? e).map (fun i => (i.zero, i.size, i.bytes)) = some (some z, S, bytes)) (hz : z.cells.size = S) (hb0 : 0 < S) (hbb : bytes ≤ 1000) (hSS : S ≤ 1000)
    (v : Value) (n : Nat) (cells ys : List Value) (g c : Nat) (hs : a.eval s = v) (hx : a.eval x = .slice (some ⟨g, 0, none⟩) 1 c) (hlen : ys.length = S) (h1 : ∀ u ∈ ys, u.oneCell' = true)
    (HO : OwK e S w v n cells) (HR : Row w g e ys) (hl : n ≤ 1048576)
    (h : ∀ v1 w1, OwK e S w1 v1 (n + 1) (cells ++ ys) → Ch (Blk v) w w1 → (∀ k, Blk v1 k → Blk v k ∨ w.heap.size ≤ k) → wpList P ops Q rest (a.put o.dst v1) w1) :
    wpList P ops Q (o :: rest) a w := by
  obtain ⟨i0, hi, hzz⟩ := Option.map_eq_some_iff.1 hinfo
  simp only [Prod.mk.injEq] at hzz
  obtain ⟨hz0, hz1, hz2⟩ := hzz
  have hadd : ∀ j, (⟨g, 0, none⟩ : Addr).add j = ⟨g, j, none⟩ := fun j => by unfold Addr.add; split <;> simp_all
  have m1 : (n + 1) * S ≤ 1048577 * 1000 := Nat.mul_le_mul (by omega) hSS
  have m2 : (n + 1) * bytes ≤ 1048577 * 1000 := Nat.mul_le_mul (by omega) hbb
  obtain ⟨v1, w1, hr, h2, h3, _, h5⟩ := run_append_own_at (P := P) w 0 t o.type e i0 z S bytes ht hi hz0 hz1 hz2 hz hb0 v n cells HO ⟨g, 0, none⟩ 1 c ys (by rw [hlen, Nat.one_mul])
    (fun j u hu => by rw [hadd]; exact HR.cell j u hu) h1 (by simp only [maxLen]; omega) (by omega) (Nat.zero_le _)
  refine wpList_plain hgd fun K hK => ?_
  unfold Oper.wp execOp
  simp only [ho, resolve, invoke, builtin, Sem.run_bind, Sem.run_pure, Result.andThen_ok, List.map_toArray, List.map_cons, List.map_nil, hs, hx, hr]
  refine hK _ _ (h v1 w1 h2 ⟨h3.os, h3.tape, h3.output, h3.size, fun k hk hn => h3.block k hk (fun he => hn he.symm)⟩ fun k hk => ?_)
  rcases h5 with h5 | h5
  · exact .inl (show v.ownBlock = some k from h5 ▸ hk)
  · have hk' : v1.ownBlock = some k := hk
    rw [h5] at hk'
    injection hk' with hk'
    exact .inr (by omega)
end
end Go.Proofs.YtbdgkikipekmlaaDoor

namespace Go.Proofs.YtbdgkikipekmlaaDoor
set_option linter.unusedVariables false
set_option linter.unusedSimpArgs false
open Go.RowKit
theorem float64frombits_run (n : Int) : ∀ W : World, (callFunc 33 #[.int .u64 n]).run Tryd.prog W = .ok (.value (.float .f64 n.toNat)) W := fun W => by
  rw [run_callFunc_extern Tryd.func33 (by kernel_rfl) (by kernel_rfl) (by kernel_rfl) (e := Extern.MathFloatBits.float64frombits) (by kernel_rfl)]
  rfl
theorem float64bits_run (n : Nat) : ∀ W : World, (callFunc 40 #[.float .f64 n]).run Tryd.prog W = .ok (.value (.int .u64 n)) W := fun W => by
  rw [run_callFunc_extern Tryd.func40 (by kernel_rfl) (by kernel_rfl) (by kernel_rfl) (e := Extern.MathFloatBits.float64bits) (by kernel_rfl)]
  rfl

end Go.Proofs.YtbdgkikipekmlaaDoor
