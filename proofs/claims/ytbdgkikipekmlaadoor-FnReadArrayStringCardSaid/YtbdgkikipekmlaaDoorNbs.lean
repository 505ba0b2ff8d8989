/- The walk of the reference's forms of numbers: a shorter form ahead. No condition. -/
import Derived.Test.YtbdgkikipekmlaaDoorWrt
namespace Go.Proofs.YtbdgkikipekmlaaDoor
set_option linter.unusedVariables false
set_option linter.unusedSimpArgs false
open Go.RowKit
theorem Ow.keepM {e : TypeId} {α : Type} {f : α → Value} {w w' : World} {v : Value} {l : List α} {q : IntKind} {m : Nat} {kvs : List (Int × Value)} (h : Ow e f w v l) (hm : IMap q w m kvs) (k : Ch (fun x => x = m) w w') : Ow e f w' v l := h.keep k (fun b hb hbm => by
  have hbm : b = m := hbm
  subst hbm
  obtain ⟨es, clk, hg, _⟩ := hm
  rcases h.form with ⟨rfl, _⟩ | ⟨g, c, cur, rfl, _, _, _, hg', _⟩
  · exact Blk_nil hb
  · have e1 := Blk_slice.1 hb
    subst e1
    rw [hg] at hg'
    cases hg')
theorem By.keepM {w w' : World} {v : Value} {l : List Int} {q : IntKind} {m : Nat} {kvs : List (Int × Value)} (h : By w v l) (hm : IMap q w m kvs) (k : Ch (fun x => x = m) w w') : By w' v l := h.keep k (fun b hb hbm => by
  have hbm : b = m := hbm
  subst hbm
  obtain ⟨es, clk, hg, _⟩ := hm
  obtain ⟨A, c, rfl, _, _, h3⟩ := h
  rcases h3 with rfl | ⟨b', o, cur, mt, rfl, hg'⟩
  · exact Blk_nil hb
  · have e1 : b' = b := by
      have h9 : some b' = some b := hb
      injection h9
    subst e1
    rw [hg] at hg'
    cases hg')
theorem PMay.keepM {P : Int → List Int → Prop} {w0 w w' : World} {v : Value} {xs : List Pce} {q : IntKind} {m : Nat} {kvs : List (Int × Value)} (h : PMay P w0 w v xs) (hm : IMap q w m kvs) (k : Ch (fun x => x = m) w w') : PMay P w0 w' v xs := by
  obtain ⟨h2, h3, h4⟩ := h
  refine ⟨h2.keep k (fun b hb hbm => ?_), h3, fun x hx => ?_⟩
  · have hbm : b = m := hbm
    subst hbm
    obtain ⟨es, clk, hg, _⟩ := hm
    rcases h2.2 with ⟨rfl, _⟩ | ⟨g, c, cur, rfl, _, hg', _⟩
    · exact Blk_nil hb
    · have e1 := Blk_slice.1 hb
      subst e1
      rw [hg] at hg'
      cases hg'
  · obtain ⟨d, a, b, c⟩ := h4 x hx
    exact ⟨d, a, b.keepM hm k, c⟩
/-- What a map of two entries holds that are laid in either order. -/
def MF (a b : Int × Value) (L1 L2 : Bool) (kvs : List (Int × Value)) : Prop := (L1 = false → L2 = false → kvs = []) ∧ (L1 = true → L2 = false → kvs = [a]) ∧ (L1 = false → L2 = true → kvs = [b]) ∧ (L1 = true → L2 = true → kvs = [a, b] ∨ kvs = [b, a])
section
variable {P : Program} {ops : Array Oper} {Q : Exit → Act → World → Prop} {o : Oper} {a : Act} {w : World}
theorem step_insertM {K : Act → World → Prop} {E : Prop} (hgd : o.guard = none) (hN : o.dst = none) (t kt et : TypeId) (x kx vx : Operand) (ho : o.op = .insert t x kx vx) (q : IntKind) (ht : P.underlying t = some (.map kt et)) (hkt : P.underlying kt = some (.int q))
    (m : Nat) (k : Int) (v : Value) (kvs : List (Int × Value)) (hx : a.eval x = .map (some m)) (hk : a.eval kx = .int q k) (hv : a.eval vx = v) (hM : IMap q w m kvs) (hnew : look kvs k = none)
    (h : ∀ w', IMap q w' m (kvs ++ [(k, v)]) → Ch (fun x => x = m) w w' → K a w') : if Region.wanted o (yielded ops a.tmps) = true then Oper.wp P o a w K Q else E := by
  have hw : Region.wanted o (yielded ops a.tmps) = true := by simp [Region.wanted, hgd]
  rw [if_pos hw]
  have hM' := hM
  obtain ⟨es, clk, hb, hf⟩ := hM'
  obtain ⟨r, hr, hr2⟩ := hf k
  rw [hnew] at hr2
  have hr0 : r = none := by cases r with
    | none => rfl
    | some y => cases hr2
  subst hr0
  have hrun : (Instr.mapUpdate t (.map (some m)) (.int q k) v).run P w = .ok () { w with heap := w.heap.setIfInBounds m (.map (es.push ⟨.int q k, v, clk⟩) (clk + 1)) } := by
    simp [Instr.mapUpdate, run_underlying ht, MapKept.run_getObj_map hb, MapKept.run_checkKey hkt (k := .int q k) rfl, MapKept.run_findKey hkt hr, MapKept.run_setObj_map _ hb, Result.andThen]
  obtain ⟨g1, g2⟩ := MapKept.heap_set (o' := .map (es.push ⟨.int q k, v, clk⟩) (clk + 1)) hb
  obtain ⟨w', hrun', h1, _⟩ := insert_run (P := P) t kt et q ht hkt m k v kvs hM hnew (Ch.refl No { w with heap := #[] }.drew |> fun _ => (⟨rfl, rfl, rfl, by simp, fun k hk _ => absurd hk (by simp)⟩ : Ch No { w with heap := #[] } w)) (by simp)
  rw [hrun] at hrun'
  injection hrun' with _ hww
  subst hww
  unfold Oper.wp execOp
  simp only [ho, hx, hk, hv, Sem.run_bind, Sem.run_pure, hrun, Result.andThen_ok]
  show K (a.put o.dst undef) _
  rw [hN]
  exact h _ h1 ⟨rfl, rfl, rfl, by simp, fun i _ hn => g2 i hn⟩
end
end Go.Proofs.YtbdgkikipekmlaaDoor
