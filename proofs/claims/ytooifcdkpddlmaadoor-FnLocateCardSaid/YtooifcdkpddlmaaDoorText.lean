/- A text's bytes, appended to bytes of the call's own. No condition. -/
import Derived.Test.YtooifcdkpddlmaaDoorPutX
import Derived.Lib.AppendStr
import Derived.Lib.LazyBuf
namespace Go.Proofs.YtooifcdkpddlmaaDoor
set_option linter.unusedVariables false
set_option linter.unusedSimpArgs false
open Go.RowKit

def bys (s : ByteArray) : List Int := s.data.toList.map fun b => (b.toNat : Int)
theorem bys_len (s : ByteArray) : (bys s).length = s.size := by
  rw [bys, List.length_map, Array.length_toList]
  rfl
theorem byt_bys (s : ByteArray) : Byt (bys s) := fun x hx => by
  obtain ⟨b, _, rfl⟩ := List.mem_map.1 hx
  have := b.toNat_lt
  omega
theorem str_bys (s : ByteArray) : strOfNums (bys s) = s := by
  have h := Lib.Lz.strOfNums_map s.data.toList
  unfold bys
  rw [h]
theorem bys_cells (s : ByteArray) : Lib.strCells s = (bys s).map u8 := by
  rw [bys, List.map_map]
  rfl
theorem Ow.base {e : TypeId} {α : Type} {f : α → Value} {w0 w : World} {v : Value} {l : List α} (h : Ow e f w v l) (hf : Fr w0 v) : w.ownsRow w0.heap.size e 1 v l.length (l.map f) := by
  refine ⟨h.1, ?_⟩
  rcases h.2 with h2 | ⟨g, cap, cur, rfl, h2, h3⟩
  · exact .inl h2
  · exact .inr ⟨g, cap, cur, rfl, hf g rfl, h3⟩
theorem own_fr {w0 w : World} {e : TypeId} {v : Value} {n : Nat} {cells : List Value} (h : w.ownsRow w0.heap.size e 1 v n cells) : w.ownsRow 0 e 1 v n cells ∧ Fr w0 v := by
  rcases h.2 with ⟨rfl, h2⟩ | ⟨g, cap, cur, rfl, h2, h3⟩
  · exact ⟨⟨h.1, .inl ⟨rfl, h2⟩⟩, Fr.nil _ _ _⟩
  · exact ⟨⟨h.1, .inr ⟨g, cap, cur, rfl, Nat.zero_le _, h3⟩⟩, Fr.mk' h2⟩
section
variable {P : Program} {ops : Array Oper} {Q : Exit → Act → World → Prop} {o : Oper} {rest : List Oper} {a : Act} {w : World}
/-- append(v, a text...) as one step of a region that draws its order. -/
theorem step_appendS {K : Act → World → Prop} {E : Prop} (hgd : o.guard = none) (sl x : Operand) (t u e : TypeId) (ho : o.op = .call { callee := .builtin .append, args := #[sl, x], argTypes := #[t, u] })
    (ht : P.underlying t = some (.slice e)) (hu : P.underlying u = some .string) (hinfo : (P.info? e).map (fun i => (i.zero, i.size, i.bytes)) = some (some (.int .u8 0), 1, 1))
    (w0 : World) (v : Value) (l : List Int) (s : ByteArray) (hs : a.eval sl = v) (hx : a.eval x = .string s)
    (HO : Ow e u8 w v l) (HF : Fr w0 v) (hsz : w0.heap.size ≤ w.heap.size) (hl : l.length + s.size ≤ 140737488355328)
    (h : ∀ v1 w1, Ow e u8 w1 v1 (l ++ bys s) → Ch (Blk v) w w1 → Fr w0 v1 → K (a.put o.dst v1) w1) :
    if Region.wanted o (yielded ops a.tmps) = true then Oper.wp P o a w K Q else E := by
  have hw : Region.wanted o (yielded ops a.tmps) = true := by simp [Region.wanted, hgd]
  rw [if_pos hw]
  obtain ⟨i, hi, hzz⟩ := Option.map_eq_some_iff.1 hinfo
  simp only [Prod.mk.injEq] at hzz
  obtain ⟨hz0, hz1, hz2⟩ := hzz
  obtain ⟨v1, w1, hr, h2, h3, _⟩ := Lib.run_append_own_string (P := P) w w0.heap.size t u o.type e i ht hu hi hz0 hz1 hz2 v l.length (l.map u8) (HO.base HF) s (by unfold maxLen; omega) hl hsz
  obtain ⟨h4, h5⟩ := own_fr h2
  unfold Oper.wp execOp
  simp only [ho, resolve, invoke, builtin, Sem.run_bind, Sem.run_pure, Result.andThen_ok, List.map_toArray, List.map_cons, List.map_nil, hs, hx, hr]
  refine h v1 w1 ?_ ⟨h3.os, h3.tape, h3.output, h3.size, fun k hk hn => h3.block k hk (fun he => hn he.symm)⟩ h5
  unfold Ow
  rw [List.length_append, List.map_append, bys_len, ← bys_cells]
  exact h4
end
end Go.Proofs.YtooifcdkpddlmaaDoor
