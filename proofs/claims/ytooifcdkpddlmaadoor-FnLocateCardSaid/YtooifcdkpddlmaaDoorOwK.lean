/- Lists that the call has made, of elements of several cells. No condition. -/
import Derived.Test.YtooifcdkpddlmaaDoorPut
namespace Go.Proofs.YtooifcdkpddlmaaDoor
set_option linter.unusedVariables false
set_option linter.unusedSimpArgs false
open Go.RowKit

/-! ### A list that the call has made, of elements of S cells -/
def OwK (e : TypeId) (S : Nat) (w : World) (v : Value) (n : Nat) (cells : List Value) : Prop := w.ownsRow 0 e S v n cells
section
variable {e : TypeId} {S : Nat} {w w' : World} {v : Value} {n : Nat} {cells : List Value}
theorem OwK.nil (e : TypeId) (S : Nat) (w : World) : OwK e S w (.slice none 0 0) 0 [] := World.ownsRow_nil w 0 e S
theorem OwK.keep {T : Nat → Prop} (h : OwK e S w v n cells) (k : Ch T w w') (hn : ∀ b, Blk v b → ¬ T b) : OwK e S w' v n cells := by
  refine ⟨h.1, ?_⟩
  rcases h.2 with h0 | ⟨g, cap, cur, hv, hb, hg, rest⟩
  · exact .inl h0
  · have hlt : g < w.heap.size := (Array.getElem?_eq_some_iff.1 hg).1
    exact .inr ⟨g, cap, cur, hv, hb, (k.block g hlt (hn g (by subst hv; rfl))).trans hg, rest⟩
theorem OwK.keep0 (h : OwK e S w v n cells) (k : Ch No w w') : OwK e S w' v n cells := h.keep k (fun _ _ h => h)
theorem OwK.slice (h : OwK e S w v n cells) : ∃ A c, v = .slice A n c := by
  rcases h.2 with ⟨rfl, rfl⟩ | ⟨g, cap, cur, hv, _⟩
  · exact ⟨none, 0, rfl⟩
  · exact ⟨_, _, hv⟩
theorem OwK.blk_lt (h : OwK e S w v n cells) : ∀ k, Blk v k → k < w.heap.size := fun k hk => by
  rcases h.2 with ⟨rfl, rfl⟩ | ⟨g, cap, cur, hv, hb, hg, rest⟩
  · exact absurd hk Blk_nil
  · subst hv
    have := Blk_slice.1 hk
    have := (Array.getElem?_eq_some_iff.1 hg).1
    omega
end
def RdK {α : Type} (f : α → List Value) (w : World) (A : Option Addr) (l : List α) : Prop := 0 < l.length → ∃ b, A = some ⟨b, 0, none⟩ ∧ ∀ j u, (l.flatMap f)[j]? = some u → w.cell? ⟨b, j, none⟩ = some u
theorem OwK.rd {α : Type} {f : α → List Value} {e : TypeId} {S : Nat} {w : World} {A : Option Addr} {m c : Nat} {l : List α} (h : OwK e S w (.slice A m c) l.length (l.flatMap f)) : RdK f w A l := fun hn => by
  rcases h.2 with ⟨_, h0⟩ | ⟨g, cap, cur, hv, hb, hg, hnc, hcm, hcs, htk⟩
  · omega
  · injection hv with hA _ _
    refine ⟨g, hA, fun j u hj => ?_⟩
    rw [← htk] at hj
    rw [List.getElem?_take] at hj
    split at hj
    · have hrow : Row w g e cur.toList := by unfold Row; rw [Array.toArray_toList]; exact hg
      exact hrow.cell j u hj
    · cases hj
theorem RdK.keep {α : Type} {f : α → List Value} {w w' : World} {A : Option Addr} {l : List α} {T : Nat → Prop} (h : RdK f w A l) (k : Ch T w w') (hn : ∀ ad, A = some ad → ¬ T ad.block) : RdK f w' A l := fun hp => by
  obtain ⟨b, e, hc⟩ := h hp
  exact ⟨b, e, fun j u hj => k.cell (hc j u hj) (hn ⟨b, 0, none⟩ e)⟩
theorem RdK.keep0 {α : Type} {f : α → List Value} {w w' : World} {A : Option Addr} {l : List α} (h : RdK f w A l) (k : Ch No w w') : RdK f w' A l := h.keep k (fun _ _ h => h)
theorem flatK {α : Type} {f : α → List Value} {S : Nat} (hS : ∀ x, (f x).length = S) : ∀ (l : List α) (i : Nat) (hi : i < l.length) (j : Nat), j < S → (l.flatMap f)[i * S + j]? = (f l[i])[j]?
  | [], i, hi, _, _ => absurd hi (by simp)
  | x :: l, 0, _, j, hj => by
    rw [List.flatMap_cons, Nat.zero_mul, Nat.zero_add, List.getElem?_append_left (by rw [hS]; exact hj)]
    rfl
  | x :: l, i + 1, hi, j, hj => by
    rw [List.flatMap_cons, List.getElem?_append_right (by rw [hS, Nat.succ_mul]; omega), hS, show (i + 1) * S + j - S = i * S + j by rw [Nat.succ_mul]; omega]
    exact flatK hS l i (by simpa using hi) j hj
section
variable {P : Program} {ops : Array Oper} {Q : Exit → Act → World → Prop} {o : Oper} {rest : List Oper} {a : Act} {w : World}
/-- append(v, one element of S cells) at the operation. -/
theorem wp_appendK (hgd : o.guard = none) (s x : Operand) (t e : TypeId) (z : Value) (S bytes : Nat) (ho : o.op = .call { callee := .builtin .append, args := #[s, x], argTypes := #[t, t] })
    (ht : P.underlying t = some (.slice e)) (hinfo : (P.info? e).map (fun i => (i.zero, i.size, i.bytes)) = some (some z, S, bytes)) (hz : z.cells.size = S) (hb0 : 0 < S) (hbb : bytes ≤ 1000) (hSS : S ≤ 1000)
    (v : Value) (n : Nat) (cells ys : List Value) (g c : Nat) (hs : a.eval s = v) (hx : a.eval x = .slice (some ⟨g, 0, none⟩) 1 c) (hlen : ys.length = S) (h1 : ∀ u ∈ ys, u.oneCell' = true)
    (HO : OwK e S w v n cells) (HR : Row w g e ys) (hl : n ≤ 1048576)
    (h : ∀ v1 w1, OwK e S w1 v1 (n + 1) (cells ++ ys) → Ch (Blk v) w w1 → (∀ k, Blk v1 k → Blk v k ∨ w.heap.size ≤ k) → wpList P ops Q rest (a.put o.dst v1) w1) :
    wpList P ops Q (o :: rest) a w := by
  obtain ⟨i0, hi, hzz⟩ := Option.map_eq_some_iff.1 hinfo
  simp only [Prod.mk.injEq] at hzz
  obtain ⟨hz0, hz1, hz2⟩ := hzz
  have hadd : ∀ j, (⟨g, 0, none⟩ : Addr).add j = ⟨g, j, none⟩ := fun j => by unfold Addr.add; split <;> simp_all
  have m1 : (n + 1) * S ≤ 1048577 * 1000 := Nat.mul_le_mul (by omega) hSS
  have m2 : (n + 1) * bytes ≤ 1048577 * 1000 := Nat.mul_le_mul (by omega) hbb
  obtain ⟨v1, w1, hr, h2, h3, _, h5⟩ := run_append_own_at (P := P) w 0 t o.type e i0 z S bytes ht hi hz0 hz1 hz2 hz hb0 v n cells HO ⟨g, 0, none⟩ 1 c ys (by rw [hlen, Nat.one_mul])
    (fun j u hu => by rw [hadd]; exact HR.cell j u hu) h1 (by simp only [maxLen]; omega) (by omega) (Nat.zero_le _)
  refine wpList_plain hgd fun K hK => ?_
  unfold Oper.wp execOp
  simp only [ho, resolve, invoke, builtin, Sem.run_bind, Sem.run_pure, Result.andThen_ok, List.map_toArray, List.map_cons, List.map_nil, hs, hx, hr]
  refine hK _ _ (h v1 w1 h2 ⟨h3.os, h3.tape, h3.output, h3.size, fun k hk hn => h3.block k hk (fun he => hn he.symm)⟩ fun k hk => ?_)
  rcases h5 with h5 | h5
  · exact .inl (show v.ownBlock = some k from h5 ▸ hk)
  · have hk' : v1.ownBlock = some k := hk
    rw [h5] at hk'
    injection hk' with hk'
    exact .inr (by omega)
end
end Go.Proofs.YtooifcdkpddlmaaDoor
