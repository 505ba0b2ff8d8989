/- A list of the reference's values that grows by append; values in order. No condition. -/
import Derived.Test.YtdpgbekcjegooaaOrd
namespace Go.Proofs.Ytdpgbekcjegooaa
set_option linter.unusedVariables false
set_option linter.unusedSimpArgs false
open Go.RowKit

/-- The cells of a Pack with a kind and a number, and nothing else. -/
def pkc (k n : Int) : List Value := [.int .i64 k, .int .u64 n, .string ⟨#[]⟩, .int .i64 0, .slice none 0 0]
def OwP (w : World) (v : Value) (n : Nat) (cells : List Value) : Prop := w.ownsRow 0 30 5 v n cells
theorem OwP.nil (w : World) : OwP w (.slice none 0 0) 0 [] := World.ownsRow_nil w 0 _ 5
theorem OwP.keep {w w' : World} {v : Value} {n : Nat} {cells : List Value} {S : Nat → Prop} (h : OwP w v n cells) (k : Ch S w w') (hn : ∀ b, Blk v b → ¬ S b) : OwP w' v n cells := by
  refine ⟨h.1, ?_⟩
  rcases h.2 with h0 | ⟨g, cap, cur, hv, hb, hg, rest⟩
  · exact .inl h0
  · have hlt : g < w.heap.size := (Array.getElem?_eq_some_iff.1 hg).1
    exact .inr ⟨g, cap, cur, hv, hb, (k.block g hlt (hn g (by subst hv; rfl))).trans hg, rest⟩
theorem OwP.keep0 {w w' : World} {v : Value} {n : Nat} {cells : List Value} (h : OwP w v n cells) (k : Ch No w w') : OwP w' v n cells := h.keep k (fun _ _ h => h)
theorem OwP.slice {w : World} {v : Value} {n : Nat} {cells : List Value} (h : OwP w v n cells) : ∃ A c, v = .slice A n c := by
  rcases h.2 with ⟨rfl, rfl⟩ | ⟨g, cap, cur, hv, _⟩
  · exact ⟨none, 0, rfl⟩
  · exact ⟨_, _, hv⟩
theorem OwP.cell {w : World} {A : Option Addr} {m c n : Nat} {cells : List Value} (h : OwP w (.slice A m c) n cells) (hn : 0 < n) : ∃ g, A = some ⟨g, 0, none⟩ ∧ ∀ j u, cells[j]? = some u → w.cell? ⟨g, j, none⟩ = some u := by
  rcases h.2 with ⟨_, h0⟩ | ⟨g, cap, cur, hv, hb, hg, hnc, hcm, hcs, htk⟩
  · omega
  · injection hv with hA _ _
    refine ⟨g, hA, fun j u hj => ?_⟩
    subst htk
    rw [List.getElem?_take] at hj
    split at hj
    · have hrow : Row w g 30 cur.toList := by unfold Row; rw [Array.toArray_toList]; exact hg
      exact hrow.cell j u hj
    · cases hj
theorem info_pk : (Try.prog.info? 30).map (fun i => (i.zero, i.size, i.bytes)) = some (some (.agg #[.int .i64 0, .int .u64 0, .string ⟨#[]⟩, .int .i64 0, .slice none 0 0]), 5, 64) := by kernel_rfl
section
variable {ops : Array Oper} {Q : Exit → Act → World → Prop} {o : Oper} {rest : List Oper} {a : Act} {w : World}
/-- append(v, one Pack) at the operation. -/
theorem wp_appendP (hgd : o.guard = none) (s x : Operand) (ho : o.op = .call { callee := .builtin .append, args := #[s, x], argTypes := #[28, 28] })
    (v : Value) (n : Nat) (cells : List Value) (g c : Nat) (k num : Int) (hs : a.eval s = v) (hx : a.eval x = .slice (some ⟨g, 0, none⟩) 1 c)
    (HO : OwP w v n cells) (HR : Row w g 30 (pkc k num)) (hl : n ≤ 1048576)
    (h : ∀ v1 w1, OwP w1 v1 (n + 1) (cells ++ pkc k num) → Ch (Blk v) w w1 → (∀ k, Blk v1 k → Blk v k ∨ w.heap.size ≤ k) → wpList Try.prog ops Q rest (a.put o.dst v1) w1) :
    wpList Try.prog ops Q (o :: rest) a w := by
  obtain ⟨i0, hi, hzz⟩ := Option.map_eq_some_iff.1 info_pk
  simp only [Prod.mk.injEq] at hzz
  obtain ⟨hz0, hz1, hz2⟩ := hzz
  have hadd : ∀ j, (⟨g, 0, none⟩ : Addr).add j = ⟨g, j, none⟩ := fun j => by unfold Addr.add; split <;> simp_all
  obtain ⟨v1, w1, hr, h2, h3, _, h5⟩ := run_append_own_at (P := Try.prog) w 0 28 o.type 30 i0 _ 5 64 Try.underlying28 hi hz0 hz1 hz2 rfl (by omega) v n cells HO ⟨g, 0, none⟩ 1 c (pkc k num) rfl
    (fun j u hu => by rw [hadd]; exact HR.cell j u hu)
    (by intro u hu; simp only [pkc, List.mem_cons, List.not_mem_nil, or_false] at hu; rcases hu with rfl | rfl | rfl | rfl | rfl <;> simp [Value.oneCell']) (by simp only [maxLen]; omega) (by omega) (Nat.zero_le _)
  refine wpList_plain hgd fun K hK => ?_
  unfold Oper.wp execOp
  simp only [ho, resolve, invoke, builtin, Sem.run_bind, Sem.run_pure, Result.andThen_ok, List.map_toArray, List.map_cons, List.map_nil, hs, hx, hr]
  refine hK _ _ (h v1 w1 h2 ⟨h3.os, h3.tape, h3.output, h3.size, fun k hk hn => h3.block k hk (fun he => hn he.symm)⟩ fun k hk => ?_)
  rcases h5 with h5 | h5
  · exact .inl (show v.ownBlock = some k from h5 ▸ hk)
  · have hk' : v1.ownBlock = some k := hk
    rw [h5] at hk'
    injection hk' with hk'
    exact .inr (by omega)
end
end Go.Proofs.Ytdpgbekcjegooaa
