/- The walks of the thin package's reader of extensions. No condition. -/
import Derived.Test.YtooifcdkpddlmaaDoorExtR
namespace Go.Proofs.YtooifcdkpddlmaaDoor
set_option linter.unusedVariables false
set_option linter.unusedSimpArgs false
open Go.RowKit

theorem size_slb : (Tryd.prog.info? 24).map (·.size) = some 1 := by kernel_rfl
section
variable {P : Program} {ops : Array Oper} {Q : Exit → Act → World → Prop} {o : Oper} {rest : List Oper} {a : Act} {w : World}
/-- copy of nothing. -/
theorem wp_copyn (hgd : o.guard = none) (d s : Operand) (dT sT e : TypeId) (ho : o.op = .call { callee := .builtin .copy, args := #[d, s], argTypes := #[dT, sT] }) (hu : P.underlying dT = some (.slice e)) (hsz : (P.info? e).map (·.size) = some 1)
    (dA : Option Addr) (dn dc : Nat) (sA : Option Addr) (sn sc : Nat) (hd : a.eval d = .slice dA dn dc) (hs : a.eval s = .slice sA sn sc) (h0 : min sn dn = 0)
    (h : wpList P ops Q rest (a.put o.dst (.int .i64 0)) w) : wpList P ops Q (o :: rest) a w := by
  refine wpList_plain hgd fun K hK => ?_
  have hrun := run_copy_none (P := P) w dT sT o.type e dA sA dn dc sn sc hu hsz h0
  unfold Oper.wp execOp
  simp only [ho, resolve, invoke, builtin, Sem.run_bind, Sem.run_pure, Result.andThen_ok, List.map_toArray, List.map_cons, List.map_nil, hd, hs, hrun]
  exact hK _ _ h
end
/-- Bytes lie in no block of an extension. -/
theorem rd_apart {w : World} {e : Nat} {v : Value} {kd : Int} {A : Option Addr} {x : List Int} (hrow : Row w e 70 [v, .int .i8 kd]) (hv : ∀ k i, v ≠ .int k i) (hr : Rd u8 w A x) (hx : 0 < x.length) : ∀ ad, A = some ad → ad.block ≠ e := fun ad hA hb => by
  obtain ⟨b, o, rfl, hc⟩ := hr.at_ 0 hx
  injection hA with hA
  subst hA
  replace hb : b = e := hb
  subst hb
  have hrw : w.heap[b]? = some (.cells #[v, .int .i8 kd] 70 (0, 0)) := hrow
  have hc' : w.cell? ⟨b, o + 0, none⟩ = some (.int .u8 x[0]) := hc
  rcases Nat.lt_or_ge o 1 with h | h
  · obtain rfl : o = 0 := by omega
    have := hrow.cell 0 _ rfl
    rw [this] at hc'
    injection hc' with hc'
    exact hv _ _ hc'
  · rcases Nat.lt_or_ge o 2 with h2 | h2
    · obtain rfl : o = 1 := by omega
      have := hrow.cell 1 _ rfl
      rw [this] at hc'
      injection hc' with hc'
      injection hc' with hk _
      cases hk
    · simp [World.cell?, hrw] at hc'
      rw [List.getElem?_eq_none (by simp; omega)] at hc'
      cases hc'
theorem rd_keep_e {w w' : World} {e : Nat} {v : Value} {kd : Int} {A : Option Addr} {x : List Int} (hrow : Row w e 70 [v, .int .i8 kd]) (hv : ∀ k i, v ≠ .int k i) (hr : Rd u8 w A x) (hch : Ch (fun b => b = e) w w') : Rd u8 w' A x := by
  rcases Nat.eq_zero_or_pos x.length with h | h
  · obtain rfl : x = [] := List.eq_nil_of_length_eq_zero h
    exact Rd.nil _ _ _
  · exact hr.keep hch (rd_apart hrow hv hr h)
def UmTo (e : Nat) (kd : Int) (x : List Int) (w : World) (en : Ending) (w' : World) : Prop := ∃ A' c', en = .returned .nilIface ∧ Row w' e 70 [.slice A' x.length c', .int .i8 kd] ∧ Rd u8 w' A' x ∧ x.length ≤ c' ∧ Ch (fun b => b = e) w w'
set_option maxRecDepth 100000 in
set_option maxHeartbeats 2000000 in
theorem unm_calls (e : Nat) (kd : Int) (A : Option Addr) (c : Nat) (x : List Int) (w : World) (hrow : Row w e 70 [.slice none 0 0, .int .i8 kd]) (hr : Rd u8 w A x) (hx : x.length ≤ 35184372088832) :
    Calls Tryd.prog 71 #[.pointer (some ⟨e, 0, none⟩), .slice A x.length c] w (UmTo e kd x w) := by
  have c0 := hrow.cell 0 _ rfl
  have c1 := hrow.cell 1 _ rfl
  have hel := hrow.lt
  by_cases h0 : x.length = 0
  · obtain rfl : x = [] := List.eq_nil_of_length_eq_zero h0
    clear h0
    go_enter Tryd.func71, Tryd.ntmps71
    go_wp2_with (first | ((with_reducible refine gate (.store 24 _ _) rfl ?_); refine wp_store rfl rfl 24 _ _ rfl e 0 70 [.slice none 0 0, .int .i8 kd] (.slice none 0 0) rfl rfl [.slice none 0 0] rfl size_slb (by simp [Value.oneCell']) hrow (by simp) ?_; intro w2 hrow2 hch2; have d0 : w2.cell? ⟨e, 0, none⟩ = some (.slice none 0 0) := hrow2.cell 0 _ rfl) | ((with_reducible refine gate (.call { callee := .builtin .copy, args := #[.tmp _, .tmp _], argTypes := #[24, 24] }) rfl ?_); refine wp_copyn rfl _ _ 24 24 5 rfl Tryd.underlying24 size_u8 none 0 0 _ _ _ rfl rfl (by omega) ?_))
    refine bodyPost_ret (v := .nilIface) ?_ rfl ?_
    · (simp [results, Tryd.results71, go_sem]; done)
    exact ⟨none, 0, rfl, hrow2, Rd.nil _ _ _, by simp, hch2⟩
  · obtain ⟨q, hq⟩ : ∃ q, x.length = q := ⟨_, rfl⟩
    have hq3 : decide ((q : Int) ≤ 0) = false := decide_eq_false (by omega)
    have HQ := hid hq
    have HQB : Hid (q ≤ 35184372088832) := hid (by omega)
    have hq4 : decide (q = 0) = false := decide_eq_false (by omega)
    rw [hq]
    clear h0 hq hx
    go_enter Tryd.func71, Tryd.ntmps71
    go_wp2_with (first | ((with_reducible refine gate (.makeSlice 24 _ _) rfl ?_); refine wp_make rfl 24 5 _ _ rfl (.int .u8 0) 1 Tryd.underlying24 info_u8 rfl .i64 .i64 _ _ q rfl rfl rfl rfl (by have := HQB.out; omega) (by have := HQB.out; omega) ?_; intro w1 hrow1 hch1; have hre1 := hrow.keep0 hch1; have k0 : w1.cell? ⟨e, 0, none⟩ = some (.slice none 0 0) := hre1.cell 0 _ rfl) | ((with_reducible refine gate (.store 24 _ _) rfl ?_); refine wp_store rfl rfl 24 _ _ rfl e 0 70 [.slice none 0 0, .int .i8 kd] (.slice (some ⟨w.heap.size, 0, none⟩) q q) rfl rfl [.slice (some ⟨w.heap.size, 0, none⟩) q q] rfl size_slb (by simp [Value.oneCell']) hre1 (by simp) ?_; intro w2 hrow2 hch2; have d0 : w2.cell? ⟨e, 0, none⟩ = some (.slice (some ⟨w.heap.size, 0, none⟩) q q) := hrow2.cell 0 _ rfl; have hg2 := hrow1.keep hch2 (fun h => by have h9 : w.heap.size = e := h; omega)) | ((with_reducible refine gate (.call { callee := .builtin .copy, args := #[.tmp _, .tmp _], argTypes := #[24, 24] }) rfl ?_); refine wp_copy rfl _ _ 24 24 5 rfl Tryd.underlying24 size_u8 u8 (fun _ => rfl) w.heap.size 0 q q _ _ _ rfl rfl _ 5 hg2 x HQ.out (rd_keep_e hre1 (fun _ _ h => by cases h) (hr.keep0 hch1) hch2) (by simp) ?_; intro w3 hrow3 hch3))
    go_ret
    have hQ := HQ.out
    have hre3 := hrow2.keep hch3 (fun h => by have h9 : e = w.heap.size := h; omega)
    have hv : Rd u8 w3 (some ⟨w.heap.size, 0, none⟩) x := Row.rd hrow3 (by rw [List.take_zero, List.nil_append, List.drop_zero, List.take_append_of_le_length (by simp; omega), List.take_of_length_le (by simp; omega), List.take_of_length_le (by omega)])
    refine ⟨some ⟨w.heap.size, 0, none⟩, q, rfl, by rw [hQ]; exact hre3, hv, by omega, ?_⟩
    exact (hch1.no_then hch2).trans hch3 (fun _ h => h) (fun b hb => .inr (by have h9 : b = w.heap.size := hb; omega))
end Go.Proofs.YtooifcdkpddlmaaDoor
