/- The walks of the reference's number of the values in a tree, and of whether a tree can be written. No condition. -/
import Derived.Test.YtooifcdkpddlmaaDoorTreeF
namespace Go.Proofs.YtooifcdkpddlmaaDoor
set_option linter.unusedVariables false
set_option linter.unusedSimpArgs false
open Go.RowKit

theorem size_pk : (Tryd.prog.info? 35).map (·.size) = some 5 := by kernel_rfl
abbrev ZL : List Value := [.int .i64 0, .int .u64 0, .string ⟨#[]⟩, .int .i64 0, .slice none 0 0]
/-- Each cell of a tree is one cell. -/
theorem TrP.one {w : World} {t : Pk} {cs : List Value} (h : TrP w t cs) : ∀ u ∈ cs, u.oneCell' = true := by
  cases t with
  | mk k n s x m K =>
    obtain ⟨A, cap, rfl, _⟩ := h
    simp [Value.oneCell']
set_option maxRecDepth 100000 in
set_option maxHeartbeats 2000000 in
theorem packs_calls (w0 : World) : ∀ (t : Pk) (v0 v1 v2 v3 v4 : Value) (w : World), TrP w0 t [v0, v1, v2, v3, v4] → Ch (Fro w0.heap.size) w0 w → cnt t ≤ 2000 →
    Calls Tryd.prog 22 #[.agg #[v0, v1, v2, v3, v4]] w fun e w' => e = .returned (.int .i64 (cnt t)) ∧ Ch No w w' := by
  intro t
  induction t with
  | mk k n s x m K ih =>
    intro v0 v1 v2 v3 v4 w ht hw hcnt
    have ht' := ht
    obtain ⟨A, cap, he, _, _, _, _, hmc, hcm, _⟩ := ht'
    have hmb : m ≤ maxLen := Nat.le_trans hmc hcm
    unfold maxLen at hmb
    clear hmc hcm
    simp only [List.cons.injEq, and_true] at he
    obtain ⟨rfl, rfl, rfl, rfl, rfl⟩ := he
    have hB := Row.alloc w [.int .i64 k, .int .u64 n, .string s, .int .i64 x, .slice A m cap] 35
    have e0 := hB.cell 4 _ rfl
    have hf : ∃ f : Nat → Nat, f = (fun i => if h : i < m then cnt (K ⟨i, h⟩) else 0) := ⟨_, rfl⟩
    obtain ⟨f, hf⟩ := hf
    have hct : cnt (.mk k n s x m K) = 1 + psum f m := by rw [hf]; rfl
    rw [hct] at hcnt ⊢
    have HCT := hid hct
    clear hct
    have hfi : ∀ i (h : i < m), f i = cnt (K ⟨i, h⟩) := fun i h => by rw [hf]; exact dif_pos h
    have hle : ∀ i, i ≤ m → psum f i ≤ psum f m := fun i h => psum_le f h
    clear hf
    go_enter Tryd.func22, Tryd.ntmps22
    go_wp2_with fail
    go_loopg [3, 9] m (fun kk s3 s9 wr => ∃ i : Nat, kk + i = m ∧ s9 = .int .i64 i ∧ s3 = .int .i64 ((1 + psum f i : Nat) : Int) ∧ Ch No w wr)
    case atStart => exact ⟨0, by omega, rfl, by simp [psum], (Ch.refl No w).alloc _⟩
    case round =>
      obtain ⟨i, hki, rfl, rfl, hch⟩ := hrel
      by_cases hi : i < m
      · obtain ⟨b1, o1, u0, u1, u2, u3, u4, rfl, htk, a0, a1, a2, a3, a4⟩ := ht.kid (w := wr) (hw.then_no hch) i hi
        have hi' : (i : Int) < m := by omega
        have hi0 : (0 : Int) ≤ i := by omega
        have hck : cnt (K ⟨i, hi⟩) ≤ 2000 := by
          have h1 := hle (i + 1) (by omega)
          have h2 := hfi i hi
          simp only [psum] at h1
          omega
        go_wp2_with (first | ((with_reducible refine gate (.store 35 (.tmp 5) _) rfl ?_); refine wp_store rfl rfl 35 _ _ rfl wr.heap.size 0 35 ZL (.agg #[u0, u1, u2, u3, u4]) rfl rfl [u0, u1, u2, u3, u4] rfl size_pk htk.one (Row.alloc wr ZL 35) (by simp) ?_; intro w2 hrow2 hch2; have q0 : w2.cell? ⟨wr.heap.size, 0, none⟩ = some u0 := hrow2.cell 0 _ rfl; have q1 : w2.cell? ⟨wr.heap.size, 1, none⟩ = some u1 := hrow2.cell 1 _ rfl; have q2 : w2.cell? ⟨wr.heap.size, 2, none⟩ = some u2 := hrow2.cell 2 _ rfl; have q3 : w2.cell? ⟨wr.heap.size, 3, none⟩ = some u3 := hrow2.cell 3 _ rfl; have q4 : w2.cell? ⟨wr.heap.size, 4, none⟩ = some u4 := hrow2.cell 4 _ rfl))
        have C2 : Ch No w w2 := (hch.alloc _).freshg hch2 hch.size
        refine (ih ⟨i, hi⟩ u0 u1 u2 u3 u4 w2 htk (hw.then_no C2) hck).mono ?_
        rintro e w3 ⟨rfl, hch3⟩
        have hs := hfi i hi
        have hl1 := hle (i + 1) (by omega)
        have hps : psum f (i + 1) = psum f i + cnt (K ⟨i, hi⟩) := by simp only [psum, hs]
        have HPS := hid hps
        generalize cnt (K ⟨i, hi⟩) = ck at hck HPS hps ⊢
        rw [hps] at hl1
        generalize psum f i = pi at HPS hl1 ⊢
        clear hps hs
        go_wp2_with fail
        go_roundg (gk - 1)
        case measure => omega
        case rel => exact ⟨i + 1, by omega, by go_num, by rw [HPS.out]; go_num, C2.no_no hch3⟩
      · obtain rfl : i = m := by omega
        go_wp2_with fail
        go_ret
        exact ⟨rfl, hch⟩
end Go.Proofs.YtooifcdkpddlmaaDoor
