/- Lists of byte slices that the call has made, each one of the forms that are told. No condition. -/
import Derived.Test.YtooifcdkpddlmaaDoorFrmH
namespace Go.Proofs.YtooifcdkpddlmaaDoor
set_option linter.unusedVariables false
set_option linter.unusedSimpArgs false
open Go.RowKit

abbrev sl (x : Option Addr × Nat × Nat) : Value := .slice x.1 x.2.1 x.2.2
theorem info_sl : (Tryd.prog.info? 24).map (fun i => (i.zero, i.size, i.bytes)) = some (some (.slice none 0 0), 1, 24) := by kernel_rfl
/-- v lists the slices xs, each of bytes of which P tells; all are new since w0. -/
def May (P : List Int → Prop) (w0 w : World) (v : Value) (xs : List (Option Addr × Nat × Nat)) : Prop :=
  Ow 24 sl w v xs ∧ Fr w0 v ∧ ∀ x ∈ xs, ∃ d, P d ∧ Ow 5 u8 w (sl x) d ∧ Fr w0 (sl x)
theorem May.nil (P : List Int → Prop) (w0 w : World) : May P w0 w (.slice none 0 0) [] := ⟨Ow.nil _ _ _, Fr.nil _ _ _, fun x hx => by cases hx⟩
theorem May.keep0 {P : List Int → Prop} {w0 w w' : World} {v : Value} {xs : List (Option Addr × Nat × Nat)} (h : May P w0 w v xs) (k : Ch No w w') : May P w0 w' v xs := by
  obtain ⟨h2, h3, h4⟩ := h
  exact ⟨h2.keep0 k, h3, fun x hx => by obtain ⟨d, a, b, c⟩ := h4 x hx; exact ⟨d, a, b.keep0 k, c⟩⟩
/-- Bytes and slices of bytes never share a block. -/
theorem blk_apart {w : World} {v u : Value} {xs : List (Option Addr × Nat × Nat)} {d : List Int} (hv : Ow 24 sl w v xs) (hu : Ow 5 u8 w u d) : ∀ b, Blk u b → ¬ Blk v b := fun b h1 h2 => by
  rcases hv.form with ⟨rfl, _⟩ | ⟨g, c, cur, rfl, _, _, _, hg, _⟩
  · exact Blk_nil h2
  · rcases hu.form with ⟨rfl, _⟩ | ⟨g', c', cur', rfl, _, _, _, hg', _⟩
    · exact Blk_nil h1
    · have e1 := Blk_slice.1 h1
      have e2 := Blk_slice.1 h2
      subst e1
      subst e2
      rw [hg] at hg'
      injection hg' with hg'
      injection hg' with _ h _
      exact absurd h (by decide)
/-- One more. -/
theorem May.push {P : List Int → Prop} {w0 w w' : World} {v v' : Value} {x : Option Addr × Nat × Nat} {d : List Int} {xs : List (Option Addr × Nat × Nat)} (h : May P w0 w v xs) (hd : P d) (hx : Ow 5 u8 w (sl x) d) (hf : Fr w0 (sl x)) (hs : w0.heap.size ≤ w.heap.size)
    (ho : Ow 24 sl w' v' (xs ++ [x])) (hch : Ch (Blk v) w w') (hat : ∀ k, Blk v' k → Blk v k ∨ w.heap.size ≤ k) : May P w0 w' v' (xs ++ [x]) := by
  obtain ⟨h2, h3, h4⟩ := h
  refine ⟨ho, h3.step hs hat, fun y hy => ?_⟩
  rcases List.mem_append.1 hy with hy | hy
  · obtain ⟨d', a, b, c⟩ := h4 y hy
    exact ⟨d', a, b.keep hch (blk_apart h2 b), c⟩
  · obtain rfl := List.mem_singleton.1 hy
    exact ⟨d, hd, hx.keep hch (blk_apart h2 hx), hf⟩
/-- The j-th. -/
theorem May.get {P : List Int → Prop} {w0 w : World} {A : Option Addr} {m c : Nat} {xs : List (Option Addr × Nat × Nat)} (h : May P w0 w (.slice A m c) xs) (j : Nat) (hj : j < xs.length) :
    ∃ b o d, A = some ⟨b, o, none⟩ ∧ w.cell? ⟨b, o + j, none⟩ = some (sl xs[j]) ∧ P d ∧ Ow 5 u8 w (sl xs[j]) d ∧ Fr w0 (sl xs[j]) := by
  obtain ⟨h2, h3, h4⟩ := h
  obtain ⟨b, o, e, hc⟩ := h2.rd.at_ j hj
  obtain ⟨d, a, b', c'⟩ := h4 _ (List.getElem_mem hj)
  exact ⟨b, o, d, e, hc, a, b', c'⟩
end Go.Proofs.YtooifcdkpddlmaaDoor
