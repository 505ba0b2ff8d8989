/- The walks of MessagePack's writers over a copy of what stood before. No condition. -/
import Derived.Test.YtooifcdkpddlmaaDoorPut
import Derived.Deep.RegionWith
namespace Go.Proofs.YtooifcdkpddlmaaDoor
set_option linter.unusedVariables false
set_option linter.unusedSimpArgs false
open Go.RowKit

set_option maxHeartbeats 1000000 in
theorem copied_calls (A : Option Addr) (c : Nat) (l : List Int) (w : World) (hr : Rd u8 w A l) (hl : l.length ≤ 35184372088832) :
    Calls Tryd.prog 18 #[.slice A l.length c] w fun e w' => ∃ v, e = .returned v ∧ Ow 5 u8 w' v l ∧ Fr w v ∧ Ch No w w' := by
  go_enter Tryd.func18, Tryd.ntmps18
  go_wp2_with (first
    | ((with_reducible refine gate (.call { callee := .builtin .append, args := #[.tmp 3, .tmp 4], argTypes := #[24, 24] }) rfl ?_); refine wp_append rfl _ _ 24 5 (.int .u8 0) 1 rfl Tryd.underlying24 info_u8 rfl (by decide) u8 (fun _ => rfl) _ [] l _ _ _ rfl rfl rfl (Ow.lit 5 u8 w [] (by simp [maxLen])) (hr.keep0 ((Ch.refl _ _).alloc _)) (by simp; omega) ?_; intro v1 w1 ho hch hat))
  go_ret
  have hch1 := (Ch.refl No w).alloc (.cells #[] 5)
  have hf : Fr w (.slice (some ⟨w.heap.size, 0, none⟩) 0 0) := Fr.mk' (Nat.le_refl _)
  exact ⟨v1, rfl, by simpa using ho, hf.step hch1.size hat, hch1.fresh hch hf⟩

/-- Bytes are appended: what comes back is a row of the call's own, in the block of what was handed in or in a new one. -/
def AppTo (w : World) (vin : Value) (l enc : List Int) (e : Ending) (w' : World) : Prop := ∃ v, e = .returned v ∧ Ow 5 u8 w' v (l ++ enc) ∧ Ch (Blk vin) w w' ∧ ∀ k, Blk v k → Blk vin k ∨ w.heap.size ≤ k
theorem app_put {w w1 : World} {A : Option Addr} {c : Nat} {l : List Int} {g : Nat} {cur : List Value} {m : Nat} (enc : List Int) (hm : enc.length = m) (hrow : Row w1 g 5 cur) (htk : cur.take l.length = l.map u8) (hlen : l.length + m ≤ cur.length) (hmx : cur.length ≤ maxLen) (hch : Ch No w w1) (hor : A = some ⟨g, 0, none⟩ ∨ w.heap.size ≤ g) :
    AppTo w (.slice A l.length c) l enc (.returned (.slice (some ⟨g, 0, none⟩) (l.length + m) cur.length)) (w1.setCells g l.length (enc.map u8)) := by
  subst hm
  obtain ⟨h1, h2⟩ := Row.sets (enc.map u8) l.length w1 cur hrow (by simpa using hlen)
  refine ⟨_, rfl, ?_, ?_, ?_⟩
  · have hl : (cur.take l.length ++ enc.map u8 ++ cur.drop (l.length + (enc.map u8).length)).length = cur.length := by simp; omega
    have := h1.ow (f := u8) (l := l ++ enc) (by
      rw [List.map_append, htk, List.append_assoc, List.length_append, ← List.append_assoc]
      rw [List.take_append_of_le_length (by simp)]
      rw [List.take_of_length_le (by simp)]) (by rw [hl, List.length_append]; exact hlen) (by rw [hl]; exact hmx)
    rw [hl, List.length_append] at this
    exact this
  · rcases hor with rfl | hg
    · exact hch.trans h2 (fun _ h => h.elim) (fun x hx => .inl (by subst hx; exact Blk_slice.2 rfl))
    · exact hch.trans h2 (fun _ h => h.elim) (fun x hx => .inr (by subst hx; exact hg))
  · intro k hk
    have hk' := Blk_slice.1 hk
    subst hk'
    rcases hor with rfl | hg
    · exact .inl (Blk_slice.2 rfl)
    · exact .inr hg
theorem Row.isCell {w : World} {g : Nat} {e : TypeId} {cur : List Value} (h : Row w g e cur) (n m : Nat) (hn : n + m ≤ cur.length) : ∀ j, j < m → ∃ u, w.cell? ⟨g, n + j, none⟩ = some u := fun j hj =>
  ⟨_, h.cell (n + j) cur[n + j] (List.getElem?_eq_getElem (by omega))⟩


theorem Row.one (w : World) (x : Int) : Rd u8 (w.alloc (.cells #[u8 x] 5)) (some ⟨w.heap.size, 0, none⟩) [x] :=
  (Row.alloc w [u8 x] 5).rd (l := [x]) rfl
/-- Behind append(b, x): what is told of it, as AppTo. -/
theorem app_one {w w0 w1 : World} {v v1 : Value} {l : List Int} {x : Int} (ho : Ow 5 u8 w1 v1 (l ++ [x])) (hch : Ch (Blk v) w0 w1) (hat : ∀ k, Blk v1 k → Blk v k ∨ w0.heap.size ≤ k) (h0 : Ch No w w0) : AppTo w v l [x] (.returned v1) w1 :=
  ⟨v1, rfl, ho, h0.no_then hch, fun k hk => (hat k hk).imp id (fun h => Nat.le_trans h0.size h)⟩




end Go.Proofs.YtooifcdkpddlmaaDoor
