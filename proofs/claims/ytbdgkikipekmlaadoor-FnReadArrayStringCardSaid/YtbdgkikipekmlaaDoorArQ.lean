/- What the readers of arrays share. No condition. -/
import Derived.Test.YtbdgkikipekmlaaDoorRdL
import Derived.Deep.LoopGhost
import Derived.Deep.RegionHeld3
import Derived.Test.YtbdgkikipekmlaaDoorWrt
namespace Go.Proofs.YtbdgkikipekmlaaDoor
set_option linter.unusedVariables false
set_option linter.unusedSimpArgs false
open Go.RowKit

/-- A list half filled: the first i elements, and zeros. -/
def half (f : Nat → Value) (z : Value) (m i : Nat) : List Value := (List.range i).map f ++ List.replicate (m - i) z
theorem half_len (f : Nat → Value) (z : Value) (m i : Nat) (h : i ≤ m) : (half f z m i).length = m := by
  unfold half
  simp
  omega
theorem half_step (f : Nat → Value) (z : Value) (m i : Nat) (h : i < m) : (half f z m i).take i ++ [f i] ++ (half f z m i).drop (i + 1) = half f z m (i + 1) := by
  unfold half
  have hl : ((List.range i).map f).length = i := by simp
  rw [List.take_append_of_le_length (by omega), List.take_of_length_le (by omega)]
  rw [show i + 1 = ((List.range i).map f).length + 1 by rw [hl], List.drop_length_add_append, List.drop_replicate, hl]
  rw [List.range_succ, List.map_append]
  simp only [List.map_cons, List.map_nil]
  rw [show m - i - 1 = m - (i + 1) by omega]
theorem half_zero (f : Nat → Value) (z : Value) (m : Nat) : half f z m 0 = List.replicate m z := by simp [half]
theorem half_full (f : Nat → Value) (z : Value) (m : Nat) : half f z m m = (List.range m).map f := by simp [half]
/-- What is read of a block that is full. -/
theorem half_rd {α : Type} {g : α → Value} {us : Nat → α} {w : World} {G : Nat} {t : TypeId} {m : Nat} {z : Value} (h : Row w G t (half (fun i => g (us i)) z m m)) : Rd g w (some ⟨G, 0, none⟩) ((List.range m).map us) := fun _ =>
  ⟨G, 0, rfl, fun j x hj => by
    rw [Nat.zero_add]
    refine h.cell j _ ?_
    rw [half_full]
    rw [List.getElem?_map, Option.map_eq_some_iff] at hj ⊢
    obtain ⟨y, h1, rfl⟩ := hj
    exact ⟨y, h1, rfl⟩⟩
theorem RbS.keepS {S : Nat → Prop} {p : Nat} {A : Option Addr} {c : Nat} {l : List Int} {i : Nat} {w w' : World} (h : RbS p A c l i w) (k : Ch S w w') (hp : ¬ S p) (hA : 0 < l.length → ∀ ad, A = some ad → ¬ S ad.block) : RbS p A c l i w' :=
  ⟨h.rp.keep k hp, fun h0 => h.rd.keep k (hA h0) h0, h.le, h.lc, h.ap, h.lb⟩
theorem RbS.lt {p : Nat} {A : Option Addr} {c : Nat} {l : List Int} {i : Nat} {w : World} (h : RbS p A c l i w) (h0 : 0 < l.length) : ∀ ad, A = some ad → ad.block < w.heap.size := fun ad had => by
  obtain ⟨b, o, e, hc⟩ := h.rd.at_ 0 h0
  rw [had] at e
  injection e with e
  subst e
  exact World.block_lt_of_cell? _ _ hc
/-- An array has been read into the variable at block q. -/
def ArYes {α : Type} (g : α → Value) (t : TypeId) (p q : Nat) (A : Option Addr) (c : Nat) (l : List Int) (j : Nat) (es : List α) (w : World) (e : Ending) (w' : World) : Prop :=
  e = .returned .nilIface ∧ ∃ A9 c9, Row w' q t [.slice A9 es.length c9] ∧ es.length ≤ c9 ∧ Rd g w' A9 es ∧ (∀ ad, A9 = some ad → w.heap.size ≤ ad.block) ∧ RbS p A c l j w' ∧ Ch (fun b => b = p ∨ b = q) w w'
def ArNo (t : TypeId) (p q : Nat) (w : World) (e : Ending) (w' : World) : Prop := ∃ T v, e = .returned (.iface T v) ∧ Row w' q t [.slice none 0 0] ∧ Ch (fun b => b = p ∨ b = q) w w'
end Go.Proofs.YtbdgkikipekmlaaDoor
