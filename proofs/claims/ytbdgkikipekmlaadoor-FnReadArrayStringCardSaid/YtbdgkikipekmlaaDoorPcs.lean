/- Lists of pieces (a code, the bytes behind it) that the call has made, each one of the forms that are told. No condition. -/
import Derived.Test.YtbdgkikipekmlaaDoorFrm
import Derived.Test.YtbdgkikipekmlaaDoorVaa
namespace Go.Proofs.YtbdgkikipekmlaaDoor
set_option linter.unusedVariables false
set_option linter.unusedSimpArgs false
open Go.RowKit

abbrev sl (x : Option Addr × Nat × Nat) : Value := .slice x.1 x.2.1 x.2.2
/-- A piece as it stands in a list: its code, where its bytes lie. -/
abbrev Pce := Int × Option Addr × Nat × Nat
def pc (x : Pce) : List Value := [.int .i64 x.1, sl x.2]
theorem pc_len (x : Pce) : (pc x).length = 2 := rfl
theorem info_pc : (Tryd.prog.info? 116).map (fun i => (i.zero, i.size, i.bytes)) = some (some (.agg #[.int .i64 0, .slice none 0 0]), 2, 32) := by kernel_rfl
theorem size_pc : (Tryd.prog.info? 116).map (·.size) = some 2 := by kernel_rfl
/-- Bytes that can be read, in a block of bytes. -/
def By (w : World) (v : Value) (l : List Int) : Prop := ∃ A c, v = .slice A l.length c ∧ l.length ≤ c ∧ Rd u8 w A l ∧ (A = none ∨ ∃ b o cur mt, A = some ⟨b, o, none⟩ ∧ w.heap[b]? = some (.cells cur 5 mt))
theorem Ow.by {w : World} {v : Value} {l : List Int} (h : Ow 5 u8 w v l) : By w v l := by
  have hr : ∀ A c, v = .slice A l.length c → Rd u8 w A l := fun A c e => by subst e; exact h.rd
  rcases h.form with ⟨rfl, rfl⟩ | ⟨g, c, cur, rfl, h1, _, _, h2, _⟩
  · exact ⟨none, 0, rfl, Nat.le_refl _, Rd.nil _ _ _, .inl rfl⟩
  · exact ⟨_, c, rfl, h1, hr _ _ rfl, .inr ⟨g, 0, cur, _, rfl, h2⟩⟩
theorem By.keep {S : Nat → Prop} {w w' : World} {v : Value} {l : List Int} (h : By w v l) (k : Ch S w w') (hn : ∀ b, Blk v b → ¬ S b) : By w' v l := by
  obtain ⟨A, c, rfl, h1, h2, h3⟩ := h
  rcases h3 with rfl | ⟨b, o, cur, mt, rfl, hg⟩
  · exact ⟨none, c, rfl, h1, h2.keep k (fun ad h => by cases h), .inl rfl⟩
  · have hb : ¬ S b := hn b rfl
    exact ⟨_, c, rfl, h1, h2.keep k (fun ad h => by injection h with h; subst h; exact hb), .inr ⟨b, o, cur, mt, rfl, (k.block b (Array.getElem?_eq_some_iff.1 hg).1 hb).trans hg⟩⟩
theorem By.keep0 {w w' : World} {v : Value} {l : List Int} (h : By w v l) (k : Ch No w w') : By w' v l := h.keep k (fun _ _ h => h)
/-- v lists the pieces xs, each of bytes of which P tells; all are new since w0. -/
def PMay (P : Int → List Int → Prop) (w0 w : World) (v : Value) (xs : List Pce) : Prop :=
  OwK 116 2 w v xs.length (xs.flatMap pc) ∧ Fr w0 v ∧ ∀ x ∈ xs, ∃ d, P x.1 d ∧ By w (sl x.2) d ∧ Fr w0 (sl x.2)
section
variable {P : Int → List Int → Prop} {w0 w w' : World} {v v' u : Value} {xs ys : List Pce} {d : List Int}
theorem PMay.nil (P : Int → List Int → Prop) (w0 w : World) : PMay P w0 w (.slice none 0 0) [] := ⟨OwK.nil _ _ _, Fr.nil _ _ _, fun x hx => by cases hx⟩
theorem PMay.keep0 (h : PMay P w0 w v xs) (k : Ch No w w') : PMay P w0 w' v xs := by
  obtain ⟨h2, h3, h4⟩ := h
  exact ⟨h2.keep0 k, h3, fun x hx => by obtain ⟨d, a, b, c⟩ := h4 x hx; exact ⟨d, a, b.keep0 k, c⟩⟩
/-- A change of blocks that are older than the list. -/
theorem PMay.keep {S : Nat → Prop} (h : PMay P w0 w v xs) (k : Ch S w w') (hS : ∀ b, S b → b < w0.heap.size) : PMay P w0 w' v xs := by
  obtain ⟨h2, h3, h4⟩ := h
  refine ⟨h2.keep k (fun b hb h => by have := h3 b hb; have := hS b h; omega), h3, fun x hx => ?_⟩
  obtain ⟨d, a, b, c⟩ := h4 x hx
  exact ⟨d, a, b.keep k (fun q hb h => by have := c q hb; have := hS q h; omega), c⟩
theorem PMay.mono {Q : Int → List Int → Prop} (h : PMay P w0 w v xs) (hq : ∀ c d, P c d → Q c d) : PMay Q w0 w v xs := by
  obtain ⟨h2, h3, h4⟩ := h
  exact ⟨h2, h3, fun x hx => by obtain ⟨d, a, b, c⟩ := h4 x hx; exact ⟨d, hq _ _ a, b, c⟩⟩
theorem PMay.weak {w1 : World} (h : PMay P w1 w v xs) (hs : w0.heap.size ≤ w1.heap.size) : PMay P w0 w v xs := by
  obtain ⟨h2, h3, h4⟩ := h
  exact ⟨h2, h3.weak hs, fun x hx => by obtain ⟨d, a, b, c⟩ := h4 x hx; exact ⟨d, a, b, c.weak hs⟩⟩
theorem PMay.slice (h : PMay P w0 w v xs) : ∃ A c, v = .slice A xs.length c := h.1.slice
/-- Bytes and lists of pieces never share a block. -/
theorem pc_apart {n : Nat} {cells : List Value} (hv : OwK 116 2 w v n cells) (hu : By w u d) : ∀ b, Blk u b → ¬ Blk v b := fun b h1 h2 => by
  rcases hv.2 with ⟨rfl, _⟩ | ⟨g, c, cur, rfl, _, hg, _⟩
  · exact Blk_nil h2
  · obtain ⟨A, c', rfl, _, _, h3⟩ := hu
    rcases h3 with rfl | ⟨b', o, cur', mt, rfl, hg'⟩
    · exact Blk_nil h1
    · have e1 : b' = b := by
        have h9 : some b' = some b := h1
        injection h9
      have e2 := Blk_slice.1 h2
      subst e1
      subst e2
      rw [hg] at hg'
      injection hg' with hg'
      injection hg' with _ h _
      exact absurd h (by decide)
/-- One list behind another. -/
theorem PMay.cat (h : PMay P w0 w v xs) (k : PMay P w0 w u ys) (hs : w0.heap.size ≤ w.heap.size)
    (ho : OwK 116 2 w' v' (xs.length + ys.length) (xs.flatMap pc ++ ys.flatMap pc)) (hch : Ch (Blk v) w w') (hat : ∀ k, Blk v' k → Blk v k ∨ w.heap.size ≤ k) : PMay P w0 w' v' (xs ++ ys) := by
  obtain ⟨h2, h3, h4⟩ := h
  obtain ⟨k2, k3, k4⟩ := k
  refine ⟨by rw [List.length_append, List.flatMap_append]; exact ho, h3.step hs hat, fun y hy => ?_⟩
  rcases List.mem_append.1 hy with hy | hy
  · obtain ⟨d', a, b, c⟩ := h4 y hy
    exact ⟨d', a, b.keep hch (pc_apart h2 b), c⟩
  · obtain ⟨d', a, b, c⟩ := k4 y hy
    exact ⟨d', a, b.keep hch (pc_apart h2 b), c⟩
/-- One piece, laid as a list. -/
theorem PMay.one (x : Pce) (hp : P x.1 d) (ho : By w (sl x.2) d) (hf : Fr w0 (sl x.2)) (hs : w0.heap.size ≤ w.heap.size) : PMay P w0 (w.alloc (.cells (pc x).toArray 116)) (.slice (some ⟨w.heap.size, 0, none⟩) 1 1) [x] := by
  refine ⟨⟨by simp [pc_len], .inr ⟨w.heap.size, 1, (pc x).toArray, rfl, Nat.zero_le _, Row.alloc w (pc x) 116, Nat.le_refl _, by simp [maxLen], rfl, rfl⟩⟩, Fr.mk' hs, fun y hy => ?_⟩
  obtain rfl := List.mem_singleton.1 hy
  exact ⟨d, hp, ho.keep0 ((Ch.refl No w).alloc _), hf⟩
/-- The j-th: its cells, its bytes. -/
theorem PMay.get {A : Option Addr} {m c : Nat} (h : PMay P w0 w (.slice A m c) xs) (j : Nat) (hj : j < xs.length) :
    ∃ b d, A = some ⟨b, 0, none⟩ ∧ w.cell? ⟨b, j * 2, none⟩ = some (.int .i64 xs[j].1) ∧ w.cell? ⟨b, j * 2 + 1, none⟩ = some (sl xs[j].2) ∧ P xs[j].1 d ∧ By w (sl xs[j].2) d ∧ Fr w0 (sl xs[j].2) := by
  obtain ⟨h2, h3, h4⟩ := h
  obtain ⟨b, rfl, hc⟩ := h2.cellAt (by omega)
  obtain ⟨d, a, b', c'⟩ := h4 _ (List.getElem_mem hj)
  exact ⟨b, d, rfl, hc (j * 2 + 0) _ (by rw [flatK (S := 2) (fun _ => rfl) xs j hj 0 (by omega)]; rfl), hc (j * 2 + 1) _ (by rw [flatK (S := 2) (fun _ => rfl) xs j hj 1 (by omega)]; rfl), a, b', c'⟩
theorem PMay.src {A : Option Addr} {m c : Nat} (h : PMay P w0 w (.slice A m c) xs) : Src w A (xs.flatMap pc) := fun hp => by
  have hl : (xs.flatMap pc).length = xs.length * 2 := by
    clear hp h
    induction xs with
    | nil => rfl
    | cons x l ih => rw [List.flatMap_cons, List.length_append, pc_len, ih, List.length_cons]; omega
  obtain ⟨b, rfl, hc⟩ := h.1.cellAt (by omega)
  exact ⟨b, 0, rfl, fun j u hj => by rw [Nat.zero_add]; exact hc j u hj⟩
theorem pcs_len (xs : List Pce) : (xs.flatMap pc).length = xs.length * 2 := by
  induction xs with
  | nil => rfl
  | cons x l ih => rw [List.flatMap_cons, List.length_append, pc_len, ih, List.length_cons]; omega
theorem pcs_one (xs : List Pce) : ∀ u ∈ xs.flatMap pc, u.oneCell' = true := fun u hu => by
  obtain ⟨x, _, hx⟩ := List.mem_flatMap.1 hu
  simp only [pc, List.mem_cons, List.not_mem_nil, or_false] at hx
  rcases hx with rfl | rfl <;> rfl
end
/-- The count ahead of what is counted. -/
def lenh (cnt : Int) (sz : Nat) : List Int := if 0 ≤ cnt then bg cnt sz else []
/-- What stands behind its length, and a count if there is one. -/
def LenD (sh lo : Int) (data : List Int) (cnt : Int) (c : Int) (d : List Int) : Prop :=
  (c = sh ∧ cnt ≤ 255 ∧ data.length + (lenh cnt 1).length ≤ 255 ∧ d = bg ((data.length + (lenh cnt 1).length : Nat) : Int) 1 ++ lenh cnt 1 ++ data) ∨
  (c = lo ∧ d = bg ((data.length + (lenh cnt 4).length : Nat) : Int) 4 ++ lenh cnt 4 ++ data)
/-- Pieces come back: each of which P tells, and one of the code 'full'. -/
def PcTo (P : Int → List Int → Prop) (full : Int) (w : World) (e : Ending) (w' : World) : Prop :=
  ∃ v xs, e = .returned v ∧ PMay P w w' v xs ∧ xs.length ≤ 3 ∧ (∃ x ∈ xs, x.1 = full) ∧ Ch No w w'
end Go.Proofs.YtbdgkikipekmlaaDoor
