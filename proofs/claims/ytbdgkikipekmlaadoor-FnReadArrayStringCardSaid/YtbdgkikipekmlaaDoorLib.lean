/- Plain words for the walks of this seat: what a slice reads as, what a row of the call's own holds, which blocks a call may have changed. No condition. -/
import Derived.Test.YtbdgkikipekmlaaDoorRows
import Derived.WalkKit
import Derived.WalkSpells
import Derived.WalkLawsBesides
import Derived.Maps.AppendAt
import Derived.Laws.IdiomCopy
import Derived.Deep.OwnRows
import Derived.Laws.BytesArg
import Derived.Deep.QuietTactic
import Derived.BigQuiet
namespace Go.Proofs.YtbdgkikipekmlaaDoor
set_option linter.unusedVariables false
set_option linter.unusedSimpArgs false
open Go.RowKit

/-- A fact kept from the walk. -/
theorem hid {p : Prop} (h : p) : Hid p := h
/-- Only blocks of S (among those that were there) may have changed. -/
structure Ch (S : Nat → Prop) (w w' : World) : Prop where
  os : w'.os = w.os
  tape : w'.tape = w.tape
  output : w'.output = w.output
  size : w.heap.size ≤ w'.heap.size
  block : ∀ k, k < w.heap.size → ¬ S k → w'.heap[k]? = w.heap[k]?
def No : Nat → Prop := fun _ => False
def Blk (v : Value) : Nat → Prop := fun k => v.ownBlock = some k
theorem Ch.refl (S : Nat → Prop) (w : World) : Ch S w w := ⟨rfl, rfl, rfl, Nat.le_refl _, fun _ _ _ => rfl⟩
theorem Ch.trans {S S' T : Nat → Prop} {a b c : World} (h : Ch S a b) (k : Ch S' b c) (h1 : ∀ x, S x → T x) (h2 : ∀ x, S' x → T x ∨ a.heap.size ≤ x) : Ch T a c :=
  ⟨k.os.trans h.os, k.tape.trans h.tape, k.output.trans h.output, Nat.le_trans h.size k.size, fun i hi hn =>
    (k.block i (Nat.lt_of_lt_of_le hi h.size) (fun hs => (h2 i hs).elim hn (fun hle => by omega))).trans (h.block i hi (fun hs => hn (h1 i hs)))⟩
theorem Ch.mono {S T : Nat → Prop} {a b : World} (h : Ch S a b) (h1 : ∀ x, S x → T x) : Ch T a b := ⟨h.os, h.tape, h.output, h.size, fun i hi hn => h.block i hi (fun hs => hn (h1 i hs))⟩
theorem Ch.of_no {T : Nat → Prop} {a b : World} (h : Ch No a b) : Ch T a b := h.mono fun _ h => h.elim
/-- No old block has changed, then T's blocks. -/
theorem Ch.no_then {T : Nat → Prop} {a b c : World} (h : Ch No a b) (k : Ch T b c) : Ch T a c := h.trans k (fun _ h => h.elim) (fun _ h => .inl h)
theorem Ch.then_no {T : Nat → Prop} {a b c : World} (h : Ch T a b) (k : Ch No b c) : Ch T a c := h.trans k (fun _ h => h) (fun _ h => h.elim)
theorem Ch.no_no {a b c : World} (h : Ch No a b) (k : Ch No b c) : Ch No a c := h.then_no k
theorem Ch.no_le {w w0 : World} {m : Nat} (h : Ch No w w0) (hm : w0.heap.size ≤ m) : w.heap.size ≤ m := Nat.le_trans h.size hm
theorem Ch.alloc {T : Nat → Prop} {a b : World} (h : Ch T a b) (o : Obj) : Ch T a (b.alloc o) :=
  h.then_no ⟨rfl, rfl, rfl, by simp, fun k hk _ => Below.heap_alloc _ _ _ hk⟩
theorem Ch.drew {T : Nat → Prop} {a b : World} (h : Ch T a b) : Ch T a b.drew := ⟨h.os, h.tape, h.output, h.size, h.block⟩
theorem Ch.drewN {T : Nat → Prop} {a b : World} (h : Ch T a b) (n : Nat) : Ch T a (b.drewN n) := ⟨h.os, h.tape, h.output, h.size, h.block⟩
theorem Ch.setCell {T : Nat → Prop} {a b : World} (h : Ch T a b) {p : Addr} (hp : T p.block ∨ a.heap.size ≤ p.block) (u : Value) : Ch T a (b.setCell p u) :=
  h.trans (S' := fun k => k = p.block) ⟨rfl, rfl, rfl, by simp [World.setCell], fun k _ hn => Below.heap_setCell _ _ _ _ hn⟩ (fun _ h => h) (fun x hx => by subst hx; exact hp)
theorem Ch.grown {T : Nat → Prop} {a b c : World} {row : Option Nat} (h : Ch T a b) (hg : b.grownBy c row) (hr : ∀ k, row = some k → T k ∨ a.heap.size ≤ k) : Ch T a c :=
  h.trans (S' := fun k => row = some k) ⟨hg.os, hg.tape, hg.output, hg.size, fun k hk hn => hg.block k hk (fun he => hn he.symm)⟩ (fun _ h => h) hr
theorem Ch.of_grown {a b : World} {row : Option Nat} (hg : a.grownBy b row) : Ch (fun k => row = some k) a b :=
  ⟨hg.os, hg.tape, hg.output, hg.size, fun k hk hn => hg.block k hk (fun he => hn he.symm)⟩
theorem Ch.of_below {a b : World} (h : Below a.heap.size a b) : Ch No a b := ⟨h.os, h.tape, h.output, h.size, fun k hk _ => h.block k hk⟩
theorem Ch.below {a b : World} (h : Ch No a b) : Below a.heap.size a b := ⟨h.os, h.tape, h.output, h.size, fun k hk => h.block k hk (fun h => h)⟩
theorem Ch.grownBy {a b : World} (h : Ch No a b) (row : Option Nat) : a.grownBy b row := ⟨h.os, h.tape, h.output, h.size, fun k hk _ => h.block k hk (fun h => h)⟩
theorem Ch.cell {S : Nat → Prop} {a b : World} (h : Ch S a b) {p : Addr} {v : Value} (hc : a.cell? p = some v) (hn : ¬ S p.block) : b.cell? p = some v :=
  (World.cell?_of_block (h.block p.block (World.block_lt_of_cell? a p hc) hn)).trans hc
theorem Ch.cell0 {a b : World} (h : Ch No a b) {p : Addr} {v : Value} (hc : a.cell? p = some v) : b.cell? p = some v := h.cell hc (fun h => h)
theorem Ch.frozen {S : Nat → Prop} {a b : World} (h : Ch S a b) {p : Addr} (hp : p.block < a.heap.size) (hn : ¬ S p.block) : b.frozen? p = a.frozen? p :=
  World.frozen?_of_block (h.block p.block hp hn)

/-! ### A slice that is read: elements of one cell -/
section
variable {α : Type}
def Rd (f : α → Value) (w : World) (A : Option Addr) (l : List α) : Prop :=
  0 < l.length → ∃ b o, A = some ⟨b, o, none⟩ ∧ ∀ j x, l[j]? = some x → w.cell? ⟨b, o + j, none⟩ = some (f x)
variable {f : α → Value} {w w' : World} {A : Option Addr} {l : List α}
theorem Rd.nil (f : α → Value) (w : World) (A : Option Addr) : Rd f w A [] := fun h => absurd h (by simp)
theorem Rd.keep {S : Nat → Prop} (h : Rd f w A l) (k : Ch S w w') (hn : ∀ ad, A = some ad → ¬ S ad.block) : Rd f w' A l := fun hp => by
  obtain ⟨b, o, rfl, hc⟩ := h hp
  exact ⟨b, o, rfl, fun j x hj => k.cell (hc j x hj) (hn ⟨b, o, none⟩ rfl)⟩
theorem Rd.keep0 (h : Rd f w A l) (k : Ch No w w') : Rd f w' A l := h.keep k (fun _ _ h => h)
theorem Rd.at_ (h : Rd f w A l) (i : Nat) (hi : i < l.length) : ∃ b o, A = some ⟨b, o, none⟩ ∧ w.cell? ⟨b, o + i, none⟩ = some (f l[i]) := by
  obtain ⟨b, o, e, hc⟩ := h (by omega)
  exact ⟨b, o, e, hc i _ (List.getElem?_eq_getElem hi)⟩
theorem Rd.take (h : Rd f w A l) (m : Nat) : Rd f w A (l.take m) := fun hp => by
  obtain ⟨b, o, e, hc⟩ := h (by rw [List.length_take] at hp; omega)
  refine ⟨b, o, e, fun j x hj => hc j x ?_⟩
  rw [List.getElem?_take] at hj
  split at hj
  · exact hj
  · cases hj
theorem Rd.drop (h : Rd f w A l) (m c : Nat) (hc : l.length ≤ c) : Rd f w (if c = m then A else A.map (·.add m)) (l.drop m) := fun hp => by
  rw [List.length_drop] at hp
  obtain ⟨b, o, rfl, hcell⟩ := h (by omega)
  rw [if_neg (by omega)]
  refine ⟨b, o + m, ?_, fun j x hj => ?_⟩
  · show some _ = _
    congr 1
    unfold Addr.add
    split
    · simp_all
    · rfl
  · rw [List.getElem?_drop] at hj
    have := hcell (m + j) x hj
    rwa [← Nat.add_assoc] at this
end

/-! ### A row of the call's own: kit's 'ownsRow' at base 0, elements of one cell -/
section
variable {α : Type}
def Ow (e : TypeId) (f : α → Value) (w : World) (v : Value) (l : List α) : Prop := w.ownsRow 0 e 1 v l.length (l.map f)
variable {e : TypeId} {f : α → Value} {w w' : World} {v : Value} {l : List α}
theorem Ow.nil (e : TypeId) (f : α → Value) (w : World) : Ow e f w (.slice none 0 0) [] := World.ownsRow_nil w 0 e 1
theorem Ow.form (h : Ow e f w v l) : (v = .slice none 0 0 ∧ l = []) ∨ ∃ g c cur, v = .slice (some ⟨g, 0, none⟩) l.length c ∧ l.length ≤ c ∧ c ≤ maxLen ∧ g < w.heap.size ∧ w.heap[g]? = some (.cells cur e (0, 0)) ∧ cur.size = c ∧ cur.toList.take l.length = l.map f := by
  rcases h.2 with ⟨h1, h2⟩ | ⟨g, cap, cur, h1, _, h3, h4, h5, h6, h7⟩
  · exact .inl ⟨h1, List.eq_nil_of_length_eq_zero h2⟩
  · exact .inr ⟨g, cap, cur, h1, h4, h5, (Array.getElem?_eq_some_iff.1 h3).1, h3, by omega, by simpa using h7⟩
theorem Ow.slice (h : Ow e f w v l) : ∃ A c, v = .slice A l.length c ∧ l.length ≤ c ∧ c ≤ maxLen := by
  rcases h.form with ⟨h1, h2⟩ | ⟨g, c, cur, h1, h2, h3, _⟩
  · exact ⟨none, 0, by rw [h1, h2]; rfl, by rw [h2]; exact Nat.le_refl _, by simp [maxLen]⟩
  · exact ⟨_, c, h1, h2, h3⟩
theorem Ow.le {A : Option Addr} {n c : Nat} (h : Ow e f w (.slice A n c) l) : l.length = n ∧ n ≤ c ∧ c ≤ maxLen := by
  obtain ⟨A', c', he, h1, h2⟩ := h.slice
  injection he with _ h3 h4
  subst h3; subst h4
  exact ⟨rfl, h1, h2⟩
theorem Ow.blk_lt (h : Ow e f w v l) : ∀ k, Blk v k → k < w.heap.size := fun k hk => by
  rcases h.form with ⟨h1, h2⟩ | ⟨g, c, cur, h1, _, _, h3, _⟩
  · subst h1; simp [Blk, Value.ownBlock] at hk
  · subst h1; simp [Blk, Value.ownBlock] at hk; omega
theorem Ow.keep {S : Nat → Prop} (h : Ow e f w v l) (k : Ch S w w') (hn : ∀ b, Blk v b → ¬ S b) : Ow e f w' v l := by
  refine ⟨h.1, ?_⟩
  rcases h.2 with h2 | ⟨g, cap, cur, h1, h2, h3, r⟩
  · exact .inl h2
  · exact .inr ⟨g, cap, cur, h1, h2, by rw [k.block g (Array.getElem?_eq_some_iff.1 h3).1 (hn g (by rw [h1]; rfl))]; exact h3, r⟩
theorem Ow.keep0 (h : Ow e f w v l) (k : Ch No w w') : Ow e f w' v l := h.keep k (fun _ _ h => h)
theorem Ow.rd {A : Option Addr} {n c : Nat} (h : Ow e f w (.slice A n c) l) : Rd f w A l := fun hp => by
  rcases h.form with ⟨h1, h2⟩ | ⟨g, c, cur, h1, h2, h3, h4, h5, h6, h7⟩
  · rw [h2] at hp; simp at hp
  · injection h1 with h1
    refine ⟨g, 0, h1, fun j x hj => ?_⟩
    have hlt : j < l.length := (List.getElem?_eq_some_iff.1 hj).1
    simp only [World.cell?, h5, Nat.zero_add]
    have : cur.toList[j]? = some (f x) := by
      have h8 : (cur.toList.take l.length)[j]? = (l.map f)[j]? := by rw [h7]
      rw [List.getElem?_take, if_pos hlt, List.getElem?_map, hj] at h8
      exact h8
    simpa using this
end

/-! ### A block known whole -/
def Row (w : World) (g : Nat) (e : TypeId) (cur : List Value) : Prop := w.heap[g]? = some (.cells cur.toArray e (0, 0))
theorem Row.lt {w : World} {g : Nat} {e : TypeId} {cur : List Value} (h : Row w g e cur) : g < w.heap.size := (Array.getElem?_eq_some_iff.1 h).1
theorem Row.keep {S : Nat → Prop} {w w' : World} {g : Nat} {e : TypeId} {cur : List Value} (h : Row w g e cur) (k : Ch S w w') (hn : ¬ S g) : Row w' g e cur := (k.block g h.lt hn).trans h
theorem Row.keep0 {w w' : World} {g : Nat} {e : TypeId} {cur : List Value} (h : Row w g e cur) (k : Ch No w w') : Row w' g e cur := h.keep k (fun h => h)
theorem Row.cell {w : World} {g : Nat} {e : TypeId} {cur : List Value} (h : Row w g e cur) (j : Nat) (u : Value) (hj : cur[j]? = some u) : w.cell? ⟨g, j, none⟩ = some u := by
  have h' : w.heap[g]? = some (.cells cur.toArray e (0, 0)) := h
  simp only [World.cell?, h']
  simpa using hj
theorem Row.frozen {w : World} {g : Nat} {e : TypeId} {cur : List Value} (h : Row w g e cur) (j : Nat) : w.frozen? ⟨g, j, none⟩ = false := by
  have h' : w.heap[g]? = some (.cells cur.toArray e (0, 0)) := h
  simp [World.frozen?, h']
theorem Row.rd {α : Type} {f : α → Value} {w : World} {g o : Nat} {e : TypeId} {cur : List Value} {l : List α} (h : Row w g e cur) (hl : (cur.drop o).take l.length = l.map f) : Rd f w (some ⟨g, o, none⟩) l := fun _ =>
  ⟨g, o, rfl, fun j x hj => h.cell _ _ (by
    have hlt : j < l.length := (List.getElem?_eq_some_iff.1 hj).1
    have h8 : ((cur.drop o).take l.length)[j]? = (l.map f)[j]? := by rw [hl]
    rw [List.getElem?_take, if_pos hlt, List.getElem?_map, hj, List.getElem?_drop] at h8
    exact h8)⟩
theorem Row.ow {α : Type} {f : α → Value} {w : World} {g : Nat} {e : TypeId} {cur : List Value} {l : List α} (h : Row w g e cur) (hl : cur.take l.length = l.map f) (hle : l.length ≤ cur.length) (hm : cur.length ≤ maxLen) : Ow e f w (.slice (some ⟨g, 0, none⟩) l.length cur.length) l :=
  ⟨by simp, .inr ⟨g, cur.length, cur.toArray, rfl, Nat.zero_le _, h, hle, hm, by simp, by simpa using hl⟩⟩
theorem Row.alloc (w : World) (cur : List Value) (e : TypeId) : Row (w.alloc (.cells cur.toArray e)) w.heap.size e cur := by
  show (w.heap.push _)[w.heap.size]? = _
  simp
/-- Cells behind each other are stored. -/
theorem Row.sets {e : TypeId} {g : Nat} : ∀ (vs : List Value) (o : Nat) (w : World) (cur : List Value), Row w g e cur → o + vs.length ≤ cur.length → Row (w.setCells g o vs) g e (cur.take o ++ vs ++ cur.drop (o + vs.length)) ∧ Ch (fun k => k = g) w (w.setCells g o vs)
  | [], o, w, cur, h, _ => ⟨by simpa [World.setCells] using h, Ch.refl _ _⟩
  | v :: vs, o, w, cur, h, ho => by
    simp only [List.length_cons] at ho
    have h1 : Row (w.setCell ⟨g, o, none⟩ v) g e (cur.set o v) := by
      have h' : w.heap[g]? = some (.cells cur.toArray e (0, 0)) := h
      show (w.heap.modify g _)[g]? = _
      rw [Array.getElem?_modify, if_pos rfl, h']
      simp
    have c1 : Ch (fun k => k = g) w (w.setCell ⟨g, o, none⟩ v) := Ch.setCell (T := fun k => k = g) (p := ⟨g, o, none⟩) (Ch.refl _ w) (.inl rfl) v
    obtain ⟨h2, c2⟩ := Row.sets vs (o + 1) _ _ h1 (by rw [List.length_set]; omega)
    refine ⟨?_, c1.trans c2 (fun _ h => h) (fun _ h => .inl h)⟩
    have e1 : (cur.set o v).take (o + 1) = cur.take o ++ [v] := by
      rw [List.take_succ_eq_append_getElem (by rw [List.length_set]; omega), List.getElem_set_self, List.take_set_of_le (by omega)]
    have e2 : (cur.set o v).drop (o + 1 + vs.length) = cur.drop (o + 1 + vs.length) := List.drop_set_of_lt (by omega)
    rw [e1, e2] at h2
    have e3 : cur.take o ++ v :: vs ++ cur.drop (o + (v :: vs).length) = cur.take o ++ [v] ++ vs ++ cur.drop (o + 1 + vs.length) := by
      simp [show o + (vs.length + 1) = o + 1 + vs.length by omega]
    rw [e3]
    exact h2
theorem Ow.row {α : Type} {e : TypeId} {f : α → Value} {w : World} {A : Option Addr} {n c : Nat} {l : List α} (h : Ow e f w (.slice A n c) l) (hc : 0 < c) : ∃ g cur, A = some ⟨g, 0, none⟩ ∧ Row w g e cur ∧ cur.length = c ∧ n = l.length ∧ n ≤ c ∧ c ≤ maxLen ∧ cur.take n = l.map f := by
  rcases h.form with ⟨h1, h2⟩ | ⟨g, c', cur, h1, h2, h3, h4, h5, h6, h7⟩
  · injection h1 with _ _ h1; omega
  · injection h1 with h1 h1' h1''
    subst h1'; subst h1''
    exact ⟨g, cur.toList, h1, by simpa [Row] using h5, by simpa using h6, rfl, h2, h3, h7⟩

theorem Blk_slice {g n c k : Nat} : Blk (.slice (some ⟨g, 0, none⟩) n c) k ↔ k = g := by
  constructor
  · intro h
    have h' : some g = some k := h
    injection h' with h'
    exact h'.symm
  · intro h
    subst h
    rfl
theorem Blk_nil {n c k : Nat} : ¬ Blk (.slice none n c) k := fun h => by
  have h' : (none : Option Nat) = some k := h
  cases h'
/-- A block that was not there before. -/
def Fr (w : World) (v : Value) : Prop := ∀ k, Blk v k → w.heap.size ≤ k
theorem Fr.mk' {w : World} {g n c : Nat} (h : w.heap.size ≤ g) : Fr w (.slice (some ⟨g, 0, none⟩) n c) := fun k hk => by
  have := Blk_slice.1 hk
  omega
theorem Fr.nil (w : World) (n c : Nat) : Fr w (.slice none n c) := fun _ hk => absurd hk Blk_nil
/-- Freshness handed on: what is at most as new as a fresh one, or newer than a later world. -/
theorem Fr.step {w w1 : World} {v v1 : Value} (h : Fr w v) (hs : w.heap.size ≤ w1.heap.size) (hk : ∀ k, Blk v1 k → Blk v k ∨ w1.heap.size ≤ k) : Fr w v1 := fun k h1 => by
  rcases hk k h1 with h2 | h2
  · exact h k h2
  · omega
theorem Fr.weak {w w1 : World} {v : Value} (h : Fr w1 v) (hs : w.heap.size ≤ w1.heap.size) : Fr w v := fun k hk => by have := h k hk; omega
/-- A change of a fresh block is none of what was there. -/
theorem Ch.fresh {w w1 w2 : World} {v : Value} (h : Ch No w w1) (k : Ch (Blk v) w1 w2) (hf : Fr w v) : Ch No w w2 := h.trans k (fun _ h => h) (fun x hx => .inr (hf x hx))
theorem Ch.freshg {w w1 w2 : World} {g : Nat} (h : Ch No w w1) (k : Ch (fun k => k = g) w1 w2) (hf : w.heap.size ≤ g) : Ch No w w2 := h.trans k (fun _ h => h) (fun x hx => .inr (by subst hx; exact hf))
theorem Ow.lit (e : TypeId) {α : Type} (f : α → Value) (w : World) (l : List α) (hl : l.length ≤ maxLen) : Ow e f (w.alloc (.cells (l.map f).toArray e)) (.slice (some ⟨w.heap.size, 0, none⟩) l.length l.length) l := by
  have h := (Row.alloc w (l.map f) e).ow (f := f) (l := l) (by rw [← List.length_map (f := f), List.take_length]) (by simp) (by simpa using hl)
  simpa using h

/-! ### A slice is cut -/
structure Cut (A : Option Addr) (n c L H : Nat) (A' : Option Addr) : Prop where
  rd : ∀ {α : Type} (f : α → Value) (w : World) (l : List α), Rd f w A l → l.length = n → n ≤ c → H ≤ n → Rd f w A' ((l.take H).drop L)
  at_ : ∀ g o, A = some ⟨g, o, none⟩ → L < c → A' = some ⟨g, o + L, none⟩
  same : ∀ ad, A' = some ad → ∃ ad0, A = some ad0 ∧ ad.block = ad0.block
theorem Cut.mk' (A : Option Addr) (n c L H : Nat) : Cut A n c L H (if c = L then A else A.map (·.add L)) := by
  refine ⟨fun f w l h hl hc hH => ?_, fun g o hA hL => ?_, fun ad hA => ?_⟩
  · have := (h.take H).drop L c (by rw [List.length_take]; omega)
    exact this
  · subst hA
    rw [if_neg (by omega)]
    show some _ = _
    congr 1
    unfold Addr.add
    split
    · simp_all
    · rfl
  · split at hA
    · exact ⟨ad, hA, rfl⟩
    · cases A with
      | none => cases hA
      | some a =>
        refine ⟨a, rfl, ?_⟩
        injection hA with hA
        rw [← hA]
        unfold Addr.add
        split <;> rfl

theorem Cut.drop {A A' : Option Addr} {n c L : Nat} (h : Cut A n c L n A') {α : Type} {f : α → Value} {w : World} {l : List α} (hr : Rd f w A l) (hl : l.length = n) (hc : n ≤ c) : Rd f w A' (l.drop L) := by
  have := h.rd f w l hr hl hc (Nat.le_refl _)
  rwa [List.take_of_length_le (by omega)] at this
theorem Cut.trans {A A1 A2 : Option Addr} {n c L M : Nat} (h : Cut A n c L n A1) (k : Cut A1 (n - L) (c - L) M (n - L) A2) (hL : L ≤ n) : Cut A n c (L + M) n A2 := by
  refine ⟨fun f w l hr hl hc _ => ?_, fun g o hA hlt => ?_, fun ad hA => ?_⟩
  · have h1 := h.drop hr hl hc
    have h2 := k.drop h1 (by rw [List.length_drop]; omega) (by omega)
    rw [List.drop_drop] at h2
    rwa [List.take_of_length_le (by omega)]
  · have h1 := h.at_ g o hA (by omega)
    have h2 := k.at_ g (o + L) h1 (by omega)
    rw [h2, Nat.add_assoc]
  · obtain ⟨a1, h1, h2⟩ := k.same ad hA
    obtain ⟨a0, h3, h4⟩ := h.same a1 h1
    exact ⟨a0, h3, h2.trans h4⟩
theorem Cut.id (A : Option Addr) (n c : Nat) : Cut A n c 0 n A :=
  ⟨fun f w l hr hl _ _ => by rw [List.take_of_length_le (by omega)]; simpa using hr, fun g o hA _ => by simpa using hA, fun ad h => ⟨ad, h, rfl⟩⟩
/-- A cut as an equation for every world: laid ahead of a walk. -/
theorem Cut.ahead_l {P : Program} (t e : TypeId) (ht : P.underlying t = some (.slice e)) (hsz : (P.info? e).map (·.size) = some 1) (A : Option Addr) (n c : Nat) (i : Int) (L : Nat) (hi : i = (L : Int)) (k : IntKind) (hL : L ≤ n) :
    ∃ A', (∀ W : World, (Instr.sliceAt t (.slice A n c) (some (.int k i)) none none).run P W = .ok (.slice A' (n - L) (c - L)) W) ∧ (∀ W : World, (Instr.slice t (.slice A n c) (some (.int k i)) none none).run P W = .ok (.slice A' (n - L) (c - L)) W) ∧ Cut A n c L n A' := by
  subst hi
  obtain ⟨inf, hinf, hs⟩ := Option.map_eq_some_iff.1 hsz
  have hel : P.elem t = e := by simp [Program.elem, ht]
  have hu : P.underlying t = some (.slice (P.elem t)) := by rw [hel]; exact ht
  have h0 : ∀ W : World, (Instr.slice t (.slice A n c) (some (.int k (L : Int))) none none).run P W = .ok (.slice (if c = L then A else A.map (·.add L)) (n - L) (c - L)) W := fun W => by
    rw [run_slice_l W t A n c hu k (L : Int) (Int.natCast_nonneg _) (by omega), hel]
    simp [sizeOf, typeInfo, hinf, hs, sliced, Result.andThen]
  refine ⟨_, fun W => ?_, h0, Cut.mk' A n c L n⟩
  rw [run_sliceAt_slice W t _ _ _ _ hu, h0]
theorem Cut.ahead_h {P : Program} (t e : TypeId) (ht : P.underlying t = some (.slice e)) (hsz : (P.info? e).map (·.size) = some 1) (A : Option Addr) (n c : Nat) (i : Int) (H : Nat) (hi : i = (H : Int)) (k : IntKind) (hH : H ≤ c) :
    (∀ W : World, (Instr.sliceAt t (.slice A n c) none (some (.int k i)) none).run P W = .ok (.slice A H c) W) ∧ (∀ W : World, (Instr.slice t (.slice A n c) none (some (.int k i)) none).run P W = .ok (.slice A H c) W) := by
  subst hi
  obtain ⟨inf, hinf, hs⟩ := Option.map_eq_some_iff.1 hsz
  have hel : P.elem t = e := by simp [Program.elem, ht]
  have hu : P.underlying t = some (.slice (P.elem t)) := by rw [hel]; exact ht
  have ha : (A.map fun x => x.add 0) = A := by cases A <;> simp [Addr.add]
  have h0 : ∀ W : World, (Instr.slice t (.slice A n c) none (some (.int k (H : Int))) none).run P W = .ok (.slice A H c) W := fun W => by
    rw [run_slice_h W t A n c hu k (H : Int) (Int.natCast_nonneg _) (by omega), hel]
    simp [sizeOf, typeInfo, hinf, sliced, Result.andThen, ha]
  exact ⟨fun W => by rw [run_sliceAt_slice W t _ _ _ _ hu, h0], h0⟩

/-! ### Laws at an operation -/
section
variable {P : Program} {ops : Array Oper} {rest : List Oper} {o : Oper} {a : Act} {Q : Exit → Act → World → Prop} {w : World}
theorem gate (op : Op) (_ho : o.op = op) (h : wpList P ops Q (o :: rest) a w) : wpList P ops Q (o :: rest) a w := h
theorem wp_cut_l (hgd : o.guard = none) (t e : TypeId) (x lo : Operand) (ho : o.op = .slice t x (some lo) none none) (ht : P.underlying t = some (.slice e)) (hsz : (P.info? e).map (·.size) = some 1)
    (A : Option Addr) (n c : Nat) (k : IntKind) (i : Int) (L : Nat) (hx : a.eval x = .slice A n c) (hl : a.eval lo = .int k i) (hi : i = (L : Int)) (hL : L ≤ n)
    (h : ∀ A', Cut A n c L n A' → wpList P ops Q rest (a.put o.dst (.slice A' (n - L) (c - L))) w) : wpList P ops Q (o :: rest) a w := by
  subst hi
  obtain ⟨inf, hinf, hs⟩ := Option.map_eq_some_iff.1 hsz
  refine wpList_plain hgd fun K hK => ?_
  have hel : P.elem t = e := by simp [Program.elem, ht]
  have hu : P.underlying t = some (.slice (P.elem t)) := by rw [hel]; exact ht
  have hrun := run_slice_l w t A n c hu k (L : Int) (Int.natCast_nonneg _) (by omega)
  have hrun' : (Instr.sliceAt t (.slice A n c) (some (.int k (L : Int))) none none).run P w = .ok (.slice (if c = L then A else A.map (·.add L)) (n - L) (c - L)) w := by
    rw [run_sliceAt_slice w t _ _ _ _ hu, hrun, hel]
    simp [sizeOf, typeInfo, hinf, hs, sliced, Result.andThen]
  unfold Oper.wp execOp
  simp only [ho, Option.map, hx, hl, Sem.run_bind, Sem.run_pure, hrun', Result.andThen_ok]
  exact hK _ _ (h _ (Cut.mk' A n c L n))
theorem wp_cut_lh (hgd : o.guard = none) (t e : TypeId) (x lo hi : Operand) (ho : o.op = .slice t x (some lo) (some hi) none) (ht : P.underlying t = some (.slice e)) (hsz : (P.info? e).map (·.size) = some 1)
    (A : Option Addr) (n c : Nat) (k k' : IntKind) (i i' : Int) (L H : Nat) (hx : a.eval x = .slice A n c) (hl : a.eval lo = .int k i) (hh : a.eval hi = .int k' i') (hi : i = (L : Int)) (hi' : i' = (H : Int)) (hL : L ≤ H) (hH : H ≤ c)
    (h : ∀ A', Cut A n c L H A' → wpList P ops Q rest (a.put o.dst (.slice A' (H - L) (c - L))) w) : wpList P ops Q (o :: rest) a w := by
  subst hi; subst hi'
  obtain ⟨inf, hinf, hs⟩ := Option.map_eq_some_iff.1 hsz
  refine wpList_plain hgd fun K hK => ?_
  have hel : P.elem t = e := by simp [Program.elem, ht]
  have hu : P.underlying t = some (.slice (P.elem t)) := by rw [hel]; exact ht
  have hrun := run_slice_lh w t A n c hu k k' (L : Int) (H : Int) (Int.natCast_nonneg _) (by omega) (by omega)
  have hrun' : (Instr.sliceAt t (.slice A n c) (some (.int k (L : Int))) (some (.int k' (H : Int))) none).run P w = .ok (.slice (if c = L then A else A.map (·.add L)) (H - L) (c - L)) w := by
    rw [run_sliceAt_slice w t _ _ _ _ hu, hrun, hel]
    simp [sizeOf, typeInfo, hinf, hs, sliced, Result.andThen]
  unfold Oper.wp execOp
  simp only [ho, Option.map, hx, hl, hh, Sem.run_bind, Sem.run_pure, hrun', Result.andThen_ok]
  exact hK _ _ (h _ (Cut.mk' A n c L H))
/-- make([]T, n): zeros. -/
theorem wp_make (hgd : o.guard = none) (t e : TypeId) (l c : Operand) (ho : o.op = .makeSlice t l c) (z : Value) (bytes : Nat) (ht : P.underlying t = some (.slice e)) (hinfo : (P.info? e).map (fun i => (i.zero, i.size, i.bytes)) = some (some z, 1, bytes)) (hz1 : z.cells = #[z])
    (kl kc : IntKind) (i i' : Int) (n : Nat) (hl : a.eval l = .int kl i) (hc : a.eval c = .int kc i') (hi : i = (n : Int)) (hi' : i' = (n : Int)) (hb : bytes * n ≤ 281474976710656) (h63 : n ≤ 9223372036854775807)
    (h : ∀ w', Row w' w.heap.size e (List.replicate n z) → Ch No w w' → wpList P ops Q rest (a.put o.dst (.slice (some ⟨w.heap.size, 0, none⟩) n n)) w') : wpList P ops Q (o :: rest) a w := by
  subst hi; subst hi'
  refine wpList_plain hgd fun K hK => ?_
  have hrun := run_make_row' (P := P) t e z bytes ht hinfo hz1 kl kc n hb h63 w
  unfold Oper.wp
  simp [execOp, ho, hl, hc, hrun, Result.andThen]
  refine hK _ _ (h _ ?_ ((Ch.refl _ _).alloc _))
  have := Row.alloc w (List.replicate n z) e
  have e1 : (List.replicate n z).toArray = madeCells #[z] n := by
    apply Array.toList_inj.1
    rw [toList_madeCells_one]
  rwa [e1] at this
/-- copy(dst, src) of elements of one cell: dst lies in a block known whole. -/
theorem wp_copy (hgd : o.guard = none) (d s : Operand) (dT sT e : TypeId) (ho : o.op = .call { callee := .builtin .copy, args := #[d, s], argTypes := #[dT, sT] }) (hu : P.underlying dT = some (.slice e)) (hsz : (P.info? e).map (·.size) = some 1)
    {α : Type} (f : α → Value) (h1 : ∀ x, (f x).oneCell' = true) (g off dn dc : Nat) (sA : Option Addr) (sn sc : Nat) (hd : a.eval d = .slice (some ⟨g, off, none⟩) dn dc) (hs : a.eval s = .slice sA sn sc)
    (cur : List Value) (t : TypeId) (hg : Row w g t cur) (ys : List α) (hy : ys.length = sn) (hr : Rd f w sA ys) (hfit : off + dn ≤ cur.length)
    (h : ∀ w', Row w' g t (cur.take off ++ (ys.take dn).map f ++ cur.drop (off + min sn dn)) → Ch (fun k => k = g) w w' → wpList P ops Q rest (a.put o.dst (.int .i64 ((min sn dn : Nat) : Int))) w') : wpList P ops Q (o :: rest) a w := by
  have hlen : ((ys.take dn).map f).length = min sn dn := by rw [List.length_map, List.length_take, hy]; exact Nat.min_comm _ _
  refine wpList_plain hgd fun K hK => ?_
  by_cases h0 : min sn dn = 0
  · have hrun := run_copy_none (P := P) w dT sT o.type e (some ⟨g, off, none⟩) sA dn dc sn sc hu hsz h0
    have hnil : (ys.take dn).map f = [] := List.eq_nil_of_length_eq_zero (by rw [hlen]; exact h0)
    unfold Oper.wp execOp
    simp only [ho, resolve, invoke, builtin, Sem.run_bind, Sem.run_pure, Result.andThen_ok, List.map_toArray, List.map_cons, List.map_nil, hd, hs, hrun]
    have hK' := hK _ _ (h w (by rw [hnil, h0]; simpa using hg) (Ch.refl _ _))
    rw [h0] at hK'
    exact hK'
  · obtain ⟨b, o2, rfl, hc⟩ := hr (by omega)
    have hadd : ∀ j, (⟨b, o2, none⟩ : Addr).add j = ⟨b, o2 + j, none⟩ := fun j => by unfold Addr.add; split <;> simp_all
    have hrun := run_copy_cells (P := P) w dT sT o.type e g off dn dc ⟨b, o2, none⟩ sn sc ((ys.take dn).map f) hu hsz (by rw [hlen])
      (fun j v hv => by
        rw [List.getElem?_map, Option.map_eq_some_iff] at hv
        obtain ⟨x, hx, rfl⟩ := hv
        rw [List.getElem?_take] at hx
        split at hx
        · rw [hadd]; exact hc j x hx
        · cases hx)
      (fun j hj => by
        rw [hlen] at hj
        rw [hg.cell (off + j) cur[off + j] (List.getElem?_eq_getElem (by omega))]
        rfl)
      (fun j _ => hg.frozen _) (fun v hv => by
        simp only [List.mem_map] at hv
        obtain ⟨x, _, rfl⟩ := hv
        exact h1 x)
    obtain ⟨r1, r2⟩ := Row.sets ((ys.take dn).map f) off w cur hg (by rw [hlen]; omega)
    unfold Oper.wp execOp
    simp only [ho, resolve, invoke, builtin, Sem.run_bind, Sem.run_pure, Result.andThen_ok, List.map_toArray, List.map_cons, List.map_nil, hd, hs, hrun]
    rw [hlen] at r1
    have hK' := hK _ _ (h _ r1 r2)
    rw [← hlen] at hK'
    exact hK'
/-- A store of some cells into a block known whole. -/
theorem wp_store (hgd : o.guard = none) (hN : o.dst = none) (t : TypeId) (p x : Operand) (ho : o.op = .store t p x) (g off : Nat) (e : TypeId) (cur : List Value) (u : Value) (haddr : a.eval p = .pointer (some ⟨g, off, none⟩)) (hx : a.eval x = u)
    (seg : List Value) (hu : u.cells.toList = seg) (ht : (P.info? t).map (·.size) = some seg.length) (h1 : ∀ q ∈ seg, q.oneCell' = true) (hR : Row w g e cur) (hfit : off + seg.length ≤ cur.length)
    (h : ∀ w', Row w' g e (cur.take off ++ seg ++ cur.drop (off + seg.length)) → Ch (fun k => k = g) w w' → wpList P ops Q rest a w') : wpList P ops Q (o :: rest) a w := by
  obtain ⟨i, hi, hsz⟩ := Option.map_eq_some_iff.1 ht
  have hc : u.cells.size = i.size := by rw [hsz, ← hu, Array.length_toList]
  have hst := run_storeCells_cells (P := P) g off seg 0 w (fun j hj => by
    rw [hR.cell (off + 0 + j) cur[off + 0 + j] (List.getElem?_eq_getElem (by omega))]
    rfl) (fun j _ => hR.frozen _) h1
  simp only [Nat.add_zero] at hst
  have hrun : (Instr.storeAt t (.pointer (some ⟨g, off, none⟩)) u).run P w = .ok () (w.setCells g off seg) := by
    simp [Instr.storeAt, Instr.sureAddr, storeVar, sizeOf, typeInfo, hi, hc, hu, hst]
  obtain ⟨r1, r2⟩ := Row.sets seg off w cur hR hfit
  refine wpList_plain hgd fun K hK => ?_
  unfold Oper.wp execOp
  simp only [ho, haddr, hx, Sem.run_bind, Sem.run_pure, Result.andThen_ok, hrun]
  show K (a.put o.dst undef) _
  rw [hN]
  exact hK a _ (h _ r1 r2)
/-- append(v, ys...) of elements of one cell: what its run comes to. -/
theorem run_append_ow (ty : TypeId) (t e : TypeId) (z : Value) (bytes : Nat)
    (ht : P.underlying t = some (.slice e)) (hinfo : (P.info? e).map (fun i => (i.zero, i.size, i.bytes)) = some (some z, 1, bytes)) (hz : z.cells.size = 1) (hb0 : 0 < bytes)
    {α : Type} (f : α → Value) (h1 : ∀ x, (f x).oneCell' = true) (v : Value) (l ys : List α) (A : Option Addr) (m c : Nat) (hm : ys.length = m)
    (HO : Ow e f w v l) (HR : Rd f w A ys) (hl : (l.length + m) * bytes ≤ 140737488355328) :
    ∃ v1 w1, (Builtin.append_ #[t, t] ty #[v, .slice A m c]).run P w = .ok v1 w1 ∧ Ow e f w1 v1 (l ++ ys) ∧ Ch (Blk v) w w1 ∧ (∀ k, Blk v1 k → Blk v k ∨ w.heap.size ≤ k) := by
  obtain ⟨i0, hi, hzz⟩ := Option.map_eq_some_iff.1 hinfo
  simp only [Prod.mk.injEq] at hzz
  obtain ⟨hz0, hz1, hz2⟩ := hzz
  have hlen : l.length + m ≤ 140737488355328 := Nat.le_trans (Nat.le_mul_of_pos_right _ hb0) hl
  have fin : ∀ v1 w1, (Builtin.append_ #[t, t] ty #[v, .slice A m c]).run P w = .ok v1 w1 → w1.ownsRow 0 e 1 v1 (l.length + m) (l.map f ++ ys.map f) → w.grownBy w1 v.ownBlock → (v1.ownBlock = v.ownBlock ∨ v1.ownBlock = some w.heap.size) →
      ∃ v1 w1, (Builtin.append_ #[t, t] ty #[v, .slice A m c]).run P w = .ok v1 w1 ∧ Ow e f w1 v1 (l ++ ys) ∧ Ch (Blk v) w w1 ∧ (∀ k, Blk v1 k → Blk v k ∨ w.heap.size ≤ k) := by
    intro v1 w1 hr h2 h3 h5
    refine ⟨v1, w1, hr, by unfold Ow; rw [List.length_append, hm, List.map_append]; exact h2, ⟨h3.os, h3.tape, h3.output, h3.size, fun k hk hn => h3.block k hk (fun he => hn he.symm)⟩, fun k hk => ?_⟩
    rcases h5 with h5 | h5
    · exact .inl (show v.ownBlock = some k from h5 ▸ hk)
    · have hk' : v1.ownBlock = some k := hk
      rw [h5] at hk'
      injection hk' with hk'
      exact .inr (by omega)
  have hOw : w.ownsRow 0 e 1 v l.length (l.map f) := HO
  rcases Nat.eq_zero_or_pos m with h0 | hp
  · subst h0
    obtain rfl : ys = [] := List.eq_nil_of_length_eq_zero hm
    refine fin v w ?_ (by simpa using hOw) (World.grownBy.refl w _) (.inl rfl)
    rcases hOw.2 with ⟨rfl, hn⟩ | ⟨g, cap, cur, rfl, _, _, hnc, _⟩
    · cases A with
      | none => simp [Builtin.append_, run_underlying ht, sizeOf, typeInfo, hi, Builtin.lenOf, Builtin.firstCells]
      | some ad =>
        have hl0 : (loadCells ad 0).run P w = .ok #[] w := by simpa using run_loadCells_list (P := P) w ad [] (by simp)
        simp [Builtin.append_, run_underlying ht, sizeOf, typeInfo, hi, Builtin.lenOf, Builtin.firstCells, hl0]
    · cases A with
      | none => simp [Builtin.append_, run_underlying ht, sizeOf, typeInfo, hi, Builtin.lenOf, Builtin.firstCells, hnc, storeCells]
      | some ad =>
        have hl0 : (loadCells ad 0).run P w = .ok #[] w := by simpa using run_loadCells_list (P := P) w ad [] (by simp)
        simp [Builtin.append_, run_underlying ht, sizeOf, typeInfo, hi, Builtin.lenOf, Builtin.firstCells, hnc, storeCells, hl0]
  · obtain ⟨b, o2, rfl, hc⟩ := HR (by omega)
    have hadd : ∀ j, (⟨b, o2, none⟩ : Addr).add j = ⟨b, o2 + j, none⟩ := fun j => by unfold Addr.add; split <;> simp_all
    obtain ⟨v1, w1, hr, h2, h3, _, h5⟩ := run_append_own_at (P := P) w 0 t ty e i0 z 1 bytes ht hi hz0 hz1 hz2 hz (by omega) v l.length (l.map f) hOw ⟨b, o2, none⟩ m c (ys.map f) (by simp [hm])
      (fun j u hu => by
        rw [List.getElem?_map, Option.map_eq_some_iff] at hu
        obtain ⟨x, hx, rfl⟩ := hu
        rw [hadd]; exact hc j x hx)
      (by intro u hu; simp only [List.mem_map] at hu; obtain ⟨q, _, rfl⟩ := hu; exact h1 q) (by simp only [maxLen]; omega) hl (Nat.zero_le _)
    exact fin v1 w1 hr h2 h3 h5
/-- append(v, ys...) at the operation. -/
theorem wp_append (hgd : o.guard = none) (s x : Operand) (t e : TypeId) (z : Value) (bytes : Nat) (ho : o.op = .call { callee := .builtin .append, args := #[s, x], argTypes := #[t, t] })
    (ht : P.underlying t = some (.slice e)) (hinfo : (P.info? e).map (fun i => (i.zero, i.size, i.bytes)) = some (some z, 1, bytes)) (hz : z.cells.size = 1) (hb0 : 0 < bytes)
    {α : Type} (f : α → Value) (h1 : ∀ x, (f x).oneCell' = true) (v : Value) (l ys : List α) (A : Option Addr) (m c : Nat) (hs : a.eval s = v) (hx : a.eval x = .slice A m c) (hm : ys.length = m)
    (HO : Ow e f w v l) (HR : Rd f w A ys) (hl : (l.length + m) * bytes ≤ 140737488355328)
    (h : ∀ v1 w1, Ow e f w1 v1 (l ++ ys) → Ch (Blk v) w w1 → (∀ k, Blk v1 k → Blk v k ∨ w.heap.size ≤ k) → wpList P ops Q rest (a.put o.dst v1) w1) :
    wpList P ops Q (o :: rest) a w := by
  obtain ⟨v1, w1, hr, h2, h3, h4⟩ := run_append_ow (P := P) (w := w) o.type t e z bytes ht hinfo hz hb0 f h1 v l ys A m c hm HO HR hl
  refine wpList_plain hgd fun K hK => ?_
  unfold Oper.wp execOp
  simp only [ho, resolve, invoke, builtin, Sem.run_bind, Sem.run_pure, Result.andThen_ok, List.map_toArray, List.map_cons, List.map_nil, hs, hx, hr]
  exact hK _ _ (h v1 w1 h2 h3 h4)
/-- append(v, ys...) as one step of a region that draws its order. -/
theorem step_append {K : Act → World → Prop} {E : Prop} (hgd : o.guard = none) (s x : Operand) (t e : TypeId) (z : Value) (bytes : Nat) (ho : o.op = .call { callee := .builtin .append, args := #[s, x], argTypes := #[t, t] })
    (ht : P.underlying t = some (.slice e)) (hinfo : (P.info? e).map (fun i => (i.zero, i.size, i.bytes)) = some (some z, 1, bytes)) (hz : z.cells.size = 1) (hb0 : 0 < bytes)
    {α : Type} (f : α → Value) (h1 : ∀ x, (f x).oneCell' = true) (v : Value) (l ys : List α) (A : Option Addr) (m c : Nat) (hs : a.eval s = v) (hx : a.eval x = .slice A m c) (hm : ys.length = m)
    (HO : Ow e f w v l) (HR : Rd f w A ys) (hl : (l.length + m) * bytes ≤ 140737488355328)
    (h : ∀ v1 w1, Ow e f w1 v1 (l ++ ys) → Ch (Blk v) w w1 → (∀ k, Blk v1 k → Blk v k ∨ w.heap.size ≤ k) → K (a.put o.dst v1) w1) :
    if Region.wanted o (yielded ops a.tmps) = true then Oper.wp P o a w K Q else E := by
  have hw : Region.wanted o (yielded ops a.tmps) = true := by simp [Region.wanted, hgd]
  rw [if_pos hw]
  obtain ⟨v1, w1, hr, h2, h3, h4⟩ := run_append_ow (P := P) (w := w) o.type t e z bytes ht hinfo hz hb0 f h1 v l ys A m c hm HO HR hl
  unfold Oper.wp execOp
  simp only [ho, resolve, invoke, builtin, Sem.run_bind, Sem.run_pure, Result.andThen_ok, List.map_toArray, List.map_cons, List.map_nil, hs, hx, hr]
  exact h v1 w1 h2 h3 h4
end

/-- A slice of integers that came in (as the row's frame tells it) is one that is read. -/
theorem row_rd {k : IntKind} {w : World} {a : Option Addr} {len cap : Nat} {zs : List Int}
    (h : (a = none ∧ len = 0 ∧ cap = 0 ∧ zs = []) ∨ ∃ x, a = some x ∧ len ≤ cap ∧ cap ≤ maxLen ∧ zs.length = cap ∧ (∀ i, i < zs.length → w.cell? (x.add i) = some (.int k (zs.getD i 0))) ∧ ∀ n ∈ zs, (Lit.int k n).wf = true) :
    ∃ l : List Int, len = l.length ∧ Rd (Value.int k) w a l ∧ len ≤ cap ∧ ∀ x ∈ l, (Lit.int k x).wf = true := by
  rcases h with ⟨rfl, rfl, rfl, rfl⟩ | ⟨x, rfl, hl, hm, hz, hc, hw⟩
  · exact ⟨[], rfl, Rd.nil _ _ _, Nat.le_refl _, fun x hx => by cases hx⟩
  · refine ⟨zs.take len, by rw [List.length_take]; omega, fun hp => ?_, hl, fun x hx => hw x (List.mem_of_mem_take hx)⟩
    rw [List.length_take] at hp
    obtain ⟨b, off, spot⟩ := x
    have h0 := hc 0 (by omega)
    have hs : spot = none := by simpa [Addr.add] using World.cell?_spot h0
    subst hs
    refine ⟨b, off, rfl, fun j y hj => ?_⟩
    rw [List.getElem?_take] at hj
    split at hj
    · have hjl : j < zs.length := (List.getElem?_eq_some_iff.1 hj).1
      have := hc j hjl
      have ha : (⟨b, off, none⟩ : Addr).add j = ⟨b, off + j, none⟩ := by unfold Addr.add; split <;> simp_all
      rw [ha, List.getD_eq_getElem?_getD, hj] at this
      exact this
    · cases hj
end Go.Proofs.YtbdgkikipekmlaaDoor
