/- What MessagePack's sizes tell of a value that is written. No condition. -/
import Derived.Test.YtooifcdkpddlmaaDoorSkG
import Derived.Test.YtooifcdkpddlmaaDoorPutK
import Derived.OpenShut
namespace Go.Proofs.YtooifcdkpddlmaaDoor
set_option linter.unusedVariables false
set_option linter.unusedSimpArgs false
open Go.RowKit

theorem NegD.byt {u : Int} {d : List Int} (h : NegD u d) : Byt d := by
  rcases h with ⟨h2, rfl⟩ | ⟨f, hf, h2, rfl⟩
  · intro x hx; simp at hx; omega
  · intro x hx
    rcases List.mem_cons.1 hx with rfl | hx
    · simp only [List.mem_cons, List.not_mem_nil, or_false] at hf
      rcases hf with rfl | rfl | rfl | rfl <;> simp
    · exact byt_bg _ _ x hx
theorem PosD.byt' {u : Int} {d : List Int} (h : PosD u d) (h0 : 0 ≤ u) : Byt d := by
  rcases h with ⟨h2, rfl⟩ | ⟨f, hf, h2, rfl⟩ | ⟨f, hf, h2, rfl⟩
  · intro x hx; simp at hx; omega
  all_goals
    intro x hx
    rcases List.mem_cons.1 hx with rfl | hx
    · simp only [List.mem_cons, List.not_mem_nil, or_false] at hf
      rcases hf with rfl | rfl | rfl | rfl <;> simp
    · exact byt_bg _ _ x hx
theorem HdB.byt {fixed under : Int} {fs : List (Int × Nat)} {n : Int} {d : List Int} (h : HdB fixed under fs n d) (hn : 0 ≤ n) (h1 : 0 ≤ fixed → fixed + under ≤ 256) (h2 : ∀ f ∈ fs, 0 ≤ f.1 ∧ f.1 < 256) : Byt d := by
  rcases h with ⟨a, b, rfl⟩ | ⟨f, hf, _, rfl⟩
  · intro x hx
    have := h1 a
    simp at hx
    omega
  · intro x hx
    rcases List.mem_cons.1 hx with rfl | hx
    · exact h2 f hf
    · exact byt_bg _ _ x hx
theorem ExtD.byt {n x : Int} {d : List Int} (h : ExtD n x d) : Byt d := by
  rcases h with ⟨p, hp, _, rfl⟩ | ⟨f, hf, _, rfl⟩
  · intro y hy
    simp only [List.mem_cons, List.not_mem_nil, or_false] at hp
    rcases hp with rfl | rfl | rfl | rfl | rfl <;> (simp at hy; omega)
  · intro y hy
    rcases List.mem_append.1 hy with hy | hy
    · rcases List.mem_cons.1 hy with rfl | hy
      · simp only [List.mem_cons, List.not_mem_nil, or_false] at hf
        rcases hf with rfl | rfl | rfl <;> simp
      · exact byt_bg _ _ y hy
    · simp at hy; omega
theorem cat_byt (ds : Nat → List Int) : ∀ m, (∀ i, i < m → Byt (ds i)) → Byt (cat ds m)
  | 0, _ => fun x hx => by cases hx
  | m + 1, h => (cat_byt ds m (fun i hi => h i (by omega))).append (h m (by omega))
/-- Bytes all: numbers in their bounds all over the tree. -/
def NumP : Pk → Prop
  | .mk k n _ _ m K => 0 ≤ n ∧ n < 18446744073709551616 ∧ (k = 1 → n ≤ 1) ∧ ∀ i : Fin m, NumP (K i)
theorem put_byt : ∀ (t : Pk) (d : List Int), NumP t → PutD t d → Byt d := by
  intro t
  induction t with
  | mk k n s x m K ih =>
    intro d hn h
    unfold NumP at hn
    obtain ⟨hn0, hn1, hn2, hk⟩ := hn
    unfold PutD at h
    rcases h with ⟨_, rfl⟩ | ⟨e, rfl⟩ | ⟨_, _, h⟩ | ⟨_, _, h⟩ | ⟨_, h⟩ | ⟨_, rfl⟩ | ⟨_, rfl⟩ | ⟨_, hd, hh, rfl⟩ | ⟨_, hd, hh, rfl⟩ | ⟨_, hd, hh, rfl⟩ | ⟨_, hd, ds, hh, rfl, ha⟩ | ⟨_, hd, ds, hh, rfl, ha⟩
    · intro y hy; simp at hy; omega
    · have := hn2 e
      intro y hy; simp at hy; omega
    · exact h.byt
    · exact h.byt' hn0
    · exact h.byt' hn0
    · intro y hy
      rcases List.mem_cons.1 hy with rfl | hy
      · omega
      · exact byt_bg _ _ y hy
    · intro y hy
      rcases List.mem_cons.1 hy with rfl | hy
      · omega
      · exact byt_bg _ _ y hy
    · exact (hh.byt (by omega) (by omega) (by simp)).append (byt_bys s)
    · exact (hh.byt (by omega) (by omega) (by simp)).append (byt_bys s)
    · exact hh.byt.append (byt_bys s)
    · exact (hh.byt (by omega) (by omega) (by simp)).append (cat_byt ds m (fun i hi => ih ⟨i, hi⟩ _ (hk ⟨i, hi⟩) (ha ⟨i, hi⟩)))
    · exact (hh.byt (by omega) (by omega) (by simp)).append (cat_byt ds m (fun i hi => ih ⟨i, hi⟩ _ (hk ⟨i, hi⟩) (ha ⟨i, hi⟩)))
/-- getSize tells of these bytes, whatever stands behind them: so many bytes, and so many values behind. -/
def GsP (d : List Int) (sz asz : Nat) : Prop := ∀ (R : List Int) (A : Option Addr) (c : Nat) (w : World), Rd u8 w A (d ++ R) → (d ++ R).length ≤ c → Byt (d ++ R) → Calls Tryd.prog 53 #[.slice A (d ++ R).length c] w (GsOk sz asz w)
theorem GsP.fix {b : Int} {r : List Int} {x y : Nat} (h0 : 0 ≤ b) (h1 : b < 256) (hb : bspec b = ((x : Int), (y : Int))) (hx : 0 < x) (hx1 : x < 256) (hy : y < 128) : GsP (b :: r) x y := fun R A c w hr hc _ =>
  gs_fixed A c b x y (r ++ R) w hr h0 h1 hb (by omega) (by omega) (by omega) (by omega)
end Go.Proofs.YtooifcdkpddlmaaDoor
