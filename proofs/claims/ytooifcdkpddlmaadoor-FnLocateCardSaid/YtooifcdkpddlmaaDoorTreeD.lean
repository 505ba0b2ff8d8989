/- The walks of the reference's look at whether a tree can be written. No condition. -/
import Derived.Test.YtooifcdkpddlmaaDoorTreeP
namespace Go.Proofs.YtooifcdkpddlmaaDoor
set_option linter.unusedVariables false
set_option linter.unusedSimpArgs false
open Go.RowKit

/-- The tree can be written, with so many levels. -/
def FitP : Pk → Int → Prop
  | .mk k n s x m K, lv => 0 < lv ∧ 0 ≤ k ∧ k < 11 ∧ (k ≠ 8 → k ≠ 9 → m = 0) ∧ (k ≠ 6 → k ≠ 7 → k ≠ 10 → s.toList = []) ∧ (k < 1 ∨ 5 < k → n = 0) ∧ (k ≠ 10 → x = 0) ∧ -128 ≤ x ∧ x ≤ 127 ∧ (k = 1 → n ≤ 1) ∧ (k = 4 → n < 4294967296) ∧ (k = 9 → m % 2 = 0) ∧ m ≤ 2000 ∧ s.size ≤ 131072 ∧ ∀ i : Fin m, FitP (K i) (lv - 1)
def FtTo (t : Pk) (lv : Int) (w : World) (e : Ending) (w' : World) : Prop := ∃ b : Bool, e = .returned (.bool b) ∧ (b = true → FitP t lv) ∧ Ch No w w'
end Go.Proofs.YtooifcdkpddlmaaDoor
