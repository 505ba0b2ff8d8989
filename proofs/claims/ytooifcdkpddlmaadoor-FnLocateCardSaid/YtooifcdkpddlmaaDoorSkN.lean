/- The numbers of a tree that comes in lie in their bounds. No condition. -/
import Derived.Test.YtooifcdkpddlmaaDoorSkT
namespace Go.Proofs.YtooifcdkpddlmaaDoor
set_option linter.unusedVariables false
set_option linter.unusedSimpArgs false
open Go.RowKit

theorem num_tr (w : World) : ∀ (t : Pk) (cs : List Value) (lv : Int), TrP w t cs → FitP t lv → NumP t := by
  intro t
  induction t with
  | mk k n s x m K ih =>
    intro cs lv ht hf
    obtain ⟨A, cap, rfl, _, hwn, _, _, _, _, hk⟩ := ht
    have hb := bounds_u64 hwn
    unfold FitP at hf
    obtain ⟨_, _, _, _, _, _, _, _, _, h1, _, _, _, _, hfk⟩ := hf
    unfold NumP
    refine ⟨hb.1, by omega, h1, fun i => ?_⟩
    obtain ⟨b, o, cs', _, _, _, h2⟩ := hk i
    exact ih i cs' (lv - 1) h2 (hfk i)
end Go.Proofs.YtooifcdkpddlmaaDoor
