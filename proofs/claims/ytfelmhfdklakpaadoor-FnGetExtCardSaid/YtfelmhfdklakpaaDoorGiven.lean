/- What comes in with a value: its tree, the choices, the bytes behind it. No condition. -/
import Derived.Test.YtfelmhfdklakpaaDoorTree
import Derived.WalkKit
import Derived.ProofKit
import Derived.OpenShut
namespace Go.Proofs.YtfelmhfdklakpaaDoor
set_option linter.unusedVariables false
set_option linter.unusedSimpArgs false
open Go.ChangeShapes Go.WideShapes Go.ChangeAt Go.RowKit

theorem cells_given : Tryd.prog.cellsOf 37 = 9 := by kernel_rfl
section
variable {H : Type} {enc : TypeId × Value → H} {w : World} {base : Nat} {sp : Nat → Bool} {held : Bool}
set_option maxRecDepth 100000 in
theorem open_given (hsp : ∀ b, sp b = true) (fuel : Nat) (cs : List Value) (x : DataW H × List MemPlace) (h : DataW.trod enc Tryd.prog w base sp held fuel 37 cs = some x) :
    ∃ (t : Pk) (v0 v1 v2 v3 v4 : Value) (f : Int) (sh : Bool) (A : Option Addr) (l : List Int) (cap : Nat) (cut : Int), cs = [v0, v1, v2, v3, v4, .int .u64 f, .bool sh, .slice A l.length cap, .int .i64 cut] ∧ TrP w t [v0, v1, v2, v3, v4] ∧ (Lit.int .u64 f).wf = true ∧ (Lit.int .i64 cut).wf = true ∧ Rd u8 w A l ∧ l.length ≤ cap ∧ ∀ x ∈ l, (Lit.int .u8 x).wf = true := by
  obtain ⟨xs, n, rfl, rfl, hl, hlen, hf⟩ := DataW.trod_struct Tryd.underlying37 h
  rw [cells_given] at hl
  replace hlen : xs.length = 5 := hlen
  match cs, hl, xs, hlen with
  | [v0, v1, v2, v3, v4, v5, v6, v7, v8], _, [y0, y1, y2, y3, y4], _ =>
    have f0 : DataW.trod enc Tryd.prog w base sp held n 35 (([v0, v1, v2, v3, v4, v5, v6, v7, v8].drop 0).take (Tryd.prog.cellsOf 35)) = some y0 := hf 0 _ rfl
    have f1 : DataW.trod enc Tryd.prog w base sp held n 23 (([v0, v1, v2, v3, v4, v5, v6, v7, v8].drop 5).take (Tryd.prog.cellsOf 23)) = some y1 := hf 1 _ rfl
    have f2 : DataW.trod enc Tryd.prog w base sp held n 4 (([v0, v1, v2, v3, v4, v5, v6, v7, v8].drop 6).take (Tryd.prog.cellsOf 4)) = some y2 := hf 2 _ rfl
    have f3 : DataW.trod enc Tryd.prog w base sp held n 24 (([v0, v1, v2, v3, v4, v5, v6, v7, v8].drop 7).take (Tryd.prog.cellsOf 24)) = some y3 := hf 3 _ rfl
    have f4 : DataW.trod enc Tryd.prog w base sp held n 3 (([v0, v1, v2, v3, v4, v5, v6, v7, v8].drop 8).take (Tryd.prog.cellsOf 3)) = some y4 := hf 4 _ rfl
    simp only [cells_pk, show Tryd.prog.cellsOf 3 = 1 by kernel_rfl, show Tryd.prog.cellsOf 23 = 1 by kernel_rfl, show Tryd.prog.cellsOf 4 = 1 by kernel_rfl, show Tryd.prog.cellsOf 24 = 1 by kernel_rfl, List.drop_zero, List.drop_succ_cons, List.take_succ_cons, List.take_zero] at f0 f1 f2 f3 f4
    obtain ⟨t, ht⟩ := open_pk n _ _ f0
    obtain ⟨f, hf1, _, wf⟩ := DataW.trod_int Tryd.underlying23 f1
    obtain ⟨b, hb1, _⟩ := DataW.trod_bool Tryd.underlying4 f2
    obtain ⟨c, hc1, _, wc⟩ := DataW.trod_int Tryd.underlying3 f4
    obtain rfl : v5 = .int .u64 f := by simpa using hf1
    obtain rfl : v6 = .bool b := by simpa using hb1
    obtain rfl : v8 = .int .i64 c := by simpa using hc1
    rcases open_ints Tryd.underlying24 Tryd.underlying5 (by kernel_rfl) f3 with ⟨hcs, _⟩ | ⟨y, l, cap, zs, hcs, _, hl, hm, hz, _, hcell, hwz⟩
    · obtain rfl : v7 = .slice none 0 0 := by simpa using hcs
      exact ⟨t, v0, v1, v2, v3, v4, f, b, none, [], 0, c, rfl, ht, wf, wc, Rd.nil _ _ _, Nat.le_refl _, fun x hx => by cases hx⟩
    · obtain rfl : v7 = .slice (some y) l cap := by simpa using hcs
      obtain ⟨l', rfl, hr, hle, hw⟩ := row_rd (k := .u8) (w := w) (a := some y) (len := l) (cap := cap) (zs := zs) (.inr ⟨y, rfl, hl, hm, by simpa [hsp] using hz, hcell, hwz⟩)
      exact ⟨t, v0, v1, v2, v3, v4, f, b, some y, l', cap, c, rfl, ht, wf, wc, hr, hle, hw⟩
end
end Go.Proofs.YtfelmhfdklakpaaDoor
