/- Values of MessagePack that come in: trees, and what the cells hold of them. No condition. -/
import Derived.Test.YtooifcdkpddlmaaDoorPut
import Derived.ChangeArms
import Derived.DataReads
import Derived.DataElems
namespace Go.Proofs.YtooifcdkpddlmaaDoor
set_option linter.unusedVariables false
set_option linter.unusedSimpArgs false
open Go.RowKit

inductive Pk where
  | mk (k n : Int) (s : ByteArray) (x : Int) (m : Nat) (K : Fin m → Pk)
/-- These cells are that tree. -/
def TrP (w : World) : Pk → List Value → Prop
  | .mk k n s x m K, cs => ∃ A cap, cs = [.int .i64 k, .int .u64 n, .string s, .int .i64 x, .slice A m cap] ∧ (Lit.int .i64 k).wf = true ∧ (Lit.int .u64 n).wf = true ∧ (Lit.int .i64 x).wf = true ∧ s.size ≤ maxLen ∧ m ≤ cap ∧ cap ≤ maxLen ∧
      ∀ i : Fin m, ∃ b o cs', A = some ⟨b, o, none⟩ ∧ cs'.length = 5 ∧ (∀ j, j < 5 → w.cell? ⟨b, o + (i.val * 5 + j), none⟩ = cs'[j]?) ∧ TrP w (K i) cs'
theorem TrP.keep0 {w w' : World} (hch : Ch No w w') : ∀ (t : Pk) (cs : List Value), TrP w t cs → TrP w' t cs := by
  intro t
  induction t with
  | mk k n s x m K ih =>
    rintro cs ⟨A, cap, h1, h2, h3, h4, h5, h6, h7, h8⟩
    refine ⟨A, cap, h1, h2, h3, h4, h5, h6, h7, fun i => ?_⟩
    obtain ⟨b, o, cs', e, hl, hc, ht⟩ := h8 i
    refine ⟨b, o, cs', e, hl, fun j hj => ?_, ih i cs' ht⟩
    have := hc j hj
    rw [List.getElem?_eq_getElem (by omega)] at this ⊢
    exact hch.cell0 this
theorem cells_pk : Tryd.prog.cellsOf 35 = 5 := by kernel_rfl
section
variable {H : Type} {enc : TypeId × Value → H} {w : World} {base : Nat} {sp : Nat → Bool} {held : Bool}
set_option maxRecDepth 100000 in
theorem open_pk : ∀ (fuel : Nat) (cs : List Value) (x : DataW H × List MemPlace), DataW.trod enc Tryd.prog w base sp held fuel 35 cs = some x → ∃ t, TrP w t cs := by
  intro fuel
  induction fuel using Nat.strongRecOn with
  | ind fuel ih =>
    intro cs x h
    obtain ⟨xs, n, rfl, rfl, hl, hlen, hf⟩ := DataW.trod_struct Tryd.underlying35 h
    rw [cells_pk] at hl
    replace hlen : xs.length = 5 := hlen
    match cs, hl, xs, hlen with
    | [v0, v1, v2, v3, v4], _, [y0, y1, y2, y3, y4], _ =>
      have f0 : DataW.trod enc Tryd.prog w base sp held n 3 (([v0, v1, v2, v3, v4].drop 0).take (Tryd.prog.cellsOf 3)) = some y0 := hf 0 _ rfl
      have f1 : DataW.trod enc Tryd.prog w base sp held n 23 (([v0, v1, v2, v3, v4].drop 1).take (Tryd.prog.cellsOf 23)) = some y1 := hf 1 _ rfl
      have f2 : DataW.trod enc Tryd.prog w base sp held n 9 (([v0, v1, v2, v3, v4].drop 2).take (Tryd.prog.cellsOf 9)) = some y2 := hf 2 _ rfl
      have f3 : DataW.trod enc Tryd.prog w base sp held n 3 (([v0, v1, v2, v3, v4].drop 3).take (Tryd.prog.cellsOf 3)) = some y3 := hf 3 _ rfl
      have f4 : DataW.trod enc Tryd.prog w base sp held n 33 (([v0, v1, v2, v3, v4].drop 4).take (Tryd.prog.cellsOf 33)) = some y4 := hf 4 _ rfl
      simp only [show Tryd.prog.cellsOf 3 = 1 by kernel_rfl, show Tryd.prog.cellsOf 23 = 1 by kernel_rfl, show Tryd.prog.cellsOf 9 = 1 by kernel_rfl, show Tryd.prog.cellsOf 33 = 1 by kernel_rfl, List.drop_zero, List.drop_succ_cons, List.take_succ_cons, List.take_zero] at f0 f1 f2 f3 f4
      obtain ⟨k, hk, _, wk⟩ := DataW.trod_int Tryd.underlying3 f0
      obtain ⟨u, hu, _, wu⟩ := DataW.trod_int Tryd.underlying23 f1
      obtain ⟨s, hs, _, ws⟩ := DataW.trod_string Tryd.underlying9 f2
      obtain ⟨e, he, _, we⟩ := DataW.trod_int Tryd.underlying3 f3
      obtain rfl : v0 = .int .i64 k := by simpa using hk
      obtain rfl : v1 = .int .u64 u := by simpa using hu
      obtain rfl : v2 = .string s := by simpa using hs
      obtain rfl : v3 = .int .i64 e := by simpa using he
      rcases DataW.trod_slice Tryd.underlying33 f4 with ⟨h0, _⟩ | ⟨a, len, cap, elems, rest, n', rfl, h0, _, _, hlc, hcm, hel, hat, _, _⟩
      · obtain rfl : v4 = .slice none 0 0 := by simpa using h0
        exact ⟨.mk k u s e 0 (fun i => i.elim0), none, 0, rfl, wk, wu, we, ws, Nat.le_refl _, by decide, fun i => i.elim0⟩
      · obtain rfl : v4 = .slice (some a) len cap := by simpa using h0
        have hsp : 0 < len → a.spot = none := fun hp => by
          have hi := hat 0 hp
          rw [List.getElem?_eq_getElem (by omega)] at hi
          obtain ⟨cs', h1, _⟩ := Option.bind_eq_some_iff.1 hi
          obtain ⟨_, h5, hcell⟩ := World.cells?_some h1
          rw [cells_pk] at h5 hcell
          have hc0 := hcell 0 (by omega)
          rw [List.getElem?_eq_getElem (by omega)] at hc0
          simpa [Addr.add] using World.cell?_spot hc0
        have hk : ∀ i : Fin len, ∃ (t : Pk) (b o : Nat) (cs' : List Value), a = ⟨b, o, none⟩ ∧ cs'.length = 5 ∧ (∀ j, j < 5 → w.cell? ⟨b, o + (i.val * 5 + j), none⟩ = cs'[j]?) ∧ TrP w t cs' := fun i => by
          have hi := hat i.val i.isLt
          rw [List.getElem?_eq_getElem (by omega)] at hi
          obtain ⟨cs', h1, h2⟩ := Option.bind_eq_some_iff.1 hi
          obtain ⟨t, ht⟩ := ih n' (by omega) cs' _ h2
          obtain ⟨_, h5, hcell⟩ := World.cells?_some h1
          rw [cells_pk] at h5 hcell
          obtain ⟨b, o, spot⟩ := a
          have hs : spot = none := hsp (by have := i.isLt; omega)
          subst hs
          refine ⟨t, b, o, cs', rfl, h5, fun j hj => ?_, ht⟩
          have := hcell j hj
          rw [Addr.add_add] at this
          rw [← this]
          unfold Addr.add
          split <;> simp_all
        refine ⟨.mk k u s e len (fun i => Classical.choose (hk i)), some a, cap, rfl, wk, wu, we, ws, hlc, hcm, fun i => ?_⟩
        obtain ⟨b, o, cs', e1, e2, e3, e4⟩ := Classical.choose_spec (hk i)
        exact ⟨b, o, cs', by rw [e1], e2, e3, e4⟩
end
end Go.Proofs.YtooifcdkpddlmaaDoor
