/- How a value of AMQP may be written: its pieces, its descriptor, the whole. No condition. -/
import Derived.Test.YtbdgkikipekmlaaDoorLen
import Derived.Test.YtbdgkikipekmlaaDoorVab
import Derived.Test.YtbdgkikipekmlaaDoorValW
namespace Go.Proofs.YtbdgkikipekmlaaDoor
set_option linter.unusedVariables false
set_option linter.unusedSimpArgs false
open Go.RowKit
def bys (s : ByteArray) : List Int := s.data.toList.map fun b => (b.toNat : Int)
theorem bys_len (s : ByteArray) : (bys s).length = s.size := by
  rw [bys, List.length_map, Array.length_toList]
  rfl
def cat (f : Nat → List Int) : Nat → List Int
  | 0 => []
  | n + 1 => cat f n ++ f n
def cdOf (k : Int) : Int := (((cdI.find? fun p => p.1 == k).map (·.2)).getD 0)
def shI : List (Int × Int) := [(4, 82), (5, 83), (8, 84), (9, 85), (18, 160), (19, 161), (20, 163)]
def shOf (k : Int) : Int := (((shI.find? fun p => p.1 == k).map (·.2)).getD 0)
/-- The forms of a number. -/
def NumW (k n : Int) (c : Int) (d : List Int) : Prop :=
  (c = cdOf k ∧ d = bg n (fsz k).toNat) ∨ (k = 4 ∧ ((c = 82 ∧ n < 256 ∧ d = bg n 1) ∨ (c = 67 ∧ n = 0 ∧ d = []))) ∨ (k = 5 ∧ ((c = 83 ∧ n < 256 ∧ d = bg n 1) ∨ (c = 68 ∧ n = 0 ∧ d = []))) ∨ (k = 8 ∧ c = 84 ∧ sgn 128 n ∧ d = bg n 1) ∨ (k = 9 ∧ c = 85 ∧ sgn 128 n ∧ d = bg n 1)
structure Wrs where
  pc : Int → List Int → Prop
  ds : List Int → Prop
  pv : List Int → Prop
/-- A value's pieces (pc), its descriptor's bytes (ds), the whole (pv). -/
def Wr : Va → Wrs
  | .mk k n s m K o d D =>
    let p : Int → List Int → Prop := fun c b =>
      (k = 0 ∧ c = 64 ∧ b = []) ∨ (k = 1 ∧ ((c = 66 - n ∧ b = []) ∨ (c = 86 ∧ b = [n]))) ∨ (k = 14 ∧ c = 148 ∧ b = bys s) ∨ (k = 17 ∧ c = 152 ∧ b = bys s) ∨
      (k = 18 ∧ LenD 160 176 (bys s) (-1) c b) ∨ (k = 19 ∧ LenD 161 177 (bys s) (-1) c b) ∨ (k = 20 ∧ LenD 163 179 (bys s) (-1) c b) ∨ (2 ≤ k ∧ k ≤ 16 ∧ k ≠ 14 ∧ NumW k n c b) ∨
      (k = 21 ∧ ((m = 0 ∧ c = 69 ∧ b = []) ∨ ∃ es : Nat → List Int, (∀ i : Fin m, (Wr (K i)).pv (es i.val)) ∧ LenD 192 208 (cat es m) m c b)) ∨
      (k = 22 ∧ ∃ es : Nat → List Int, (∀ i : Fin m, (Wr (K i)).pv (es i.val)) ∧ LenD 193 209 (cat es m) m c b) ∨
      (k = 23 ∧ ∃ (kd code : Int) (es : Nat → List Int) (pre : List Int), (m = 0 → kd = o ∧ pre = []) ∧ (∀ h : 0 < m, kd = (K ⟨0, h⟩).kind ∧ (Wr (K ⟨0, h⟩)).ds pre) ∧ (code = shOf kd ∨ code = cdOf kd) ∧ code ≠ 0 ∧ (∀ i : Fin m, (Wr (K i)).pc code (es i.val)) ∧ LenD 224 240 (pre ++ code % 256 :: cat es m) m c b)
    let q : List Int → Prop := fun b => (d = 0 ∧ b = []) ∨ ∃ (h : 0 < d) (x : List Int), (Wr (D ⟨0, h⟩)).pv x ∧ b = 0 :: x
    ⟨p, q, fun b => ∃ pre c x, q pre ∧ p c x ∧ b = pre ++ c % 256 :: x⟩
section
variable {P : Program} {ops : Array Oper} {Q : Exit → Act → World → Prop} {o : Oper} {a : Act} {w : World}
/-- A store of some cells into a block known whole, as one step of a region that draws its order. -/
theorem step_store {K : Act → World → Prop} {E : Prop} (hgd : o.guard = none) (hN : o.dst = none) (t : TypeId) (p x : Operand) (ho : o.op = .store t p x) (g off : Nat) (e : TypeId) (cur : List Value) (u : Value) (haddr : a.eval p = .pointer (some ⟨g, off, none⟩)) (hx : a.eval x = u)
    (seg : List Value) (hu : u.cells.toList = seg) (ht : (P.info? t).map (·.size) = some seg.length) (h1 : ∀ q ∈ seg, q.oneCell' = true) (hR : Row w g e cur) (hfit : off + seg.length ≤ cur.length)
    (h : ∀ w', Row w' g e (cur.take off ++ seg ++ cur.drop (off + seg.length)) → Ch (fun k => k = g) w w' → K a w') :
    if Region.wanted o (yielded ops a.tmps) = true then Oper.wp P o a w K Q else E := by
  have hw : Region.wanted o (yielded ops a.tmps) = true := by simp [Region.wanted, hgd]
  rw [if_pos hw]
  obtain ⟨i, hi, hsz⟩ := Option.map_eq_some_iff.1 ht
  have hc : u.cells.size = i.size := by rw [hsz, ← hu, Array.length_toList]
  have hst := run_storeCells_cells (P := P) g off seg 0 w (fun j hj => by
    rw [hR.cell (off + 0 + j) cur[off + 0 + j] (List.getElem?_eq_getElem (by omega))]
    rfl) (fun j _ => hR.frozen _) h1
  simp only [Nat.add_zero] at hst
  have hrun : (Instr.storeAt t (.pointer (some ⟨g, off, none⟩)) u).run P w = .ok () (w.setCells g off seg) := by
    simp [Instr.storeAt, Instr.sureAddr, storeVar, sizeOf, typeInfo, hi, hc, hu, hst]
  obtain ⟨r1, r2⟩ := Row.sets seg off w cur hR hfit
  unfold Oper.wp execOp
  simp only [ho, haddr, hx, Sem.run_bind, Sem.run_pure, Result.andThen_ok, hrun]
  show K (a.put o.dst undef) _
  rw [hN]
  exact h _ r1 r2
end
end Go.Proofs.YtbdgkikipekmlaaDoor
