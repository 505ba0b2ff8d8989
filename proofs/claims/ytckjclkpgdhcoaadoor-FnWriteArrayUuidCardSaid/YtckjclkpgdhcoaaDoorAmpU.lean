/- The walks of AMQP's uuids: sixteen bytes of a text. No condition. -/
import Derived.Test.YtckjclkpgdhcoaaDoorAmpG
import Derived.Lib.LazyBuf
namespace Go.Proofs.YtckjclkpgdhcoaaDoor
set_option linter.unusedVariables false
set_option linter.unusedSimpArgs false
open Go.RowKit

def bys (s : ByteArray) : List Int := s.data.toList.map fun b => (b.toNat : Int)
theorem bys_len (s : ByteArray) : (bys s).length = s.size := by
  rw [bys, List.length_map, Array.length_toList]
  rfl
theorem byt_bys (s : ByteArray) : Byt (bys s) := fun x hx => by
  obtain ⟨b, _, rfl⟩ := List.mem_map.1 hx
  have := b.toNat_lt
  omega
theorem str_bys (s : ByteArray) : strOfNums (bys s) = s := by
  have h := Lib.Lz.strOfNums_map s.data.toList
  unfold bys
  rw [h]
section
variable {P : Program} {ops : Array Oper} {Q : Exit → Act → World → Prop} {o : Oper} {rest : List Oper} {a : Act} {w : World}
/-- copy(dst, a text): dst lies in a block known whole, and has room. -/
theorem wp_copystr (hgd : o.guard = none) (d s : Operand) (dT sT e : TypeId) (ho : o.op = .call { callee := .builtin .copy, args := #[d, s], argTypes := #[dT, sT] }) (hu : P.underlying dT = some (.slice e)) (hz : ∀ w, (Go.sizeOf e).run P w = .ok 1 w)
    (g off dn dc : Nat) (t : ByteArray) (hd : a.eval d = .slice (some ⟨g, off, none⟩) dn dc) (hs : a.eval s = .string t) (cur : List Value) (te : TypeId) (hg : Row w g te cur) (hle : t.size ≤ dn) (hfit : off + t.size ≤ cur.length)
    (h : ∀ w', Row w' g te (cur.take off ++ (bys t).map (Value.int .u8) ++ cur.drop (off + t.size)) → Ch (fun k => k = g) w w' → wpList P ops Q rest (a.put o.dst (.int .i64 t.size)) w') : wpList P ops Q (o :: rest) a w := by
  have e1 : (t.data.toList.map fun x => Value.int .u8 (x.toNat : Int)) = (bys t).map (Value.int .u8) := by rw [bys, List.map_map]; rfl
  have hrun := run_copy_string (P := P) w dT sT o.type e g off dn dc t hu hz hle (fun j hj => by
    rw [hg.cell (off + j) cur[off + j] (List.getElem?_eq_getElem (by omega))]; rfl) (fun j _ => hg.frozen _)
  rw [e1] at hrun
  have hl : ((bys t).map (Value.int .u8)).length = t.size := by rw [List.length_map, bys_len]
  obtain ⟨r1, r2⟩ := Row.sets ((bys t).map (Value.int .u8)) off w cur hg (by rw [hl]; exact hfit)
  rw [hl] at r1
  refine wpList_plain hgd fun K hK => ?_
  unfold Oper.wp execOp
  simp only [ho, resolve, invoke, builtin, Sem.run_bind, Sem.run_pure, Result.andThen_ok, List.map_toArray, List.map_cons, List.map_nil, hd, hs, hrun]
  exact hK _ _ (h _ r1 r2)
end
/-- Sixteen bytes, one by one. -/
theorem bys16 (s : ByteArray) (h : s.size = 16) : ∃ b0 b1 b2 b3 b4 b5 b6 b7 b8 b9 b10 b11 b12 b13 b14 b15 : Int, bys s = [b0, b1, b2, b3, b4, b5, b6, b7, b8, b9, b10, b11, b12, b13, b14, b15] := by
  have hl := (bys_len s).trans h
  match bys s, hl with
  | [b0, b1, b2, b3, b4, b5, b6, b7, b8, b9, b10, b11, b12, b13, b14, b15], _ => exact ⟨b0, b1, b2, b3, b4, b5, b6, b7, b8, b9, b10, b11, b12, b13, b14, b15, rfl⟩
theorem size_uuid : (Tryd.prog.info? 70).map (·.size) = some 16 := by kernel_rfl
theorem row16 {w : World} {g : Nat} {e : TypeId} {b0 b1 b2 b3 b4 b5 b6 b7 b8 b9 b10 b11 b12 b13 b14 b15 : Int} (h : Row w g e [Value.int .u8 b0, Value.int .u8 b1, Value.int .u8 b2, Value.int .u8 b3, Value.int .u8 b4, Value.int .u8 b5, Value.int .u8 b6, Value.int .u8 b7, Value.int .u8 b8, Value.int .u8 b9, Value.int .u8 b10, Value.int .u8 b11, Value.int .u8 b12, Value.int .u8 b13, Value.int .u8 b14, Value.int .u8 b15]) : w.cell? ⟨g, 0, none⟩ = some (.int .u8 b0) ∧ w.cell? ⟨g, 1, none⟩ = some (.int .u8 b1) ∧ w.cell? ⟨g, 2, none⟩ = some (.int .u8 b2) ∧ w.cell? ⟨g, 3, none⟩ = some (.int .u8 b3) ∧ w.cell? ⟨g, 4, none⟩ = some (.int .u8 b4) ∧ w.cell? ⟨g, 5, none⟩ = some (.int .u8 b5) ∧ w.cell? ⟨g, 6, none⟩ = some (.int .u8 b6) ∧ w.cell? ⟨g, 7, none⟩ = some (.int .u8 b7) ∧ w.cell? ⟨g, 8, none⟩ = some (.int .u8 b8) ∧ w.cell? ⟨g, 9, none⟩ = some (.int .u8 b9) ∧ w.cell? ⟨g, 10, none⟩ = some (.int .u8 b10) ∧ w.cell? ⟨g, 11, none⟩ = some (.int .u8 b11) ∧ w.cell? ⟨g, 12, none⟩ = some (.int .u8 b12) ∧ w.cell? ⟨g, 13, none⟩ = some (.int .u8 b13) ∧ w.cell? ⟨g, 14, none⟩ = some (.int .u8 b14) ∧ w.cell? ⟨g, 15, none⟩ = some (.int .u8 b15) :=
  ⟨h.cell 0 _ rfl, h.cell 1 _ rfl, h.cell 2 _ rfl, h.cell 3 _ rfl, h.cell 4 _ rfl, h.cell 5 _ rfl, h.cell 6 _ rfl, h.cell 7 _ rfl, h.cell 8 _ rfl, h.cell 9 _ rfl, h.cell 10 _ rfl, h.cell 11 _ rfl, h.cell 12 _ rfl, h.cell 13 _ rfl, h.cell 14 _ rfl, h.cell 15 _ rfl⟩
set_option maxRecDepth 100000 in
set_option maxHeartbeats 1000000 in
theorem uuid_calls (s : ByteArray) (b0 b1 b2 b3 b4 b5 b6 b7 b8 b9 b10 b11 b12 b13 b14 b15 : Int) (w : World) (hs : s.size = 16) (hb : bys s = [b0, b1, b2, b3, b4, b5, b6, b7, b8, b9, b10, b11, b12, b13, b14, b15]) :
    Calls Tryd.prog 28 #[.string s] w fun e w' => e = .returned (.agg #[Value.int .u8 b0, Value.int .u8 b1, Value.int .u8 b2, Value.int .u8 b3, Value.int .u8 b4, Value.int .u8 b5, Value.int .u8 b6, Value.int .u8 b7, Value.int .u8 b8, Value.int .u8 b9, Value.int .u8 b10, Value.int .u8 b11, Value.int .u8 b12, Value.int .u8 b13, Value.int .u8 b14, Value.int .u8 b15]) ∧ Ch No w w' := by
  have hd : ((s.size : Int) != 16) = false := by rw [hs]; rfl
  have hR := Row.alloc w [Value.int .u8 0, Value.int .u8 0, Value.int .u8 0, Value.int .u8 0, Value.int .u8 0, Value.int .u8 0, Value.int .u8 0, Value.int .u8 0, Value.int .u8 0, Value.int .u8 0, Value.int .u8 0, Value.int .u8 0, Value.int .u8 0, Value.int .u8 0, Value.int .u8 0, Value.int .u8 0] 70
  go_enter Tryd.func28, Tryd.ntmps28
  go_wp2_with (first | ((with_reducible refine gate (.call { callee := .builtin .copy, args := #[.tmp _, .tmp _], argTypes := #[23, 9] }) rfl ?_); refine wp_copystr rfl _ _ 23 9 5 rfl Tryd.underlying23 (fun _ => by kernel_rfl) w.heap.size 0 16 16 s rfl rfl [Value.int .u8 0, Value.int .u8 0, Value.int .u8 0, Value.int .u8 0, Value.int .u8 0, Value.int .u8 0, Value.int .u8 0, Value.int .u8 0, Value.int .u8 0, Value.int .u8 0, Value.int .u8 0, Value.int .u8 0, Value.int .u8 0, Value.int .u8 0, Value.int .u8 0, Value.int .u8 0] 70 hR (by omega) (by simp; omega) ?_; intro w1 hrow1 hch1; have R1 : Row w1 w.heap.size 70 [Value.int .u8 b0, Value.int .u8 b1, Value.int .u8 b2, Value.int .u8 b3, Value.int .u8 b4, Value.int .u8 b5, Value.int .u8 b6, Value.int .u8 b7, Value.int .u8 b8, Value.int .u8 b9, Value.int .u8 b10, Value.int .u8 b11, Value.int .u8 b12, Value.int .u8 b13, Value.int .u8 b14, Value.int .u8 b15] := (by rw [hb, hs] at hrow1; exact hrow1); obtain ⟨d0, d1, d2, d3, d4, d5, d6, d7, d8, d9, d10, d11, d12, d13, d14, d15⟩ := row16 R1) | ((with_reducible refine gate (.store 70 _ _) rfl ?_); refine wp_store rfl rfl 70 _ _ rfl w.heap.size 0 70 [Value.int .u8 b0, Value.int .u8 b1, Value.int .u8 b2, Value.int .u8 b3, Value.int .u8 b4, Value.int .u8 b5, Value.int .u8 b6, Value.int .u8 b7, Value.int .u8 b8, Value.int .u8 b9, Value.int .u8 b10, Value.int .u8 b11, Value.int .u8 b12, Value.int .u8 b13, Value.int .u8 b14, Value.int .u8 b15] (.agg #[Value.int .u8 b0, Value.int .u8 b1, Value.int .u8 b2, Value.int .u8 b3, Value.int .u8 b4, Value.int .u8 b5, Value.int .u8 b6, Value.int .u8 b7, Value.int .u8 b8, Value.int .u8 b9, Value.int .u8 b10, Value.int .u8 b11, Value.int .u8 b12, Value.int .u8 b13, Value.int .u8 b14, Value.int .u8 b15]) rfl rfl [Value.int .u8 b0, Value.int .u8 b1, Value.int .u8 b2, Value.int .u8 b3, Value.int .u8 b4, Value.int .u8 b5, Value.int .u8 b6, Value.int .u8 b7, Value.int .u8 b8, Value.int .u8 b9, Value.int .u8 b10, Value.int .u8 b11, Value.int .u8 b12, Value.int .u8 b13, Value.int .u8 b14, Value.int .u8 b15] rfl size_uuid (by simp [Value.oneCell']) R1 (by simp) ?_; intro w2 hrow2 hch2))
  obtain ⟨f0, f1, f2, f3, f4, f5, f6, f7, f8, f9, f10, f11, f12, f13, f14, f15⟩ := row16 (show Row w2 w.heap.size 70 [Value.int .u8 b0, Value.int .u8 b1, Value.int .u8 b2, Value.int .u8 b3, Value.int .u8 b4, Value.int .u8 b5, Value.int .u8 b6, Value.int .u8 b7, Value.int .u8 b8, Value.int .u8 b9, Value.int .u8 b10, Value.int .u8 b11, Value.int .u8 b12, Value.int .u8 b13, Value.int .u8 b14, Value.int .u8 b15] from hrow2)
  refine bodyPost_ret (v := .agg #[Value.int .u8 b0, Value.int .u8 b1, Value.int .u8 b2, Value.int .u8 b3, Value.int .u8 b4, Value.int .u8 b5, Value.int .u8 b6, Value.int .u8 b7, Value.int .u8 b8, Value.int .u8 b9, Value.int .u8 b10, Value.int .u8 b11, Value.int .u8 b12, Value.int .u8 b13, Value.int .u8 b14, Value.int .u8 b15]) ?_ rfl ?_
  · simp [results, Tryd.results28, go_sem, f0, f1, f2, f3, f4, f5, f6, f7, f8, f9, f10, f11, f12, f13, f14, f15]
  exact ⟨rfl, (((Ch.refl No w).alloc _).freshg hch1 (Nat.le_refl _)).freshg hch2 (Nat.le_refl _)⟩

end Go.Proofs.YtckjclkpgdhcoaaDoor
