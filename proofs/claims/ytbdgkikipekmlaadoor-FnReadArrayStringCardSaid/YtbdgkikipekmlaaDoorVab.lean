/- Codes. The walk of the reference's sizes of the kinds of AMQP: a literal map whose entries are laid in any order. The walk of the reference's sizes of the kinds of AMQP. No condition. -/
import Derived.Test.YtbdgkikipekmlaaDoorBas
import Derived.RegionTactic
namespace Go.Proofs.YtbdgkikipekmlaaDoor
set_option linter.unusedVariables false
set_option linter.unusedSimpArgs false
open Go.RowKit
def cdI : List (Int × Int) := [(0, 64), (1, 86), (2, 80), (6, 81), (3, 96), (7, 97), (4, 112), (8, 113), (10, 114), (15, 115), (12, 116), (5, 128), (9, 129), (11, 130), (16, 131), (13, 132), (14, 148), (17, 152), (18, 176), (19, 177), (20, 179), (21, 208), (22, 209), (23, 240)]
def cdL : List (Int × Value) := [(0, .int .i64 64), (1, .int .i64 86), (2, .int .i64 80), (6, .int .i64 81), (3, .int .i64 96), (7, .int .i64 97), (4, .int .i64 112), (8, .int .i64 113), (10, .int .i64 114), (15, .int .i64 115), (12, .int .i64 116), (5, .int .i64 128), (9, .int .i64 129), (11, .int .i64 130), (16, .int .i64 131), (13, .int .i64 132), (14, .int .i64 148), (17, .int .i64 152), (18, .int .i64 176), (19, .int .i64 177), (20, .int .i64 179), (21, .int .i64 208), (22, .int .i64 209), (23, .int .i64 240)]

theorem zero_int (w : World) : (zeroValue 3).run Tryd.prog w = .ok (.int .i64 0) w := by kernel_rfl
set_option maxRecDepth 100000 in
set_option maxHeartbeats 1000000 in
theorem coded_calls (k x : Int) (w : World) (hlk : Hid ((look cdL k).getD (.int .i64 0) = .int .i64 x)) : Calls Tryd.prog 93 #[.int .i64 k] w fun e w' => e = .returned (.int .i64 x) ∧ Ch No w w' := by
  go_enter Tryd.func93, Tryd.ntmps93
  go_wp2_with (first | ((with_reducible refine gate (.makeMap 164 none) rfl ?_); refine wp_makeMap rfl _ rfl .i64 ?_; intro wm m hm HM HC) | ((with_reducible refine gate (.insert 164 _ _ _) rfl ?_); refine wp_insert rfl rfl 164 3 3 _ _ _ rfl .i64 Tryd.underlying164 Tryd.underlying3 _ _ _ _ rfl rfl rfl HM (by simp [look]) HC hm ?_; clear HM HC; intro wm HM HC) | ((with_reducible refine gate (.lookup 164 _ _ false) rfl ?_); simp only [Act.eval, List.nil_append, List.cons_append] at HM; have HM2 : IMap .i64 wm m cdL := HM; refine wp_look rfl 164 3 3 _ _ rfl .i64 Tryd.underlying164 Tryd.underlying3 (.int .i64 0) zero_int _ _ cdL rfl rfl HM2 (.int .i64 x) hlk.out ?_; clear HM HM2 hm))

  go_ret
  exact ⟨rfl, HC⟩
end Go.Proofs.YtbdgkikipekmlaaDoor

namespace Go.Proofs.YtbdgkikipekmlaaDoor
set_option linter.unusedVariables false
set_option linter.unusedSimpArgs false
open Go.RowKit

theorem cnt_le (p q : Nat → Bool) (hle : ∀ j, q j = true → p j = true) : ∀ n, (List.range n).countP q ≤ (List.range n).countP p
  | 0 => by simp
  | n + 1 => by
    have := cnt_le p q hle n
    rw [List.range_succ, List.countP_append, List.countP_append, List.countP_singleton, List.countP_singleton]
    have h := hle n
    cases hq : q n <;> cases hp : p n <;> simp_all <;> omega
theorem cnt_lt (p q : Nat → Bool) (i : Nat) (hp : p i = true) (hq : q i = false) (hle : ∀ j, q j = true → p j = true) : ∀ n, i < n → (List.range n).countP q < (List.range n).countP p
  | 0, h => absurd h (by omega)
  | n + 1, h => by
    rw [List.range_succ, List.countP_append, List.countP_append, List.countP_singleton, List.countP_singleton]
    by_cases hin : i = n
    · subst hin
      have := cnt_le p q hle i
      simp [hp, hq]
      omega
    · have := cnt_lt p q i hp hq hle n (by omega)
      have h' := hle n
      cases hq' : q n <;> cases hp' : p n <;> simp_all <;> omega
section
variable {P : Program} {ops : Array Oper} {Q : Exit → Act → World → Prop} {md : Region.Mode}
/-- A region whose steps keep what J says, in whatever order they come. -/
theorem wpAny_inv {J : Array Bool → Act → World → Prop}
    (hstep : ∀ listed a w i, J listed a w → i ∈ Region.ready md ops listed → wpOp P ops Q i (J (listed.setIfInBounds i true)) a w)
    (hend : ∀ listed a w, J listed a w → Region.ready md ops listed = [] → Q .normal a w) :
    ∀ (fuel : Nat) (listed : Array Bool) (a : Act) (w : World), (List.range ops.size).countP (fun i => !listed.getD i true) ≤ fuel → J listed a w → wpAny P md ops Q fuel listed a w
  | 0, listed, a, w, hf, hJ => by
    have h0 : Region.ready md ops listed = [] := by
      refine List.eq_nil_iff_forall_not_mem.2 fun j hj => ?_
      have h1 := (mem_ready.1 hj).1
      have h2 : j < ops.size := by obtain ⟨o, ho, _⟩ := (mem_ready.1 hj).2; exact (Array.getElem?_eq_some_iff.1 ho).1
      have h3 := List.countP_eq_zero.1 (Nat.le_zero.1 hf) j (List.mem_range.2 h2)
      simp [h1] at h3
    exact ⟨h0, hend _ _ _ hJ h0⟩
  | fuel + 1, listed, a, w, hf, hJ => by
    refine ⟨fun h => hend _ _ _ hJ h, fun i hi => ?_⟩
    have h1 := (mem_ready.1 hi).1
    have h2 : i < ops.size := by obtain ⟨o, ho, _⟩ := (mem_ready.1 hi).2; exact (Array.getElem?_eq_some_iff.1 ho).1
    refine wpOp_mono (fun a' w' h => wpAny_inv hstep hend fuel _ a' w' ?_ h) (hstep listed a w i hJ hi)
    have hil : i < listed.size := by
      rcases Nat.lt_or_ge i listed.size with h' | h'
      · exact h'
      · simp [Array.getElem?_eq_none h'] at h1
    have h3 := cnt_lt (fun j => !listed.getD j true) (fun j => !(listed.setIfInBounds i true).getD j true) i (by simp only [h1]; rfl) (by simp [hil]) (fun j hj => by
      by_cases hij : i = j
      · subst hij; simp [hil] at hj
      · rwa [getD_set_ne true hij] at hj) ops.size h2
    omega
end
theorem getD_set_is {listed : Array Bool} {i : Nat} (hi : i < listed.size) (j : Nat) : (listed.setIfInBounds i true).getD j false = (decide (j = i) || listed.getD j false) := by
  by_cases h : i = j
  · subst h; simp [hi]
  · rw [getD_set_ne false h]
    have : ¬ j = i := fun e => h e.symm
    simp [this]
def fsE : List (Nat × Int × Int) := [(1, 2, 1), (2, 6, 1), (3, 3, 2), (4, 7, 2), (5, 4, 4), (6, 8, 4), (7, 10, 4), (8, 12, 4), (9, 15, 4), (10, 5, 8), (11, 9, 8), (12, 11, 8), (13, 13, 8), (14, 16, 8), (15, 14, 16), (16, 17, 16)]

/-- What lies under a key when the entries of L have been laid. -/
def Cf (L : Nat → Bool) (key : Int) : Option Value := (fsE.find? fun e => e.2.1 == key).bind fun e => if L e.1 then some (.int .i64 e.2.2) else none
theorem fsE_uniq : (fsE.all fun e => fsE.all fun e' => e.1 != e'.1 || (e.2.1 == e'.2.1 && e.2.2 == e'.2.2)) = true := by kernel_rfl
theorem cf_set (L : Nat → Bool) (i : Nat) (k v : Int) (hf : fsE.find? (fun e => e.2.1 == k) = some (i, k, v)) (key : Int) : Cf (fun j => decide (j = i) || L j) key = if key = k then some (.int .i64 v) else Cf L key := by
  by_cases hk : key = k
  · subst hk
    simp [Cf, hf]
  · rw [if_neg hk]
    unfold Cf
    cases h : fsE.find? (fun e => e.2.1 == key) with
    | none => rfl
    | some e =>
      have h1 := List.find?_some h
      have h2 := List.mem_of_find?_eq_some h
      have h3 := List.mem_of_find?_eq_some hf
      have hne : ¬ e.1 = i := fun he => by
        have h4 := List.all_eq_true.1 (List.all_eq_true.1 fsE_uniq e h2) _ h3
        simp [he] at h4
        simp at h1
        omega
      simp [hne]
theorem cf_none (L : Nat → Bool) (i : Nat) (k v : Int) (hf : fsE.find? (fun e => e.2.1 == k) = some (i, k, v)) (hL : L i = false) : Cf L k = none := by
  simp [Cf, hf, hL]
/-- The size of a number's kind, 0 where it has none. -/
def fs0 (k : Int) : Int := ((fsE.find? fun e => e.2.1 == k).map (·.2.2)).getD 0
theorem cf_all (L : Nat → Bool) (hL : ∀ j, 1 ≤ j → j ≤ 16 → L j = true) (key : Int) : (Cf L key).getD (.int .i64 0) = .int .i64 (fs0 key) := by
  unfold Cf fs0
  cases h : fsE.find? (fun e => e.2.1 == key) with
  | none => rfl
  | some e =>
    have h2 := List.mem_of_find?_eq_some h
    have h3 : L e.1 = true := by
      have h4 : (fsE.all fun e => decide (1 ≤ e.1) && decide (e.1 ≤ 16)) = true := by kernel_rfl
      have h5 := List.all_eq_true.1 h4 e h2
      simp at h5
      exact hL _ h5.1 h5.2
    simp [h3]
def MapS (w : World) (m : Nat) (L : Nat → Bool) : Prop := ∃ es clk, w.heap[m]? = some (.map es clk) ∧ ∀ k : Int, ∃ r, Instr.findNow (.int .i64) (.int .i64 k) es.toList 0 = some r ∧ r.map (·.2) = Cf L k
theorem MapS.keep0 {w w' : World} {m : Nat} {L : Nat → Bool} (h : MapS w m L) (k : Ch No w w') : MapS w' m L := by
  obtain ⟨es, clk, h1, h2⟩ := h
  exact ⟨es, clk, (k.block m (Array.getElem?_eq_some_iff.1 h1).1 (fun h => h)).trans h1, h2⟩
theorem MapS.same {w : World} {m : Nat} {L L' : Nat → Bool} (h : MapS w m L) (hL : ∀ j, 1 ≤ j → j ≤ 16 → L' j = L j) : MapS w m L' := by
  obtain ⟨es, clk, h1, h2⟩ := h
  refine ⟨es, clk, h1, fun k => ?_⟩
  obtain ⟨r, h3, h4⟩ := h2 k
  refine ⟨r, h3, h4.trans ?_⟩
  unfold Cf
  cases h : fsE.find? (fun e => e.2.1 == k) with
  | none => rfl
  | some e =>
    have h2 := List.mem_of_find?_eq_some h
    have h5 : L' e.1 = L e.1 := by
      have h4 : (fsE.all fun e => decide (1 ≤ e.1) && decide (e.1 ≤ 16)) = true := by kernel_rfl
      have h5 := List.all_eq_true.1 h4 e h2
      simp at h5
      exact hL _ h5.1 h5.2
    simp [h5]
section
variable {P : Program} {ops : Array Oper} {Q : Exit → Act → World → Prop} {o : Oper} {a : Act} {w : World}
theorem step_insertS {w0 : World} {K : Act → World → Prop} {E : Prop} (hgd : o.guard = none) (hN : o.dst = none) (t kt et : TypeId) (x kx vx : Operand) (ho : o.op = .insert t x kx vx) (ht : P.underlying t = some (.map kt et)) (hkt : P.underlying kt = some (.int .i64))
    (m i : Nat) (k v : Int) (L : Nat → Bool) (hx : a.eval x = .map (some m)) (hk : a.eval kx = .int .i64 k) (hv : a.eval vx = .int .i64 v) (hM : MapS w m L) (hf : fsE.find? (fun e => e.2.1 == k) = some (i, k, v)) (hL : L i = false) (hC : Ch No w0 w) (hm : w0.heap.size ≤ m)
    (h : ∀ w', MapS w' m (fun j => decide (j = i) || L j) → Ch No w0 w' → K a w') : if Region.wanted o (yielded ops a.tmps) = true then Oper.wp P o a w K Q else E := by
  have hw : Region.wanted o (yielded ops a.tmps) = true := by simp [Region.wanted, hgd]
  rw [if_pos hw]
  obtain ⟨es, clk, hb, hfn⟩ := hM
  obtain ⟨r, hr, hr2⟩ := hfn k
  rw [cf_none L i k v hf hL] at hr2
  have hr0 : r = none := by cases r with
    | none => rfl
    | some y => cases hr2
  subst hr0
  have hrun : (Instr.mapUpdate t (.map (some m)) (.int .i64 k) (.int .i64 v)).run P w = .ok () { w with heap := w.heap.setIfInBounds m (.map (es.push ⟨.int .i64 k, .int .i64 v, clk⟩) (clk + 1)) } := by
    simp [Instr.mapUpdate, run_underlying ht, MapKept.run_getObj_map hb, MapKept.run_checkKey hkt (k := .int .i64 k) rfl, MapKept.run_findKey hkt hr, MapKept.run_setObj_map _ hb, Result.andThen]
  obtain ⟨g1, g2⟩ := MapKept.heap_set (o' := .map (es.push ⟨.int .i64 k, .int .i64 v, clk⟩) (clk + 1)) hb
  unfold Oper.wp execOp
  simp only [ho, hx, hk, hv, Sem.run_bind, Sem.run_pure, hrun, Result.andThen_ok]
  show K (a.put o.dst undef) _
  rw [hN]
  refine h _ ⟨_, _, g1, fun j => ?_⟩ (hC.trans (S' := fun x => x = m) ⟨rfl, rfl, rfl, by simp, fun i _ hn => g2 i hn⟩ (fun _ h => h) (fun x hx => .inr (by subst hx; exact hm)))
  obtain ⟨r', hr', hr2'⟩ := hfn j
  have hs := findNow_snoc .i64 j k (.int .i64 v) clk es.toList 0 r' hr'
  refine ⟨_, by rw [Array.toList_push]; exact hs, ?_⟩
  rw [cf_set L i k v hf j, ← hr2']
  by_cases e : j = k
  · subst e
    rw [hr] at hr'
    injection hr' with hr'
    subst hr'
    simp
  · cases r' with
    | some y => simp [e]
    | none => simp [e]
end
theorem zero_i (w : World) : (zeroValue 3).run Tryd.prog w = .ok (.int .i64 0) w := zero_int w
/-- 1 for kinds that have no fixed size. -/
def bs1 (k : Int) : Int := if k = 0 ∨ k = 1 ∨ 18 ≤ k then 1 else 0
set_option maxRecDepth 100000 in
theorem boolSize_calls (k : Int) (w : World) : Calls Tryd.prog 107 #[.int .i64 k] w fun e w' => e = .returned (.int .i64 (bs1 k)) ∧ w' = w := by
  by_cases h0 : k = 0
  · subst h0
    go_enter Tryd.func107, Tryd.ntmps107
    go_wp2_with fail
    go_ret
    exact ⟨rfl, rfl⟩
  by_cases h1 : k = 1
  · subst h1
    go_enter Tryd.func107, Tryd.ntmps107
    go_wp2_with fail
    go_ret
    exact ⟨rfl, rfl⟩
  have a0 : (k == 0) = false := beq_eq_false_iff_ne.2 h0
  have a1 : (k == 1) = false := beq_eq_false_iff_ne.2 h1
  have b0 : decide (k = 0) = false := decide_eq_false h0
  have b1 : decide (k = 1) = false := decide_eq_false h1
  by_cases h2 : 18 ≤ k
  · have hd : decide (18 ≤ k) = true := decide_eq_true h2
    have hb : bs1 k = 1 := by unfold bs1; rw [if_pos (by omega)]
    rw [hb]
    clear hb
    go_enter Tryd.func107, Tryd.ntmps107
    go_wp2_with fail
    go_ret
    exact ⟨rfl, rfl⟩
  · have hd : decide (18 ≤ k) = false := decide_eq_false h2
    have hb : bs1 k = 0 := by unfold bs1; rw [if_neg (by omega)]
    rw [hb]
    clear hb
    go_enter Tryd.func107, Tryd.ntmps107
    go_wp2_with fail
    go_ret
    exact ⟨rfl, rfl⟩
/-- How many bytes numbers of a kind have; not above 0: there is no such number. -/
def fsz (k : Int) : Int := fs0 k - bs1 k
theorem fs0_range (k : Int) : 0 ≤ fs0 k ∧ fs0 k ≤ 16 := by
  unfold fs0
  cases h : fsE.find? (fun e => e.2.1 == k) with
  | none => simp
  | some e =>
    have h2 := List.mem_of_find?_eq_some h
    have h4 : (fsE.all fun e => decide (0 ≤ e.2.2) && decide (e.2.2 ≤ 16)) = true := by kernel_rfl
    have h5 := List.all_eq_true.1 h4 e h2
    simpa using h5
/-- What is told at each point of the region: L: which operations have come up. -/
def FzJ (w0 : World) (k x y : Int) (listed : Array Bool) (a : Act) (w : World) : Prop :=
  listed.size = 24 ∧ Ch No w0 w ∧ ∃ t2 t3 t4 t5 t6 t7 t8 t9 : Value, a = ⟨#[.int .i64 k, undef, t2, t3, t4, t5, t6, t7, t8, t9], []⟩ ∧
    (listed.getD 18 false = true → t5 = .int .i64 k) ∧ (listed.getD 20 false = true → t7 = .int .i64 k) ∧ (listed.getD 21 false = true → t8 = .int .i64 y) ∧ (listed.getD 19 false = true → t6 = .int .i64 x) ∧ (listed.getD 22 false = true → t9 = .int .i64 (x - y)) ∧ (listed.getD 23 false = true → t2 = .int .i64 (x - y)) ∧
    (listed.getD 17 false = true → listed.getD 0 false = true ∧ ∀ j, 1 ≤ j → j ≤ 16 → listed.getD j false = true) ∧
    (listed.getD 0 false = true → ∃ m, t3 = .map (some m) ∧ w0.heap.size ≤ m ∧ MapS w m (fun j => listed.getD j false) ∧ (listed.getD 17 false = true → t4 = .map (some m))) ∧
    (listed.getD 0 false = false → ∀ j, 1 ≤ j → j ≤ 16 → listed.getD j false = false)
end Go.Proofs.YtbdgkikipekmlaaDoor
namespace Go.Proofs.YtbdgkikipekmlaaDoor
set_option linter.unusedVariables false
set_option linter.unusedSimpArgs false
open Go.RowKit

section
variable {P : Program} {ops : Array Oper} {Q : Exit → Act → World → Prop} {md : Region.Mode} {listed : Array Bool}
def depB (md : Region.Mode) (ops : Array Oper) (i d : Nat) : Bool := match ops[i]? with
  | none => false
  | some o => o.after.any fun e => Region.binds md e && e.on == d
theorem ready_dep {i : Nat} (hi : i ∈ Region.ready md ops listed) (d : Nat) (h : depB md ops i d = true) : listed.getD d false = true := by
  obtain ⟨_, o, ho, hall⟩ := mem_ready.1 hi
  simp only [depB, ho] at h
  obtain ⟨e, he, hb⟩ := Array.any_eq_true'.1 h
  simp only [Bool.and_eq_true, beq_iff_eq] at hb
  have := hall e he hb.1
  rwa [hb.2] at this
theorem ready_un {i : Nat} (hi : i ∈ Region.ready md ops listed) : listed.getD i false = false := by
  have h := (mem_ready.1 hi).1
  rcases Nat.lt_or_ge i listed.size with h' | h'
  · simpa [h'] using h
  · simp [Array.getElem?_eq_none h']
theorem ready_lt {i : Nat} (hi : i ∈ Region.ready md ops listed) : i < ops.size := by
  obtain ⟨o, ho, _⟩ := (mem_ready.1 hi).2
  exact (Array.getElem?_eq_some_iff.1 ho).1
theorem ready_end (h : Region.ready md ops listed = []) (hs : listed.size = ops.size) (i : Nat) (hi : i < ops.size) (hd : ∀ d, depB md ops i d = true → listed.getD d false = true) : listed.getD i false = true := by
  cases hl : listed.getD i false with
  | true => rfl
  | false =>
    have : i ∈ Region.ready md ops listed := mem_ready.2 ⟨by simpa [hs, hi] using hl, ops[i], Array.getElem?_eq_getElem hi, fun e he hb => hd e.on (by
      simp only [depB, Array.getElem?_eq_getElem hi]
      exact Array.any_eq_true'.2 ⟨e, he, by simp [hb]⟩)⟩
    rw [h] at this
    cases this
variable {o : Oper} {a : Act} {w : World}
theorem MapS.of_nil {m : Nat} {L : Nat → Bool} (h : IMap .i64 w m []) (hL : ∀ j, 1 ≤ j → j ≤ 16 → L j = false) : MapS w m L := by
  obtain ⟨es, clk, h1, h2⟩ := h
  refine ⟨es, clk, h1, fun k => ?_⟩
  obtain ⟨r, h3, h4⟩ := h2 k
  refine ⟨r, h3, h4.trans ?_⟩
  unfold Cf
  cases h : fsE.find? (fun e => e.2.1 == k) with
  | none => rfl
  | some e =>
    have h2 := List.mem_of_find?_eq_some h
    have h4 : (fsE.all fun e => decide (1 ≤ e.1) && decide (e.1 ≤ 16)) = true := by kernel_rfl
    have h5 := List.all_eq_true.1 h4 e h2
    simp at h5
    simp [hL _ h5.1 h5.2, look]
theorem step_lookS {K : Act → World → Prop} {E : Prop} (hgd : o.guard = none) (t kt et : TypeId) (x kx : Operand) (ho : o.op = .lookup t x kx false) (ht : P.underlying t = some (.map kt et)) (hkt : P.underlying kt = some (.int .i64)) (hz : ∀ w : World, (zeroValue et).run P w = .ok (.int .i64 0) w)
    (m : Nat) (k : Int) (L : Nat → Bool) (hx : a.eval x = .map (some m)) (hk : a.eval kx = .int .i64 k) (hM : MapS w m L) (hL : ∀ j, 1 ≤ j → j ≤ 16 → L j = true)
    (h : K (a.put o.dst (.int .i64 (fs0 k))) w) : if Region.wanted o (yielded ops a.tmps) = true then Oper.wp P o a w K Q else E := by
  have hw : Region.wanted o (yielded ops a.tmps) = true := by simp [Region.wanted, hgd]
  rw [if_pos hw]
  obtain ⟨es, clk, hb, hf⟩ := hM
  obtain ⟨r, hr, hr2⟩ := hf k
  have hv := cf_all L hL k
  rw [← hr2] at hv
  have hrun : (Instr.lookup t (.map (some m)) (.int .i64 k) false).run P w = .ok (.int .i64 (fs0 k)) w := by
    cases r with
    | none =>
      simp only [Option.map_none, Option.getD_none] at hv
      simp [Instr.lookup, run_underlying ht, MapKept.run_getObj_map hb, MapKept.run_checkKey hkt (k := .int .i64 k) rfl, MapKept.run_findKey hkt hr, hz, Result.andThen]
      exact Value.int.inj hv |>.2
    | some y =>
      simp only [Option.map_some, Option.getD_some] at hv
      simp [Instr.lookup, run_underlying ht, MapKept.run_getObj_map hb, MapKept.run_checkKey hkt (k := .int .i64 k) rfl, MapKept.run_findKey hkt hr, Result.andThen]
      exact hv
  unfold Oper.wp execOp
  simp only [ho, hx, hk, Sem.run_bind, Sem.run_pure, hrun, Result.andThen_ok]
  exact h
end
theorem rep_getD (n j : Nat) : (Array.replicate n false).getD j false = false := by
  rcases Nat.lt_or_ge j n with h | h
  · simp [h]
  · simp [h]
set_option maxRecDepth 100000 in
set_option maxHeartbeats 4000000 in
theorem fixedSize_calls (k : Int) (w : World) : Calls Tryd.prog 102 #[.int .i64 k] w fun e w' => e = .returned (.int .i64 (fsz k)) ∧ Ch No w w' := by
  have hB : bs1 k = 0 ∨ bs1 k = 1 := by unfold bs1; split <;> simp
  obtain ⟨hx0, hx1⟩ := fs0_range k
  have HBS := hid (fun w => boolSize_calls k w)
  unfold fsz
  have HLK := hid (rfl : fs0 k = fs0 k)
  obtain ⟨x, hx⟩ : ∃ x, fs0 k = x := ⟨_, rfl⟩
  rw [hx] at hx0 hx1 ⊢
  have HX := hid hx
  clear hx HLK
  generalize bs1 k = y at HBS hB ⊢
  have hwr : IntKind.i64.wrap (x - y) = x - y := by simp [IntKind.wrap, IntKind.bits, IntKind.signed]; omega
  clear hB hx0 hx1
  go_enter Tryd.func102, Tryd.ntmps102
  go_wp2_with fail
  refine wp_region_any (by kernel_rfl) ?_
  refine wpAny_inv (J := FzJ w k x y) ?_ ?_ _ _ _ _ (Nat.le_trans List.countP_le_length (by rw [List.length_range]; exact Nat.le_refl _)) ?_
  · intro listed a wr i hJ hi
    obtain ⟨hs, hC, t2, t3, t4, t5, t6, t7, t8, t9, rfl, j18, j20, j21, j19, j22, j23, j17, j0, jn⟩ := hJ
    have hlt : i < 24 := ready_lt hi
    have hun := ready_un hi
    have hset := fun j => getD_set_is (listed := listed) (i := i) (by omega) j
    have hsz : (listed.setIfInBounds i true).size = 24 := by simpa using hs
    obtain rfl | rfl | rfl | rfl | rfl | rfl | rfl | rfl | rfl | rfl | rfl | rfl | rfl | rfl | rfl | rfl | rfl | rfl | rfl | rfl | rfl | rfl | rfl | rfl : i = 0 ∨ i = 1 ∨ i = 2 ∨ i = 3 ∨ i = 4 ∨ i = 5 ∨ i = 6 ∨ i = 7 ∨ i = 8 ∨ i = 9 ∨ i = 10 ∨ i = 11 ∨ i = 12 ∨ i = 13 ∨ i = 14 ∨ i = 15 ∨ i = 16 ∨ i = 17 ∨ i = 18 ∨ i = 19 ∨ i = 20 ∨ i = 21 ∨ i = 22 ∨ i = 23 := by omega
    · refine wpOp_step rfl (fun K hK => ?_)
      refine step_makeMap rfl 164 rfl .i64 ?_
      intro wm m hm HM HC
      refine hK _ _ ?_
      refine ⟨hsz, hC.no_no HC, t2, _, t4, t5, t6, t7, t8, t9, rfl, ?_, ?_, ?_, ?_, ?_, ?_, ?_, ?_, ?_⟩
      · intro h; first | rfl | (rw [hset 18] at h; exact j18 (by simpa using h))
      · intro h; first | rfl | (rw [hset 20] at h; exact j20 (by simpa using h))
      · intro h; first | rfl | (rw [hset 21] at h; exact j21 (by simpa using h))
      · intro h; first | rfl | (rw [hset 19] at h; exact j19 (by simpa using h))
      · intro h; first | rfl | (rw [hset 22] at h; exact j22 (by simpa using h))
      · intro h; first | rfl | (rw [hset 23] at h; exact j23 (by simpa using h))
      · intro h; rw [hset 17] at h; obtain ⟨h0, h1⟩ := j17 (by simpa using h); exact ⟨by rw [hset]; simp [h0], fun j h2 h3 => by rw [hset]; simp [h1 j h2 h3]⟩
      · intro _; exact ⟨m, rfl, hC.no_le hm, MapS.of_nil HM (fun j h2 h3 => by show (listed.setIfInBounds 0 true).getD j false = _; rw [hset]; have : ¬ j = 0 := (by omega); simp only [this, decide_false, Bool.false_or]; exact jn hun j h2 h3), fun h => by rw [hset 17] at h; have := (j17 (by simpa using h)).1; rw [hun] at this; cases this⟩
      · intro h; rw [hset 0] at h; simp at h
    · have d0 := ready_dep hi 0 (by kernel_rfl)
      obtain ⟨m, rfl, e2, e3, e4⟩ := j0 d0
      refine wpOp_step rfl (fun K hK => ?_)
      refine step_insertS (w0 := w) rfl rfl 164 3 3 _ _ _ rfl Tryd.underlying164 Tryd.underlying3 m 1 2 1 _ rfl rfl rfl e3 (by kernel_rfl) hun hC e2 ?_
      intro wm HM HC
      refine hK _ _ ?_
      refine ⟨hsz, HC, t2, _, t4, t5, t6, t7, t8, t9, rfl, ?_, ?_, ?_, ?_, ?_, ?_, ?_, ?_, ?_⟩
      · intro h; first | rfl | (rw [hset 18] at h; exact j18 (by simpa using h))
      · intro h; first | rfl | (rw [hset 20] at h; exact j20 (by simpa using h))
      · intro h; first | rfl | (rw [hset 21] at h; exact j21 (by simpa using h))
      · intro h; first | rfl | (rw [hset 19] at h; exact j19 (by simpa using h))
      · intro h; first | rfl | (rw [hset 22] at h; exact j22 (by simpa using h))
      · intro h; first | rfl | (rw [hset 23] at h; exact j23 (by simpa using h))
      · intro h; rw [hset 17] at h; obtain ⟨h0, h1⟩ := j17 (by simpa using h); exact ⟨by rw [hset]; simp [h0], fun j h2 h3 => by rw [hset]; simp [h1 j h2 h3]⟩
      · intro _; exact ⟨m, rfl, e2, HM.same (fun j h2 h3 => by show (listed.setIfInBounds 1 true).getD j false = _; rw [hset]), fun h => by rw [hset 17] at h; exact e4 (by simpa using h)⟩
      · intro h; rw [hset 0] at h; simp [d0] at h
    · have d0 := ready_dep hi 0 (by kernel_rfl)
      obtain ⟨m, rfl, e2, e3, e4⟩ := j0 d0
      refine wpOp_step rfl (fun K hK => ?_)
      refine step_insertS (w0 := w) rfl rfl 164 3 3 _ _ _ rfl Tryd.underlying164 Tryd.underlying3 m 2 6 1 _ rfl rfl rfl e3 (by kernel_rfl) hun hC e2 ?_
      intro wm HM HC
      refine hK _ _ ?_
      refine ⟨hsz, HC, t2, _, t4, t5, t6, t7, t8, t9, rfl, ?_, ?_, ?_, ?_, ?_, ?_, ?_, ?_, ?_⟩
      · intro h; first | rfl | (rw [hset 18] at h; exact j18 (by simpa using h))
      · intro h; first | rfl | (rw [hset 20] at h; exact j20 (by simpa using h))
      · intro h; first | rfl | (rw [hset 21] at h; exact j21 (by simpa using h))
      · intro h; first | rfl | (rw [hset 19] at h; exact j19 (by simpa using h))
      · intro h; first | rfl | (rw [hset 22] at h; exact j22 (by simpa using h))
      · intro h; first | rfl | (rw [hset 23] at h; exact j23 (by simpa using h))
      · intro h; rw [hset 17] at h; obtain ⟨h0, h1⟩ := j17 (by simpa using h); exact ⟨by rw [hset]; simp [h0], fun j h2 h3 => by rw [hset]; simp [h1 j h2 h3]⟩
      · intro _; exact ⟨m, rfl, e2, HM.same (fun j h2 h3 => by show (listed.setIfInBounds 2 true).getD j false = _; rw [hset]), fun h => by rw [hset 17] at h; exact e4 (by simpa using h)⟩
      · intro h; rw [hset 0] at h; simp [d0] at h
    · have d0 := ready_dep hi 0 (by kernel_rfl)
      obtain ⟨m, rfl, e2, e3, e4⟩ := j0 d0
      refine wpOp_step rfl (fun K hK => ?_)
      refine step_insertS (w0 := w) rfl rfl 164 3 3 _ _ _ rfl Tryd.underlying164 Tryd.underlying3 m 3 3 2 _ rfl rfl rfl e3 (by kernel_rfl) hun hC e2 ?_
      intro wm HM HC
      refine hK _ _ ?_
      refine ⟨hsz, HC, t2, _, t4, t5, t6, t7, t8, t9, rfl, ?_, ?_, ?_, ?_, ?_, ?_, ?_, ?_, ?_⟩
      · intro h; first | rfl | (rw [hset 18] at h; exact j18 (by simpa using h))
      · intro h; first | rfl | (rw [hset 20] at h; exact j20 (by simpa using h))
      · intro h; first | rfl | (rw [hset 21] at h; exact j21 (by simpa using h))
      · intro h; first | rfl | (rw [hset 19] at h; exact j19 (by simpa using h))
      · intro h; first | rfl | (rw [hset 22] at h; exact j22 (by simpa using h))
      · intro h; first | rfl | (rw [hset 23] at h; exact j23 (by simpa using h))
      · intro h; rw [hset 17] at h; obtain ⟨h0, h1⟩ := j17 (by simpa using h); exact ⟨by rw [hset]; simp [h0], fun j h2 h3 => by rw [hset]; simp [h1 j h2 h3]⟩
      · intro _; exact ⟨m, rfl, e2, HM.same (fun j h2 h3 => by show (listed.setIfInBounds 3 true).getD j false = _; rw [hset]), fun h => by rw [hset 17] at h; exact e4 (by simpa using h)⟩
      · intro h; rw [hset 0] at h; simp [d0] at h
    · have d0 := ready_dep hi 0 (by kernel_rfl)
      obtain ⟨m, rfl, e2, e3, e4⟩ := j0 d0
      refine wpOp_step rfl (fun K hK => ?_)
      refine step_insertS (w0 := w) rfl rfl 164 3 3 _ _ _ rfl Tryd.underlying164 Tryd.underlying3 m 4 7 2 _ rfl rfl rfl e3 (by kernel_rfl) hun hC e2 ?_
      intro wm HM HC
      refine hK _ _ ?_
      refine ⟨hsz, HC, t2, _, t4, t5, t6, t7, t8, t9, rfl, ?_, ?_, ?_, ?_, ?_, ?_, ?_, ?_, ?_⟩
      · intro h; first | rfl | (rw [hset 18] at h; exact j18 (by simpa using h))
      · intro h; first | rfl | (rw [hset 20] at h; exact j20 (by simpa using h))
      · intro h; first | rfl | (rw [hset 21] at h; exact j21 (by simpa using h))
      · intro h; first | rfl | (rw [hset 19] at h; exact j19 (by simpa using h))
      · intro h; first | rfl | (rw [hset 22] at h; exact j22 (by simpa using h))
      · intro h; first | rfl | (rw [hset 23] at h; exact j23 (by simpa using h))
      · intro h; rw [hset 17] at h; obtain ⟨h0, h1⟩ := j17 (by simpa using h); exact ⟨by rw [hset]; simp [h0], fun j h2 h3 => by rw [hset]; simp [h1 j h2 h3]⟩
      · intro _; exact ⟨m, rfl, e2, HM.same (fun j h2 h3 => by show (listed.setIfInBounds 4 true).getD j false = _; rw [hset]), fun h => by rw [hset 17] at h; exact e4 (by simpa using h)⟩
      · intro h; rw [hset 0] at h; simp [d0] at h
    · have d0 := ready_dep hi 0 (by kernel_rfl)
      obtain ⟨m, rfl, e2, e3, e4⟩ := j0 d0
      refine wpOp_step rfl (fun K hK => ?_)
      refine step_insertS (w0 := w) rfl rfl 164 3 3 _ _ _ rfl Tryd.underlying164 Tryd.underlying3 m 5 4 4 _ rfl rfl rfl e3 (by kernel_rfl) hun hC e2 ?_
      intro wm HM HC
      refine hK _ _ ?_
      refine ⟨hsz, HC, t2, _, t4, t5, t6, t7, t8, t9, rfl, ?_, ?_, ?_, ?_, ?_, ?_, ?_, ?_, ?_⟩
      · intro h; first | rfl | (rw [hset 18] at h; exact j18 (by simpa using h))
      · intro h; first | rfl | (rw [hset 20] at h; exact j20 (by simpa using h))
      · intro h; first | rfl | (rw [hset 21] at h; exact j21 (by simpa using h))
      · intro h; first | rfl | (rw [hset 19] at h; exact j19 (by simpa using h))
      · intro h; first | rfl | (rw [hset 22] at h; exact j22 (by simpa using h))
      · intro h; first | rfl | (rw [hset 23] at h; exact j23 (by simpa using h))
      · intro h; rw [hset 17] at h; obtain ⟨h0, h1⟩ := j17 (by simpa using h); exact ⟨by rw [hset]; simp [h0], fun j h2 h3 => by rw [hset]; simp [h1 j h2 h3]⟩
      · intro _; exact ⟨m, rfl, e2, HM.same (fun j h2 h3 => by show (listed.setIfInBounds 5 true).getD j false = _; rw [hset]), fun h => by rw [hset 17] at h; exact e4 (by simpa using h)⟩
      · intro h; rw [hset 0] at h; simp [d0] at h
    · have d0 := ready_dep hi 0 (by kernel_rfl)
      obtain ⟨m, rfl, e2, e3, e4⟩ := j0 d0
      refine wpOp_step rfl (fun K hK => ?_)
      refine step_insertS (w0 := w) rfl rfl 164 3 3 _ _ _ rfl Tryd.underlying164 Tryd.underlying3 m 6 8 4 _ rfl rfl rfl e3 (by kernel_rfl) hun hC e2 ?_
      intro wm HM HC
      refine hK _ _ ?_
      refine ⟨hsz, HC, t2, _, t4, t5, t6, t7, t8, t9, rfl, ?_, ?_, ?_, ?_, ?_, ?_, ?_, ?_, ?_⟩
      · intro h; first | rfl | (rw [hset 18] at h; exact j18 (by simpa using h))
      · intro h; first | rfl | (rw [hset 20] at h; exact j20 (by simpa using h))
      · intro h; first | rfl | (rw [hset 21] at h; exact j21 (by simpa using h))
      · intro h; first | rfl | (rw [hset 19] at h; exact j19 (by simpa using h))
      · intro h; first | rfl | (rw [hset 22] at h; exact j22 (by simpa using h))
      · intro h; first | rfl | (rw [hset 23] at h; exact j23 (by simpa using h))
      · intro h; rw [hset 17] at h; obtain ⟨h0, h1⟩ := j17 (by simpa using h); exact ⟨by rw [hset]; simp [h0], fun j h2 h3 => by rw [hset]; simp [h1 j h2 h3]⟩
      · intro _; exact ⟨m, rfl, e2, HM.same (fun j h2 h3 => by show (listed.setIfInBounds 6 true).getD j false = _; rw [hset]), fun h => by rw [hset 17] at h; exact e4 (by simpa using h)⟩
      · intro h; rw [hset 0] at h; simp [d0] at h
    · have d0 := ready_dep hi 0 (by kernel_rfl)
      obtain ⟨m, rfl, e2, e3, e4⟩ := j0 d0
      refine wpOp_step rfl (fun K hK => ?_)
      refine step_insertS (w0 := w) rfl rfl 164 3 3 _ _ _ rfl Tryd.underlying164 Tryd.underlying3 m 7 10 4 _ rfl rfl rfl e3 (by kernel_rfl) hun hC e2 ?_
      intro wm HM HC
      refine hK _ _ ?_
      refine ⟨hsz, HC, t2, _, t4, t5, t6, t7, t8, t9, rfl, ?_, ?_, ?_, ?_, ?_, ?_, ?_, ?_, ?_⟩
      · intro h; first | rfl | (rw [hset 18] at h; exact j18 (by simpa using h))
      · intro h; first | rfl | (rw [hset 20] at h; exact j20 (by simpa using h))
      · intro h; first | rfl | (rw [hset 21] at h; exact j21 (by simpa using h))
      · intro h; first | rfl | (rw [hset 19] at h; exact j19 (by simpa using h))
      · intro h; first | rfl | (rw [hset 22] at h; exact j22 (by simpa using h))
      · intro h; first | rfl | (rw [hset 23] at h; exact j23 (by simpa using h))
      · intro h; rw [hset 17] at h; obtain ⟨h0, h1⟩ := j17 (by simpa using h); exact ⟨by rw [hset]; simp [h0], fun j h2 h3 => by rw [hset]; simp [h1 j h2 h3]⟩
      · intro _; exact ⟨m, rfl, e2, HM.same (fun j h2 h3 => by show (listed.setIfInBounds 7 true).getD j false = _; rw [hset]), fun h => by rw [hset 17] at h; exact e4 (by simpa using h)⟩
      · intro h; rw [hset 0] at h; simp [d0] at h
    · have d0 := ready_dep hi 0 (by kernel_rfl)
      obtain ⟨m, rfl, e2, e3, e4⟩ := j0 d0
      refine wpOp_step rfl (fun K hK => ?_)
      refine step_insertS (w0 := w) rfl rfl 164 3 3 _ _ _ rfl Tryd.underlying164 Tryd.underlying3 m 8 12 4 _ rfl rfl rfl e3 (by kernel_rfl) hun hC e2 ?_
      intro wm HM HC
      refine hK _ _ ?_
      refine ⟨hsz, HC, t2, _, t4, t5, t6, t7, t8, t9, rfl, ?_, ?_, ?_, ?_, ?_, ?_, ?_, ?_, ?_⟩
      · intro h; first | rfl | (rw [hset 18] at h; exact j18 (by simpa using h))
      · intro h; first | rfl | (rw [hset 20] at h; exact j20 (by simpa using h))
      · intro h; first | rfl | (rw [hset 21] at h; exact j21 (by simpa using h))
      · intro h; first | rfl | (rw [hset 19] at h; exact j19 (by simpa using h))
      · intro h; first | rfl | (rw [hset 22] at h; exact j22 (by simpa using h))
      · intro h; first | rfl | (rw [hset 23] at h; exact j23 (by simpa using h))
      · intro h; rw [hset 17] at h; obtain ⟨h0, h1⟩ := j17 (by simpa using h); exact ⟨by rw [hset]; simp [h0], fun j h2 h3 => by rw [hset]; simp [h1 j h2 h3]⟩
      · intro _; exact ⟨m, rfl, e2, HM.same (fun j h2 h3 => by show (listed.setIfInBounds 8 true).getD j false = _; rw [hset]), fun h => by rw [hset 17] at h; exact e4 (by simpa using h)⟩
      · intro h; rw [hset 0] at h; simp [d0] at h
    · have d0 := ready_dep hi 0 (by kernel_rfl)
      obtain ⟨m, rfl, e2, e3, e4⟩ := j0 d0
      refine wpOp_step rfl (fun K hK => ?_)
      refine step_insertS (w0 := w) rfl rfl 164 3 3 _ _ _ rfl Tryd.underlying164 Tryd.underlying3 m 9 15 4 _ rfl rfl rfl e3 (by kernel_rfl) hun hC e2 ?_
      intro wm HM HC
      refine hK _ _ ?_
      refine ⟨hsz, HC, t2, _, t4, t5, t6, t7, t8, t9, rfl, ?_, ?_, ?_, ?_, ?_, ?_, ?_, ?_, ?_⟩
      · intro h; first | rfl | (rw [hset 18] at h; exact j18 (by simpa using h))
      · intro h; first | rfl | (rw [hset 20] at h; exact j20 (by simpa using h))
      · intro h; first | rfl | (rw [hset 21] at h; exact j21 (by simpa using h))
      · intro h; first | rfl | (rw [hset 19] at h; exact j19 (by simpa using h))
      · intro h; first | rfl | (rw [hset 22] at h; exact j22 (by simpa using h))
      · intro h; first | rfl | (rw [hset 23] at h; exact j23 (by simpa using h))
      · intro h; rw [hset 17] at h; obtain ⟨h0, h1⟩ := j17 (by simpa using h); exact ⟨by rw [hset]; simp [h0], fun j h2 h3 => by rw [hset]; simp [h1 j h2 h3]⟩
      · intro _; exact ⟨m, rfl, e2, HM.same (fun j h2 h3 => by show (listed.setIfInBounds 9 true).getD j false = _; rw [hset]), fun h => by rw [hset 17] at h; exact e4 (by simpa using h)⟩
      · intro h; rw [hset 0] at h; simp [d0] at h
    · have d0 := ready_dep hi 0 (by kernel_rfl)
      obtain ⟨m, rfl, e2, e3, e4⟩ := j0 d0
      refine wpOp_step rfl (fun K hK => ?_)
      refine step_insertS (w0 := w) rfl rfl 164 3 3 _ _ _ rfl Tryd.underlying164 Tryd.underlying3 m 10 5 8 _ rfl rfl rfl e3 (by kernel_rfl) hun hC e2 ?_
      intro wm HM HC
      refine hK _ _ ?_
      refine ⟨hsz, HC, t2, _, t4, t5, t6, t7, t8, t9, rfl, ?_, ?_, ?_, ?_, ?_, ?_, ?_, ?_, ?_⟩
      · intro h; first | rfl | (rw [hset 18] at h; exact j18 (by simpa using h))
      · intro h; first | rfl | (rw [hset 20] at h; exact j20 (by simpa using h))
      · intro h; first | rfl | (rw [hset 21] at h; exact j21 (by simpa using h))
      · intro h; first | rfl | (rw [hset 19] at h; exact j19 (by simpa using h))
      · intro h; first | rfl | (rw [hset 22] at h; exact j22 (by simpa using h))
      · intro h; first | rfl | (rw [hset 23] at h; exact j23 (by simpa using h))
      · intro h; rw [hset 17] at h; obtain ⟨h0, h1⟩ := j17 (by simpa using h); exact ⟨by rw [hset]; simp [h0], fun j h2 h3 => by rw [hset]; simp [h1 j h2 h3]⟩
      · intro _; exact ⟨m, rfl, e2, HM.same (fun j h2 h3 => by show (listed.setIfInBounds 10 true).getD j false = _; rw [hset]), fun h => by rw [hset 17] at h; exact e4 (by simpa using h)⟩
      · intro h; rw [hset 0] at h; simp [d0] at h
    · have d0 := ready_dep hi 0 (by kernel_rfl)
      obtain ⟨m, rfl, e2, e3, e4⟩ := j0 d0
      refine wpOp_step rfl (fun K hK => ?_)
      refine step_insertS (w0 := w) rfl rfl 164 3 3 _ _ _ rfl Tryd.underlying164 Tryd.underlying3 m 11 9 8 _ rfl rfl rfl e3 (by kernel_rfl) hun hC e2 ?_
      intro wm HM HC
      refine hK _ _ ?_
      refine ⟨hsz, HC, t2, _, t4, t5, t6, t7, t8, t9, rfl, ?_, ?_, ?_, ?_, ?_, ?_, ?_, ?_, ?_⟩
      · intro h; first | rfl | (rw [hset 18] at h; exact j18 (by simpa using h))
      · intro h; first | rfl | (rw [hset 20] at h; exact j20 (by simpa using h))
      · intro h; first | rfl | (rw [hset 21] at h; exact j21 (by simpa using h))
      · intro h; first | rfl | (rw [hset 19] at h; exact j19 (by simpa using h))
      · intro h; first | rfl | (rw [hset 22] at h; exact j22 (by simpa using h))
      · intro h; first | rfl | (rw [hset 23] at h; exact j23 (by simpa using h))
      · intro h; rw [hset 17] at h; obtain ⟨h0, h1⟩ := j17 (by simpa using h); exact ⟨by rw [hset]; simp [h0], fun j h2 h3 => by rw [hset]; simp [h1 j h2 h3]⟩
      · intro _; exact ⟨m, rfl, e2, HM.same (fun j h2 h3 => by show (listed.setIfInBounds 11 true).getD j false = _; rw [hset]), fun h => by rw [hset 17] at h; exact e4 (by simpa using h)⟩
      · intro h; rw [hset 0] at h; simp [d0] at h
    · have d0 := ready_dep hi 0 (by kernel_rfl)
      obtain ⟨m, rfl, e2, e3, e4⟩ := j0 d0
      refine wpOp_step rfl (fun K hK => ?_)
      refine step_insertS (w0 := w) rfl rfl 164 3 3 _ _ _ rfl Tryd.underlying164 Tryd.underlying3 m 12 11 8 _ rfl rfl rfl e3 (by kernel_rfl) hun hC e2 ?_
      intro wm HM HC
      refine hK _ _ ?_
      refine ⟨hsz, HC, t2, _, t4, t5, t6, t7, t8, t9, rfl, ?_, ?_, ?_, ?_, ?_, ?_, ?_, ?_, ?_⟩
      · intro h; first | rfl | (rw [hset 18] at h; exact j18 (by simpa using h))
      · intro h; first | rfl | (rw [hset 20] at h; exact j20 (by simpa using h))
      · intro h; first | rfl | (rw [hset 21] at h; exact j21 (by simpa using h))
      · intro h; first | rfl | (rw [hset 19] at h; exact j19 (by simpa using h))
      · intro h; first | rfl | (rw [hset 22] at h; exact j22 (by simpa using h))
      · intro h; first | rfl | (rw [hset 23] at h; exact j23 (by simpa using h))
      · intro h; rw [hset 17] at h; obtain ⟨h0, h1⟩ := j17 (by simpa using h); exact ⟨by rw [hset]; simp [h0], fun j h2 h3 => by rw [hset]; simp [h1 j h2 h3]⟩
      · intro _; exact ⟨m, rfl, e2, HM.same (fun j h2 h3 => by show (listed.setIfInBounds 12 true).getD j false = _; rw [hset]), fun h => by rw [hset 17] at h; exact e4 (by simpa using h)⟩
      · intro h; rw [hset 0] at h; simp [d0] at h
    · have d0 := ready_dep hi 0 (by kernel_rfl)
      obtain ⟨m, rfl, e2, e3, e4⟩ := j0 d0
      refine wpOp_step rfl (fun K hK => ?_)
      refine step_insertS (w0 := w) rfl rfl 164 3 3 _ _ _ rfl Tryd.underlying164 Tryd.underlying3 m 13 13 8 _ rfl rfl rfl e3 (by kernel_rfl) hun hC e2 ?_
      intro wm HM HC
      refine hK _ _ ?_
      refine ⟨hsz, HC, t2, _, t4, t5, t6, t7, t8, t9, rfl, ?_, ?_, ?_, ?_, ?_, ?_, ?_, ?_, ?_⟩
      · intro h; first | rfl | (rw [hset 18] at h; exact j18 (by simpa using h))
      · intro h; first | rfl | (rw [hset 20] at h; exact j20 (by simpa using h))
      · intro h; first | rfl | (rw [hset 21] at h; exact j21 (by simpa using h))
      · intro h; first | rfl | (rw [hset 19] at h; exact j19 (by simpa using h))
      · intro h; first | rfl | (rw [hset 22] at h; exact j22 (by simpa using h))
      · intro h; first | rfl | (rw [hset 23] at h; exact j23 (by simpa using h))
      · intro h; rw [hset 17] at h; obtain ⟨h0, h1⟩ := j17 (by simpa using h); exact ⟨by rw [hset]; simp [h0], fun j h2 h3 => by rw [hset]; simp [h1 j h2 h3]⟩
      · intro _; exact ⟨m, rfl, e2, HM.same (fun j h2 h3 => by show (listed.setIfInBounds 13 true).getD j false = _; rw [hset]), fun h => by rw [hset 17] at h; exact e4 (by simpa using h)⟩
      · intro h; rw [hset 0] at h; simp [d0] at h
    · have d0 := ready_dep hi 0 (by kernel_rfl)
      obtain ⟨m, rfl, e2, e3, e4⟩ := j0 d0
      refine wpOp_step rfl (fun K hK => ?_)
      refine step_insertS (w0 := w) rfl rfl 164 3 3 _ _ _ rfl Tryd.underlying164 Tryd.underlying3 m 14 16 8 _ rfl rfl rfl e3 (by kernel_rfl) hun hC e2 ?_
      intro wm HM HC
      refine hK _ _ ?_
      refine ⟨hsz, HC, t2, _, t4, t5, t6, t7, t8, t9, rfl, ?_, ?_, ?_, ?_, ?_, ?_, ?_, ?_, ?_⟩
      · intro h; first | rfl | (rw [hset 18] at h; exact j18 (by simpa using h))
      · intro h; first | rfl | (rw [hset 20] at h; exact j20 (by simpa using h))
      · intro h; first | rfl | (rw [hset 21] at h; exact j21 (by simpa using h))
      · intro h; first | rfl | (rw [hset 19] at h; exact j19 (by simpa using h))
      · intro h; first | rfl | (rw [hset 22] at h; exact j22 (by simpa using h))
      · intro h; first | rfl | (rw [hset 23] at h; exact j23 (by simpa using h))
      · intro h; rw [hset 17] at h; obtain ⟨h0, h1⟩ := j17 (by simpa using h); exact ⟨by rw [hset]; simp [h0], fun j h2 h3 => by rw [hset]; simp [h1 j h2 h3]⟩
      · intro _; exact ⟨m, rfl, e2, HM.same (fun j h2 h3 => by show (listed.setIfInBounds 14 true).getD j false = _; rw [hset]), fun h => by rw [hset 17] at h; exact e4 (by simpa using h)⟩
      · intro h; rw [hset 0] at h; simp [d0] at h
    · have d0 := ready_dep hi 0 (by kernel_rfl)
      obtain ⟨m, rfl, e2, e3, e4⟩ := j0 d0
      refine wpOp_step rfl (fun K hK => ?_)
      refine step_insertS (w0 := w) rfl rfl 164 3 3 _ _ _ rfl Tryd.underlying164 Tryd.underlying3 m 15 14 16 _ rfl rfl rfl e3 (by kernel_rfl) hun hC e2 ?_
      intro wm HM HC
      refine hK _ _ ?_
      refine ⟨hsz, HC, t2, _, t4, t5, t6, t7, t8, t9, rfl, ?_, ?_, ?_, ?_, ?_, ?_, ?_, ?_, ?_⟩
      · intro h; first | rfl | (rw [hset 18] at h; exact j18 (by simpa using h))
      · intro h; first | rfl | (rw [hset 20] at h; exact j20 (by simpa using h))
      · intro h; first | rfl | (rw [hset 21] at h; exact j21 (by simpa using h))
      · intro h; first | rfl | (rw [hset 19] at h; exact j19 (by simpa using h))
      · intro h; first | rfl | (rw [hset 22] at h; exact j22 (by simpa using h))
      · intro h; first | rfl | (rw [hset 23] at h; exact j23 (by simpa using h))
      · intro h; rw [hset 17] at h; obtain ⟨h0, h1⟩ := j17 (by simpa using h); exact ⟨by rw [hset]; simp [h0], fun j h2 h3 => by rw [hset]; simp [h1 j h2 h3]⟩
      · intro _; exact ⟨m, rfl, e2, HM.same (fun j h2 h3 => by show (listed.setIfInBounds 15 true).getD j false = _; rw [hset]), fun h => by rw [hset 17] at h; exact e4 (by simpa using h)⟩
      · intro h; rw [hset 0] at h; simp [d0] at h
    · have d0 := ready_dep hi 0 (by kernel_rfl)
      obtain ⟨m, rfl, e2, e3, e4⟩ := j0 d0
      refine wpOp_step rfl (fun K hK => ?_)
      refine step_insertS (w0 := w) rfl rfl 164 3 3 _ _ _ rfl Tryd.underlying164 Tryd.underlying3 m 16 17 16 _ rfl rfl rfl e3 (by kernel_rfl) hun hC e2 ?_
      intro wm HM HC
      refine hK _ _ ?_
      refine ⟨hsz, HC, t2, _, t4, t5, t6, t7, t8, t9, rfl, ?_, ?_, ?_, ?_, ?_, ?_, ?_, ?_, ?_⟩
      · intro h; first | rfl | (rw [hset 18] at h; exact j18 (by simpa using h))
      · intro h; first | rfl | (rw [hset 20] at h; exact j20 (by simpa using h))
      · intro h; first | rfl | (rw [hset 21] at h; exact j21 (by simpa using h))
      · intro h; first | rfl | (rw [hset 19] at h; exact j19 (by simpa using h))
      · intro h; first | rfl | (rw [hset 22] at h; exact j22 (by simpa using h))
      · intro h; first | rfl | (rw [hset 23] at h; exact j23 (by simpa using h))
      · intro h; rw [hset 17] at h; obtain ⟨h0, h1⟩ := j17 (by simpa using h); exact ⟨by rw [hset]; simp [h0], fun j h2 h3 => by rw [hset]; simp [h1 j h2 h3]⟩
      · intro _; exact ⟨m, rfl, e2, HM.same (fun j h2 h3 => by show (listed.setIfInBounds 16 true).getD j false = _; rw [hset]), fun h => by rw [hset 17] at h; exact e4 (by simpa using h)⟩
      · intro h; rw [hset 0] at h; simp [d0] at h
    · have d0 := ready_dep hi 0 (by kernel_rfl)
      have da : ∀ j, 1 ≤ j → j ≤ 16 → listed.getD j false = true := fun j h1 h2 => by
        obtain rfl | rfl | rfl | rfl | rfl | rfl | rfl | rfl | rfl | rfl | rfl | rfl | rfl | rfl | rfl | rfl : j = 1 ∨ j = 2 ∨ j = 3 ∨ j = 4 ∨ j = 5 ∨ j = 6 ∨ j = 7 ∨ j = 8 ∨ j = 9 ∨ j = 10 ∨ j = 11 ∨ j = 12 ∨ j = 13 ∨ j = 14 ∨ j = 15 ∨ j = 16 := by omega
        all_goals exact ready_dep hi _ (by kernel_rfl)
      obtain ⟨m, rfl, e2, e3, e4⟩ := j0 d0
      refine wpOp_step rfl (fun K hK => ?_)
      go_simp
      refine hK _ _ ?_
      refine ⟨hsz, hC, t2, _, _, t5, t6, t7, t8, t9, rfl, ?_, ?_, ?_, ?_, ?_, ?_, ?_, ?_, ?_⟩
      · intro h; first | rfl | (rw [hset 18] at h; exact j18 (by simpa using h))
      · intro h; first | rfl | (rw [hset 20] at h; exact j20 (by simpa using h))
      · intro h; first | rfl | (rw [hset 21] at h; exact j21 (by simpa using h))
      · intro h; first | rfl | (rw [hset 19] at h; exact j19 (by simpa using h))
      · intro h; first | rfl | (rw [hset 22] at h; exact j22 (by simpa using h))
      · intro h; first | rfl | (rw [hset 23] at h; exact j23 (by simpa using h))
      · intro _; exact ⟨by rw [hset]; simp [d0], fun j h2 h3 => by rw [hset]; simp [da j h2 h3]⟩
      · intro _; exact ⟨m, rfl, e2, e3.same (fun j h2 h3 => by show (listed.setIfInBounds 17 true).getD j false = _; rw [hset]; have : ¬ j = 17 := (by omega); simp [this]), fun _ => rfl⟩
      · intro h; rw [hset 0] at h; simp [d0] at h
    · refine wpOp_step rfl (fun K hK => ?_)
      go_simp
      refine hK _ _ ?_
      refine ⟨hsz, hC, t2, t3, t4, _, t6, t7, t8, t9, rfl, ?_, ?_, ?_, ?_, ?_, ?_, ?_, ?_, ?_⟩
      · intro _; rfl
      · intro h; first | rfl | (rw [hset 20] at h; exact j20 (by simpa using h))
      · intro h; first | rfl | (rw [hset 21] at h; exact j21 (by simpa using h))
      · intro h; first | rfl | (rw [hset 19] at h; exact j19 (by simpa using h))
      · intro h; first | rfl | (rw [hset 22] at h; exact j22 (by simpa using h))
      · intro h; first | rfl | (rw [hset 23] at h; exact j23 (by simpa using h))
      · intro h; rw [hset 17] at h; obtain ⟨h0, h1⟩ := j17 (by simpa using h); exact ⟨by rw [hset]; simp [h0], fun j h2 h3 => by rw [hset]; simp [h1 j h2 h3]⟩
      · intro h; rw [hset 0] at h; obtain ⟨m, e1, e2, e3, e4⟩ := j0 (by simpa using h); exact ⟨m, e1, e2, e3.same (fun j h2 h3 => by show (listed.setIfInBounds 18 true).getD j false = _; rw [hset]; have : ¬ j = 18 := (by omega); simp [this]), fun h => by rw [hset 17] at h; exact e4 (by simpa using h)⟩
      · intro h; rw [hset 0] at h; intro j h2 h3; rw [hset]; have : ¬ j = 18 := (by omega); simp only [this, decide_false, Bool.false_or]; exact jn (by simpa using h) j h2 h3
    · have d17 := ready_dep hi 17 (by kernel_rfl)
      have d18 := ready_dep hi 18 (by kernel_rfl)
      obtain ⟨d0, da⟩ := j17 d17
      obtain ⟨m, rfl, e2, e3, e4⟩ := j0 d0
      obtain rfl := e4 d17
      obtain rfl := j18 d18
      refine wpOp_step rfl (fun K hK => ?_)
      refine step_lookS rfl 164 3 3 _ _ rfl Tryd.underlying164 Tryd.underlying3 zero_int m k _ rfl rfl e3 da ?_
      rw [HX.out]
      refine hK _ _ ?_
      refine ⟨hsz, hC, t2, _, _, _, _, t7, t8, t9, rfl, ?_, ?_, ?_, ?_, ?_, ?_, ?_, ?_, ?_⟩
      · intro h; first | rfl | (rw [hset 18] at h; exact j18 (by simpa using h))
      · intro h; first | rfl | (rw [hset 20] at h; exact j20 (by simpa using h))
      · intro h; first | rfl | (rw [hset 21] at h; exact j21 (by simpa using h))
      · intro _; rfl
      · intro h; first | rfl | (rw [hset 22] at h; exact j22 (by simpa using h))
      · intro h; first | rfl | (rw [hset 23] at h; exact j23 (by simpa using h))
      · intro h; rw [hset 17] at h; obtain ⟨h0, h1⟩ := j17 (by simpa using h); exact ⟨by rw [hset]; simp [h0], fun j h2 h3 => by rw [hset]; simp [h1 j h2 h3]⟩
      · intro _; exact ⟨m, rfl, e2, e3.same (fun j h2 h3 => by show (listed.setIfInBounds 19 true).getD j false = _; rw [hset]; have : ¬ j = 19 := (by omega); simp [this]), fun _ => rfl⟩
      · intro h; rw [hset 0] at h; intro j h2 h3; rw [hset]; have : ¬ j = 19 := (by omega); simp only [this, decide_false, Bool.false_or]; exact jn (by simpa using h) j h2 h3
    · refine wpOp_step rfl (fun K hK => ?_)
      go_simp
      refine hK _ _ ?_
      refine ⟨hsz, hC, t2, t3, t4, t5, t6, _, t8, t9, rfl, ?_, ?_, ?_, ?_, ?_, ?_, ?_, ?_, ?_⟩
      · intro h; first | rfl | (rw [hset 18] at h; exact j18 (by simpa using h))
      · intro _; rfl
      · intro h; first | rfl | (rw [hset 21] at h; exact j21 (by simpa using h))
      · intro h; first | rfl | (rw [hset 19] at h; exact j19 (by simpa using h))
      · intro h; first | rfl | (rw [hset 22] at h; exact j22 (by simpa using h))
      · intro h; first | rfl | (rw [hset 23] at h; exact j23 (by simpa using h))
      · intro h; rw [hset 17] at h; obtain ⟨h0, h1⟩ := j17 (by simpa using h); exact ⟨by rw [hset]; simp [h0], fun j h2 h3 => by rw [hset]; simp [h1 j h2 h3]⟩
      · intro h; rw [hset 0] at h; obtain ⟨m, e1, e2, e3, e4⟩ := j0 (by simpa using h); exact ⟨m, e1, e2, e3.same (fun j h2 h3 => by show (listed.setIfInBounds 20 true).getD j false = _; rw [hset]; have : ¬ j = 20 := (by omega); simp [this]), fun h => by rw [hset 17] at h; exact e4 (by simpa using h)⟩
      · intro h; rw [hset 0] at h; intro j h2 h3; rw [hset]; have : ¬ j = 20 := (by omega); simp only [this, decide_false, Bool.false_or]; exact jn (by simpa using h) j h2 h3
    · obtain rfl := j20 (ready_dep hi 20 (by kernel_rfl))
      refine wpOp_step rfl (fun K hK => ?_)
      go_simp
      go_at_call 107
      refine (HBS.out _).mono ?_
      rintro e w9 ⟨rfl, rfl⟩
      try go_simp
      refine hK _ _ ?_
      refine ⟨hsz, hC, t2, t3, t4, t5, t6, _, _, t9, rfl, ?_, ?_, ?_, ?_, ?_, ?_, ?_, ?_, ?_⟩
      · intro h; first | rfl | (rw [hset 18] at h; exact j18 (by simpa using h))
      · intro h; first | rfl | (rw [hset 20] at h; exact j20 (by simpa using h))
      · intro _; rfl
      · intro h; first | rfl | (rw [hset 19] at h; exact j19 (by simpa using h))
      · intro h; first | rfl | (rw [hset 22] at h; exact j22 (by simpa using h))
      · intro h; first | rfl | (rw [hset 23] at h; exact j23 (by simpa using h))
      · intro h; rw [hset 17] at h; obtain ⟨h0, h1⟩ := j17 (by simpa using h); exact ⟨by rw [hset]; simp [h0], fun j h2 h3 => by rw [hset]; simp [h1 j h2 h3]⟩
      · intro h; rw [hset 0] at h; obtain ⟨m, e1, e2, e3, e4⟩ := j0 (by simpa using h); exact ⟨m, e1, e2, e3.same (fun j h2 h3 => by show (listed.setIfInBounds 21 true).getD j false = _; rw [hset]; have : ¬ j = 21 := (by omega); simp [this]), fun h => by rw [hset 17] at h; exact e4 (by simpa using h)⟩
      · intro h; rw [hset 0] at h; intro j h2 h3; rw [hset]; have : ¬ j = 21 := (by omega); simp only [this, decide_false, Bool.false_or]; exact jn (by simpa using h) j h2 h3
    · obtain rfl := j19 (ready_dep hi 19 (by kernel_rfl))
      obtain rfl := j21 (ready_dep hi 21 (by kernel_rfl))
      refine wpOp_step rfl (fun K hK => ?_)
      go_simp
      refine hK _ _ ?_
      refine ⟨hsz, hC, t2, t3, t4, t5, _, t7, _, _, rfl, ?_, ?_, ?_, ?_, ?_, ?_, ?_, ?_, ?_⟩
      · intro h; first | rfl | (rw [hset 18] at h; exact j18 (by simpa using h))
      · intro h; first | rfl | (rw [hset 20] at h; exact j20 (by simpa using h))
      · intro h; first | rfl | (rw [hset 21] at h; exact j21 (by simpa using h))
      · intro h; first | rfl | (rw [hset 19] at h; exact j19 (by simpa using h))
      · intro _; first | rfl | (rw [hwr])
      · intro h; first | rfl | (rw [hset 23] at h; exact j23 (by simpa using h))
      · intro h; rw [hset 17] at h; obtain ⟨h0, h1⟩ := j17 (by simpa using h); exact ⟨by rw [hset]; simp [h0], fun j h2 h3 => by rw [hset]; simp [h1 j h2 h3]⟩
      · intro h; rw [hset 0] at h; obtain ⟨m, e1, e2, e3, e4⟩ := j0 (by simpa using h); exact ⟨m, e1, e2, e3.same (fun j h2 h3 => by show (listed.setIfInBounds 22 true).getD j false = _; rw [hset]; have : ¬ j = 22 := (by omega); simp [this]), fun h => by rw [hset 17] at h; exact e4 (by simpa using h)⟩
      · intro h; rw [hset 0] at h; intro j h2 h3; rw [hset]; have : ¬ j = 22 := (by omega); simp only [this, decide_false, Bool.false_or]; exact jn (by simpa using h) j h2 h3
    · obtain rfl := j22 (ready_dep hi 22 (by kernel_rfl))
      refine wpOp_step rfl (fun K hK => ?_)
      go_simp
      refine hK _ _ ?_
      refine ⟨hsz, hC, _, t3, t4, t5, t6, t7, t8, _, rfl, ?_, ?_, ?_, ?_, ?_, ?_, ?_, ?_, ?_⟩
      · intro h; first | rfl | (rw [hset 18] at h; exact j18 (by simpa using h))
      · intro h; first | rfl | (rw [hset 20] at h; exact j20 (by simpa using h))
      · intro h; first | rfl | (rw [hset 21] at h; exact j21 (by simpa using h))
      · intro h; first | rfl | (rw [hset 19] at h; exact j19 (by simpa using h))
      · intro h; first | rfl | (rw [hset 22] at h; exact j22 (by simpa using h))
      · intro _; rfl
      · intro h; rw [hset 17] at h; obtain ⟨h0, h1⟩ := j17 (by simpa using h); exact ⟨by rw [hset]; simp [h0], fun j h2 h3 => by rw [hset]; simp [h1 j h2 h3]⟩
      · intro h; rw [hset 0] at h; obtain ⟨m, e1, e2, e3, e4⟩ := j0 (by simpa using h); exact ⟨m, e1, e2, e3.same (fun j h2 h3 => by show (listed.setIfInBounds 23 true).getD j false = _; rw [hset]; have : ¬ j = 23 := (by omega); simp [this]), fun h => by rw [hset 17] at h; exact e4 (by simpa using h)⟩
      · intro h; rw [hset 0] at h; intro j h2 h3; rw [hset]; have : ¬ j = 23 := (by omega); simp only [this, decide_false, Bool.false_or]; exact jn (by simpa using h) j h2 h3

  · intro listed a wr hJ hr
    obtain ⟨hs, hC, t2, t3, t4, t5, t6, t7, t8, t9, rfl, j18, j20, j21, j19, j22, j23, j17, j0, jn⟩ := hJ
    have hE := fun i h1 h2 => ready_end (listed := listed) hr hs i h1 h2
    have h0 : listed.getD 0 false = true := hE 0 (by decide) (fun d h => by simp [depB, Region.binds] at h)
    have hi : ∀ j, 1 ≤ j → j ≤ 16 → listed.getD j false = true := fun j h1 h2 => by
      obtain rfl | rfl | rfl | rfl | rfl | rfl | rfl | rfl | rfl | rfl | rfl | rfl | rfl | rfl | rfl | rfl : j = 1 ∨ j = 2 ∨ j = 3 ∨ j = 4 ∨ j = 5 ∨ j = 6 ∨ j = 7 ∨ j = 8 ∨ j = 9 ∨ j = 10 ∨ j = 11 ∨ j = 12 ∨ j = 13 ∨ j = 14 ∨ j = 15 ∨ j = 16 := by omega
      all_goals exact hE _ (by decide) (fun d h => by simp [depB, Region.binds] at h; subst h; exact h0)
    have h18 : listed.getD 18 false = true := hE 18 (by decide) (fun d h => by simp [depB, Region.binds] at h)
    have h20 : listed.getD 20 false = true := hE 20 (by decide) (fun d h => by simp [depB, Region.binds] at h)
    have h17 : listed.getD 17 false = true := hE 17 (by decide) (fun d h => by
      simp [depB, Region.binds] at h
      by_cases hd : d = 0
      · subst hd; exact h0
      · exact hi d (by omega) (by omega))
    have h19 : listed.getD 19 false = true := hE 19 (by decide) (fun d h => by simp [depB, Region.binds] at h; rcases h with h | h <;> (subst h; assumption))
    have h21 : listed.getD 21 false = true := hE 21 (by decide) (fun d h => by simp [depB, Region.binds] at h; subst h; exact h20)
    have h22 : listed.getD 22 false = true := hE 22 (by decide) (fun d h => by simp [depB, Region.binds] at h; rcases h with h | h <;> (subst h; assumption))
    have h23 : listed.getD 23 false = true := hE 23 (by decide) (fun d h => by
      simp [depB, Region.binds] at h
      by_cases hd : d = 0
      · subst hd; exact h0
      · by_cases hd2 : d ≤ 16
        · exact hi d (by omega) hd2
        · obtain rfl | rfl | rfl | rfl | rfl | rfl : d = 17 ∨ d = 18 ∨ d = 19 ∨ d = 20 ∨ d = 21 ∨ d = 22 := by omega
          all_goals assumption)
    obtain rfl := j23 h23
    go_wp2
    go_ret
    exact ⟨rfl, hC⟩
  · have no : ∀ (j : Nat) {p : Prop}, (Array.replicate 24 false).getD j false = true → p := fun j _ h => by rw [rep_getD] at h; cases h
    exact ⟨by simp, (Ch.refl No w).drew, _, _, _, _, _, _, _, _, rfl, no 18, no 20, no 21, no 19, no 22, no 23, no 17, no 0, fun _ j _ _ => rep_getD _ _⟩
end Go.Proofs.YtbdgkikipekmlaaDoor
