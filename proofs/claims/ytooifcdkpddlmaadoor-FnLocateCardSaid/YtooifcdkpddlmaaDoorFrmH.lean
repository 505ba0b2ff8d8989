/- The walks of the reference's writer of heads: a code and a number behind it. No condition. -/
import Derived.Test.YtooifcdkpddlmaaDoorFrm
import Derived.Deep.RegionLaw
namespace Go.Proofs.YtooifcdkpddlmaaDoor
set_option linter.unusedVariables false
set_option linter.unusedSimpArgs false
open Go.RowKit

theorem Ow.lit2 (e : TypeId) {α : Type} (f : α → Value) (w : World) (o : Obj) (l : List α) (hl : l.length ≤ maxLen) : Ow e f ((w.alloc o).alloc (.cells (l.map f).toArray e)) (.slice (some ⟨w.heap.size + 1, 0, none⟩) l.length l.length) l := by
  have h := Ow.lit e f (w.alloc o) l hl
  rwa [World.size_alloc] at h
def BTo (w : World) (l : List Int) (e : Ending) (w' : World) : Prop := ∃ v, e = .returned v ∧ Ow 5 u8 w' v l ∧ Fr w v ∧ Ch No w w'
set_option maxRecDepth 100000 in
set_option maxHeartbeats 2000000 in
theorem headed_calls (c u : Int) (s : Nat) (w : World) (hs0 : 0 < s) (hs : s ≤ 8) (h0 : 0 ≤ u) (h1 : u < 18446744073709551616) (hc0 : 0 ≤ c) (hc1 : c < 256) :
    Calls Tryd.prog 35 #[.agg #[.int .i64 c, .int .i64 s], .int .u64 u] w (BTo w (c :: bg u s)) := by
  have HB := Row.alloc w [.int .i64 c, .int .i64 s] 62
  have hbl := bg_len u s
  have HBL := hid hbl
  clear hbl
  go_enter Tryd.func35, Tryd.ntmps35
  go_wp2_with fail
  go_region_law (first | (refine step_append rfl _ _ 24 5 (.int .u8 0) 1 rfl Tryd.underlying24 info_u8 rfl (by decide) u8 (fun _ => rfl) _ [IntKind.u8.wrap c] (bg u s) _ _ _ rfl rfl rfl (by first | exact Ow.lit 5 u8 w1 [IntKind.u8.wrap c] (by simp [maxLen]) | exact ((Ow.lit2 5 u8 w (.cells #[.int .i64 c, .int .i64 s] 62) [IntKind.u8.wrap c] (by simp [maxLen])).keep0 (Ch.refl _ _).drew).keep0 hch1) (by first | exact ho1.rd | exact ho1.rd.keep0 ((Ch.refl No w1).alloc _)) (by have := HBL.out; simp; omega) ?_; intro v2 w2 ho2 hch2 hat2) | (go_simp; go_at_call 44; refine (big_calls u s _ hs0 hs h0 h1).mono ?_; rintro e w1 ⟨v1, rfl, ho1, hf1, hch1⟩; obtain ⟨A1, c1, rfl, hle1, _⟩ := ho1.slice; have d0 := hch1.cell0 (show World.cell? _ ⟨w.heap.size, 0, none⟩ = some (.int .i64 c) from by first | exact HB.cell 0 _ rfl | exact (HB.keep0 ((Ch.refl No _).alloc _)).cell 0 _ rfl); have d1 := hch1.cell0 (show World.cell? _ ⟨w.heap.size, 1, none⟩ = some (.int .i64 s) from by first | exact HB.cell 1 _ rfl | exact (HB.keep0 ((Ch.refl No _).alloc _)).cell 1 _ rfl)))

  all_goals
    go_wp2
    go_ret
    have hwc : IntKind.u8.wrap c = c := by simp [IntKind.wrap, IntKind.bits, IntKind.signed]; omega
    rw [hwc] at ho2
    first
    | (have C1 : Ch No w w1 := ((((Ch.refl No w).alloc _).alloc _).drew).no_no hch1
       have hF : Fr w (.slice (some ⟨w.heap.size + 1, 0, none⟩) 1 1) := Fr.mk' (by omega)
       exact ⟨v2, rfl, ho2, hF.step C1.size hat2, C1.fresh hch2 hF⟩)
    | (have C1 : Ch No w w1 := (((Ch.refl No w).alloc _).drew).no_no hch1
       have hF : Fr w (.slice (some ⟨w1.heap.size, 0, none⟩) 1 1) := Fr.mk' C1.size
       have hs := (C1.alloc (.cells #[u8 (IntKind.u8.wrap c)] 5)).size
       exact ⟨v2, rfl, ho2, hF.step hs hat2, (C1.alloc _).fresh hch2 hF⟩)
theorem or_head (fixed n : Int) (h : (fixed = 128 ∧ 0 ≤ n ∧ n < 16) ∨ (fixed = 144 ∧ 0 ≤ n ∧ n < 16) ∨ (fixed = 160 ∧ 0 ≤ n ∧ n < 32)) : bits .or .i64 fixed n = fixed + n := by
  have h1 : ∀ k : Fin 16, bits .or .i64 128 (k.val : Int) = 128 + (k.val : Int) := by decide +kernel
  have h2 : ∀ k : Fin 16, bits .or .i64 144 (k.val : Int) = 144 + (k.val : Int) := by decide +kernel
  have h3 : ∀ k : Fin 32, bits .or .i64 160 (k.val : Int) = 160 + (k.val : Int) := by decide +kernel
  rcases h with ⟨rfl, a, b⟩ | ⟨rfl, a, b⟩ | ⟨rfl, a, b⟩
  · have := h1 ⟨n.toNat, by omega⟩
    rwa [show ((n.toNat : Nat) : Int) = n by omega] at this
  · have := h2 ⟨n.toNat, by omega⟩
    rwa [show ((n.toNat : Nat) : Int) = n by omega] at this
  · have := h3 ⟨n.toNat, by omega⟩
    rwa [show ((n.toNat : Nat) : Int) = n by omega] at this
/-- The heads of n: fixed with n in it, or one of the forms that hold n. -/
def HdB (fixed under : Int) (fs : List (Int × Nat)) (n : Int) (d : List Int) : Prop :=
  (0 ≤ fixed ∧ n < under ∧ d = [fixed + n]) ∨ ∃ f ∈ fs, okf n f = true ∧ d = f.1 :: bg n f.2
def HdTo (pf : Nat) (fixed under : Int) (fs : List (Int × Nat)) (n : Int) (w : World) (e : Ending) (w' : World) : Prop :=
  ∃ v d, e = .returned v ∧ HdB fixed under fs n d ∧ Ow 5 u8 w' v d ∧ Fr w v ∧ Fm w' pf ∧ Ch (fun b => b = pf) w w'
set_option maxRecDepth 100000 in
set_option maxHeartbeats 2000000 in
theorem putHead_calls (pf : Nat) (n fixed under : Int) (A : Option Addr) (c : Nat) (fs : List (Int × Nat)) (w : World) (hF : Fm w pf) (hr : RdK fmc w A fs) (hA : ∀ ad, A = some ad → ad.block ≠ pf) (hl : fs.length ≤ 100) (hs : ∀ f ∈ fs, f.2 = 1 ∨ f.2 = 2 ∨ f.2 = 4 ∨ f.2 = 8) (hcd : ∀ f ∈ fs, 0 ≤ f.1 ∧ f.1 < 256)
    (h0 : 0 ≤ n) (h1 : n < 4294967296) (hne : ∃ f ∈ fs, okf n f = true) (hfx : (fixed = -1) ∨ (fixed = 128 ∧ under = 16) ∨ (fixed = 144 ∧ under = 16) ∨ (fixed = 160 ∧ under = 32)) :
    Calls Tryd.prog 19 #[.pointer (some ⟨pf, 0, none⟩), .int .i64 n, .int .i64 fixed, .int .i64 under, .slice A fs.length c] w (HdTo pf fixed under fs n w) := by
  have hsz := sizes_calls n A c fs w hr hl hs h0 (by omega)
  obtain ⟨ms, hms⟩ : ∃ ms, ms = fs.filter (okf n) := ⟨_, rfl⟩
  have hml : ms.length ≤ 100 := by rw [hms]; exact Nat.le_trans (List.length_filter_le _ _) hl
  have hmem : ∀ f ∈ ms, f ∈ fs ∧ okf n f = true := fun f hf => by rw [hms] at hf; exact List.mem_filter.1 hf
  have hm0 : 0 < ms.length := by
    obtain ⟨f, h2, h3⟩ := hne
    exact List.length_pos_of_mem (by rw [hms]; exact List.mem_filter.2 ⟨h2, h3⟩)
  rw [← hms] at hsz
  have HSZ := hid hsz
  have HMEM := hid hmem
  have HS := hid hs
  have HCD := hid hcd
  clear hms hsz hmem hs hcd hne
  have hfin : ∀ (f : Int × Nat) (v : Value) (w1 w2 w3 : World), f ∈ ms → Fr w v → Fm w2 pf → Ch (fun b => b = pf) w w2 → Ow 5 u8 w3 v (f.1 :: bg n f.2) → Ch No w2 w3 → Hid (HdTo pf fixed under fs n w (.returned v) w3) := fun f v w1 w2 w3 h1 h2 h3 h4 h5 h6 =>
    ⟨v, _, rfl, .inr ⟨f, (HMEM.out f h1).1, (HMEM.out f h1).2, rfl⟩, h5, h2, h3.keep0 h6, h4.then_no h6⟩
  have HFIN := hid hfin
  clear hfin
  by_cases hsm : 0 ≤ fixed ∧ n < under
  · obtain ⟨hx0, hx1⟩ := hsm
    have d1 : decide (0 ≤ fixed) = true := decide_eq_true hx0
    have d2 : decide (n < under) = true := decide_eq_true hx1
    have hor := or_head fixed n (by omega)
    have hu : fixed + n < 256 := by omega
    go_enter Tryd.func19, Tryd.ntmps19
    go_wp2_with fail
    refine HSZ.out.mono ?_
    rintro e w1 ⟨v1, rfl, ho1, hf1, hch1⟩
    obtain ⟨A1, c1, rfl⟩ := ho1.slice
    go_wp2_with fail
    have hpk := pick_calls pf (ms.length + 1) w1 (hF.keep0 hch1) (by omega)
    rw [show ((ms.length + 1 : Nat) : Int) = (ms.length : Int) + 1 by omega] at hpk
    refine hpk.mono ?_
    rintro e w2 ⟨k, hk, rfl, hF2, hch2⟩
    have hk' : k < ms.length + 1 := by omega
    have C2 : Ch (fun b => b = pf) w w2 := (Ch.of_no hch1).trans hch2 (fun _ h => h) (fun _ h => .inl h)
    by_cases hk0 : k = 0
    · subst hk0
      go_wp2_with fail
      go_ret
      refine ⟨_, [fixed + n], rfl, .inl ⟨hx0, hx1, rfl⟩, ?_, Fr.mk' C2.size, hF2.keep0 ((Ch.refl No w2).alloc _), C2.alloc _⟩
      exact Ow.lit 5 u8 w2 [fixed + n] (by simp [maxLen])
    · obtain ⟨j, rfl⟩ : ∃ j, k = j + 1 := ⟨k - 1, by omega⟩
      have hj : j < ms.length := by omega
      have hkz : (((j + 1 : Nat) : Int) == 0) = false := beq_eq_false_iff_ne.2 (by omega)
      obtain ⟨b2, rfl, y0, y1⟩ := ((ho1.keep hch2 (fun b hb h => by have := hf1 b hb; have := hF.lt; have h9 : b = pf := h; omega)).rd).form j hj
      have hxm := List.getElem_mem hj
      have hsx := HS.out ms[j] (HMEM.out _ hxm).1
      have hcx := HCD.out ms[j] (HMEM.out _ hxm).1
      have hj' : (j : Int) < ms.length := by omega
      have hj0 : (0 : Int) ≤ j := by omega
      generalize ms[j] = x at y0 y1 hsx hcx hxm
      go_wp2_with fail
      refine (headed_calls x.1 n x.2 w2 (by omega) (by omega) h0 (by omega) hcx.1 hcx.2).mono ?_
      rintro e w3 ⟨v3, rfl, ho3, hf3, hch3⟩
      go_wp2_with fail
      go_ret
      exact (HFIN.out x v3 w2 w2 w3 hxm (hf3.weak C2.size) hF2 C2 ho3 hch3).out
  · have hgo : ∀ b : Bool, decide (0 ≤ fixed) = b → (b = true → decide (n < under) = false) → Calls Tryd.prog 19 #[.pointer (some ⟨pf, 0, none⟩), .int .i64 n, .int .i64 fixed, .int .i64 under, .slice A fs.length c] w (HdTo pf fixed under fs n w) := fun b d1 d2 => by
      cases b
      all_goals
        try have d2 := d2 rfl
        go_enter Tryd.func19, Tryd.ntmps19
        go_wp2_with fail
        refine HSZ.out.mono ?_
        rintro e w1 ⟨v1, rfl, ho1, hf1, hch1⟩
        obtain ⟨A1, c1, rfl⟩ := ho1.slice
        go_wp2_with fail
        refine (pick_calls pf ms.length w1 (hF.keep0 hch1) (by omega)).mono ?_
        rintro e w2 ⟨j, hk, rfl, hF2, hch2⟩
        have hj : j < ms.length := by omega
        have C2 : Ch (fun b => b = pf) w w2 := (Ch.of_no hch1).trans hch2 (fun _ h => h) (fun _ h => .inl h)
        obtain ⟨b2, rfl, y0, y1⟩ := ((ho1.keep hch2 (fun b hb h => by have := hf1 b hb; have := hF.lt; have h9 : b = pf := h; omega)).rd).form j hj
        have hxm := List.getElem_mem hj
        have hsx := HS.out ms[j] (HMEM.out _ hxm).1
        have hcx := HCD.out ms[j] (HMEM.out _ hxm).1
        have hj' : (j : Int) < ms.length := by omega
        have hj0 : (0 : Int) ≤ j := by omega
        generalize ms[j] = x at y0 y1 hsx hcx hxm
        go_wp2_with fail
        refine (headed_calls x.1 n x.2 w2 (by omega) (by omega) h0 (by omega) hcx.1 hcx.2).mono ?_
        rintro e w3 ⟨v3, rfl, ho3, hf3, hch3⟩
        go_wp2_with fail
        go_ret
        exact (HFIN.out x v3 w2 w2 w3 hxm (hf3.weak C2.size) hF2 C2 ho3 hch3).out
    by_cases hx0 : 0 ≤ fixed
    · exact hgo true (decide_eq_true hx0) (fun _ => decide_eq_false (fun h => hsm ⟨hx0, h⟩))
    · exact hgo false (decide_eq_false hx0) (fun h => by cases h)
end Go.Proofs.YtooifcdkpddlmaaDoor
