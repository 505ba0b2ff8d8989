/- The walk of the law's own writer of maps. No condition. -/
import Derived.Test.YtooifcdkpddlmaaDoorLcW
import Derived.Test.YtooifcdkpddlmaaDoorTreeX
namespace Go.Proofs.YtooifcdkpddlmaaDoor
set_option linter.unusedVariables false
set_option linter.unusedSimpArgs false
open Go.RowKit

def MpTo (w : World) (e : Ending) (w' : World) : Prop :=
  ∃ (v vl : Value) (b : Bool), e = .returned (.tuple #[v, vl, .bool b]) ∧ Ch No w w' ∧ (b = true → ∃ (L : List Ent) (hd : List Int) (pf : Nat) (A : Option Addr) (c : Nat), L.length ≤ 1000 ∧ HdB 128 16 [(222, 2), (223, 4)] (L.length : Int) hd ∧ (∀ e ∈ L, EnP e) ∧
    Ow 5 u8 w' v (hd ++ flatE L) ∧ vl = .slice A L.length c ∧ RdK enE w' A L ∧ ∀ e ∈ L, EnR pf w' e)
/-- Entries, whatever the tree. -/
theorem entries_any (w0 : World) (pf : Nat) (hpf : w0.heap.size ≤ pf) (t : Pk) (v0 v1 v2 v3 v4 : Value) (w : World) (hF : Fm w pf) (ht : TrP w0 t [v0, v1, v2, v3, v4]) (hw : Ch (Fro w0.heap.size) w0 w) (hfit : FitP t 6) (hcn : cnt t ≤ 2000) :
    Calls Tryd.prog 23 #[.agg #[v0, v1, v2, v3, v4], .pointer (some ⟨pf, 0, none⟩)] w (EsTo pf w) := by
  obtain ⟨k, n, s, x, m, K⟩ := t
  obtain ⟨A, cap, he, _⟩ := id ht
  simp only [List.cons.injEq, and_true] at he
  obtain ⟨rfl, rfl, rfl, rfl, rfl⟩ := he
  by_cases hk : k = 9
  · subst hk
    exact entries_calls w0 pf hpf n x s m K A cap w hF ht hw hfit hcn
  · exact entries_no pf k n x s A m cap w hk hF
set_option maxRecDepth 100000 in
set_option maxHeartbeats 4000000 in
theorem lawData_calls (t : Pk) (v0 v1 v2 v3 v4 : Value) (f : Int) (w0 w : World) (hw : Ch No w0 w) (ht : TrP w0 t [v0, v1, v2, v3, v4]) (hf0 : 0 ≤ f) (hf1 : f < 18446744073709551616) :
    Calls Tryd.prog 12 #[.agg #[v0, v1, v2, v3, v4], .int .u64 f] w (MpTo w) := by
  have hB := Row.alloc w [v0, v1, v2, v3, v4] 35
  have q0 := hB.cell 0 _ rfl
  have q1 := hB.cell 1 _ rfl
  have q2 := hB.cell 2 _ rfl
  have q3 := hB.cell 3 _ rfl
  have q4 := hB.cell 4 _ rfl

  go_enter Tryd.func12, Tryd.ntmps12
  go_wp2_with fail
  have C1 : Ch No w (w.alloc (.cells #[v0, v1, v2, v3, v4] 35)) := (Ch.refl No w).alloc _
  refine (packFits_calls w0 t v0 v1 v2 v3 v4 _ 6 ht ((hw.no_no C1).mono (fun _ h => h.elim)) (by omega)).mono ?_
  rintro e w1 ⟨b, rfl, hb, hch1⟩
  have C2 := C1.no_no hch1
  have hB1 := hB.keep0 hch1
  have r0 := hB1.cell 0 _ rfl
  have r1 := hB1.cell 1 _ rfl
  have r2 := hB1.cell 2 _ rfl
  have r3 := hB1.cell 3 _ rfl
  have r4 := hB1.cell 4 _ rfl

  cases b
  · go_wp2_with fail
    go_ret3
    exact ⟨_, _, _, rfl, C2, fun h => absurd h Bool.false_ne_true⟩
  · obtain ⟨hcn, hfit⟩ := hb rfl
    go_wp2_with fail
    refine (packs_calls w0 t v0 v1 v2 v3 v4 w1 ht ((hw.no_no C2).mono (fun _ h => h.elim)) hcn).mono ?_
    rintro e w2 ⟨rfl, hch2⟩
    have C3 := C2.no_no hch2
    have hB2 := hB1.keep0 hch2
    have s0 := hB2.cell 0 _ rfl
    have s1 := hB2.cell 1 _ rfl
    have s2 := hB2.cell 2 _ rfl
    have s3 := hB2.cell 3 _ rfl
    have s4 := hB2.cell 4 _ rfl

    by_cases h5 : 500 < cnt t
    · have hd5 : decide ((500 : Int) < cnt t) = true := decide_eq_true (by omega)
      go_wp2_with fail
      go_ret3
      exact ⟨_, _, _, rfl, C3, fun h => absurd h Bool.false_ne_true⟩
    have hd5 : decide ((500 : Int) < cnt t) = false := decide_eq_false (by omega)
    have C3a := C3.alloc (.cells #[.int .u64 f, .bool false] 30)
    have hw3 := hw.no_no C3a
    have hFm : Fm (w2.alloc (.cells #[.int .u64 f, .bool false] 30)) w2.heap.size := ⟨f, false, Row.alloc w2 [.int .u64 f, .bool false] 30, hf0, hf1⟩
    have hB3 := hB2.keep0 ((Ch.refl No _).alloc (.cells #[.int .u64 f, .bool false] 30))
    have x0 := hB3.cell 0 _ rfl
    have x1 := hB3.cell 1 _ rfl
    have x2 := hB3.cell 2 _ rfl
    have x3 := hB3.cell 3 _ rfl
    have x4 := hB3.cell 4 _ rfl

    go_wp2_with fail
    refine (entries_any w0 w2.heap.size (hw.no_no C3).size t v0 v1 v2 v3 v4 _ hFm ht (hw3.mono (fun _ h => h.elim)) hfit hcn).mono ?_
    rintro e w3 ⟨L, vl, is, rfl, hoK, hE, hL, hFr, hFm3, hch3⟩
    obtain ⟨Al, cl, rfl⟩ := hoK.slice
    have C4 : Ch No w w3 := C3a.freshg hch3 C3.size
    have hrd := hoK.rd
    have hnb : ∀ ad, Al = some ad → ad.block ≠ w2.heap.size := fun ad h => by
      have hb : Blk (.slice Al L.length cl) ad.block := by
        rcases hoK.2 with ⟨h1, _⟩ | ⟨g, cap, cur, hv, _⟩
        · injection h1 with h1; rw [h] at h1; cases h1
        · injection hv with h1 _ _
          rw [h] at h1; injection h1 with h1; subst h1; subst h; exact Blk_slice.2 rfl
      have := hFr _ hb
      simp only [World.size_alloc] at this
      omega
    have HPK := hid (And.intro hoK (And.intro hE hrd))
    have hL2 := hL
    have hmd := mapData_calls w2.heap.size L Al cl w3 hFm3 hrd hnb hE hL
    obtain ⟨M, hM⟩ : ∃ M, L.length = M := ⟨_, rfl⟩
    have HM := hid hM
    rw [hM] at hmd ⊢
    clear hM hoK hE hrd hL
    go_wp2_with fail
    refine hmd.mono ?_
    rintro e w4 ⟨v4', hd, rfl, hhd, ho4, hf4, hF4, hch4⟩
    have C5 : Ch No w w4 := C4.freshg hch4 C3.size
    have HHD := hid (And.intro hhd ho4)
    clear hhd
    clear hmd
    go_wp2_with fail
    go_ret3
    exact ⟨v4', .slice Al M cl, is, rfl, C5, fun _ => ⟨L, hd, w2.heap.size, Al, cl, hL2, HHD.out.1, fun e he => (HPK.out.2.1 e he).2, HHD.out.2, by rw [HM.out], HPK.out.2.2.keep hch4 hnb, fun e he => (HPK.out.2.1 e he).1.keep hch4⟩⟩
end Go.Proofs.YtooifcdkpddlmaaDoor
