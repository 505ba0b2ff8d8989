/- The walk of the reference's writer of values: what it can write of a tree, kind by kind. No condition. -/
import Derived.Test.YtooifcdkpddlmaaDoorText
import Derived.Test.YtooifcdkpddlmaaDoorTreeX
import Derived.Deep.RegionLaw
namespace Go.Proofs.YtooifcdkpddlmaaDoor
set_option linter.unusedVariables false
set_option linter.unusedSimpArgs false
open Go.RowKit

def cat (f : Nat → List Int) : Nat → List Int
  | 0 => []
  | n + 1 => cat f n ++ f n
/-- The bytes of a tree, in any of its forms. -/
def PutD : Pk → List Int → Prop
  | .mk k n s x m K, d =>
    (k = 0 ∧ d = [192]) ∨ (k = 1 ∧ d = [194 + n]) ∨ (k = 2 ∧ 9223372036854775808 ≤ n ∧ NegD n d) ∨ (k = 2 ∧ n < 9223372036854775808 ∧ PosD n d) ∨ (k = 3 ∧ PosD n d) ∨ (k = 4 ∧ d = 202 :: bg n 4) ∨ (k = 5 ∧ d = 203 :: bg n 8) ∨
    (k = 6 ∧ ∃ hd, HdB 160 32 [(217, 1), (218, 2), (219, 4)] s.size hd ∧ d = hd ++ bys s) ∨ (k = 7 ∧ ∃ hd, HdB (-1) 0 [(196, 1), (197, 2), (198, 4)] s.size hd ∧ d = hd ++ bys s) ∨ (k = 10 ∧ ∃ hd, ExtD s.size x hd ∧ d = hd ++ bys s) ∨
    (k = 8 ∧ ∃ hd ds, HdB 144 16 [(220, 2), (221, 4)] m hd ∧ d = hd ++ cat ds m ∧ ∀ i : Fin m, PutD (K i) (ds i)) ∨ (k = 9 ∧ ∃ hd ds, HdB 128 16 [(222, 2), (223, 4)] ((m / 2 : Nat) : Int) hd ∧ d = hd ++ cat ds m ∧ ∀ i : Fin m, PutD (K i) (ds i))
theorem cnt_pos : ∀ t : Pk, 1 ≤ cnt t
  | .mk k n s x m K => by unfold cnt; omega
theorem HdB.len {fixed under : Int} {fs : List (Int × Nat)} {n : Int} {d : List Int} (h : HdB fixed under fs n d) (hs : ∀ f ∈ fs, f.2 ≤ 8) : d.length ≤ 9 := by
  rcases h with ⟨_, _, rfl⟩ | ⟨f, hf, _, rfl⟩
  · simp
  · have := hs f hf
    simp only [List.length_cons, bg_len]
    omega
theorem ExtD.len {n x : Int} {d : List Int} (h : ExtD n x d) : d.length ≤ 10 := by
  rcases h with ⟨p, _, _, rfl⟩ | ⟨f, hf, _, rfl⟩
  · simp
  · simp only [List.mem_cons, List.not_mem_nil, or_false] at hf
    rcases hf with rfl | rfl | rfl <;> simp [bg_len]
theorem NegD.len {u : Int} {d : List Int} (h : NegD u d) : d.length ≤ 9 := by
  rcases h with ⟨_, rfl⟩ | ⟨f, hf, _, rfl⟩
  · simp
  · simp only [List.mem_cons, List.not_mem_nil, or_false] at hf
    rcases hf with rfl | rfl | rfl | rfl <;> simp [bg_len]
theorem PosD.len {u : Int} {d : List Int} (h : PosD u d) : d.length ≤ 9 := by
  rcases h with ⟨_, rfl⟩ | ⟨f, hf, _, rfl⟩ | ⟨f, hf, _, rfl⟩
  · simp
  · simp only [List.mem_cons, List.not_mem_nil, or_false] at hf
    rcases hf with rfl | rfl | rfl | rfl <;> simp [bg_len]
  · simp only [List.mem_cons, List.not_mem_nil, or_false] at hf
    rcases hf with rfl | rfl | rfl | rfl <;> simp [bg_len]
theorem RdK.lit2 (w : World) (o : Obj) (e : TypeId) (fs : List (Int × Nat)) : RdK fmc ((w.alloc o).alloc (.cells (fs.flatMap fmc).toArray e)) (some ⟨w.heap.size + 1, 0, none⟩) fs := by
  have h := RdK.lit (w.alloc o) e fs
  rwa [World.size_alloc] at h
def PpTo (t : Pk) (pf : Nat) (w : World) (e : Ending) (w' : World) : Prop := ∃ v d, e = .returned v ∧ PutD t d ∧ d.length ≤ cnt t * 131100 ∧ Ow 5 u8 w' v d ∧ Fr w v ∧ Fm w' pf ∧ Ch (fun b => b = pf) w w'
theorem PpTo.mk {t : Pk} {pf : Nat} {w w' : World} {v : Value} {d : List Int} (h1 : PutD t d) (h2 : d.length ≤ 131100) (h3 : Ow 5 u8 w' v d) (h4 : Fr w v) (h5 : Fm w' pf) (h6 : Ch (fun b => b = pf) w w') : PpTo t pf w (.returned v) w' :=
  ⟨v, d, rfl, h1, by have := cnt_pos t; omega, h3, h4, h5, h6⟩
set_option maxRecDepth 100000 in
set_option maxHeartbeats 4000000 in
theorem put_0 (w0 : World) (pf : Nat) (n x lv : Int) (s : ByteArray) (m : Nat) (K : Fin m → Pk) (A : Option Addr) (cap : Nat) (w : World) (hF : Fm w pf) :
    Calls Tryd.prog 27 #[.agg #[.int .i64 0, .int .u64 n, .string s, .int .i64 x, .slice A m cap], .pointer (some ⟨pf, 0, none⟩)] w (PpTo (.mk 0 n s x m K) pf w) := by
  have hB := Row.alloc w [.int .i64 0, .int .u64 n, .string s, .int .i64 x, .slice A m cap] 35
  have q0 := hB.cell 0 _ rfl
  have q1 := hB.cell 1 _ rfl
  have q2 := hB.cell 2 _ rfl
  have q3 := hB.cell 3 _ rfl
  have q4 := hB.cell 4 _ rfl
  have hpl := hF.lt
  have C1 : Ch No w (w.alloc (.cells #[.int .i64 0, .int .u64 n, .string s, .int .i64 x, .slice A m cap] 35)) := (Ch.refl No w).alloc _
  go_enter Tryd.func27, Tryd.ntmps27
  go_wp2_with fail
  go_ret
  exact PpTo.mk (.inl ⟨rfl, rfl⟩) (by simp) (Ow.lit2 5 u8 w _ [192] (by simp [maxLen])) (Fr.mk' (by omega)) (hF.keep0 (C1.alloc _)) (Ch.of_no (C1.alloc _))
set_option maxRecDepth 100000 in
set_option maxHeartbeats 4000000 in
theorem put_1 (w0 : World) (pf : Nat) (n x lv : Int) (s : ByteArray) (m : Nat) (K : Fin m → Pk) (A : Option Addr) (cap : Nat) (w : World) (hF : Fm w pf) (hn0 : 0 ≤ n) (hn1 : n ≤ 1) :
    Calls Tryd.prog 27 #[.agg #[.int .i64 1, .int .u64 n, .string s, .int .i64 x, .slice A m cap], .pointer (some ⟨pf, 0, none⟩)] w (PpTo (.mk 1 n s x m K) pf w) := by
  have hB := Row.alloc w [.int .i64 1, .int .u64 n, .string s, .int .i64 x, .slice A m cap] 35
  have q0 := hB.cell 0 _ rfl
  have q1 := hB.cell 1 _ rfl
  have q2 := hB.cell 2 _ rfl
  have q3 := hB.cell 3 _ rfl
  have q4 := hB.cell 4 _ rfl
  have hpl := hF.lt
  have C1 : Ch No w (w.alloc (.cells #[.int .i64 1, .int .u64 n, .string s, .int .i64 x, .slice A m cap] 35)) := (Ch.refl No w).alloc _
  go_enter Tryd.func27, Tryd.ntmps27
  go_wp2_with fail
  go_ret
  exact PpTo.mk (.inr (.inl ⟨rfl, rfl⟩)) (by simp) (Ow.lit2 5 u8 w _ [194 + n] (by simp [maxLen])) (Fr.mk' (by omega)) (hF.keep0 (C1.alloc _)) (Ch.of_no (C1.alloc _))
set_option maxRecDepth 100000 in
set_option maxHeartbeats 4000000 in
theorem put_2 (w0 : World) (pf : Nat) (n x lv : Int) (s : ByteArray) (m : Nat) (K : Fin m → Pk) (A : Option Addr) (cap : Nat) (w : World) (hF : Fm w pf) (h0 : 9223372036854775808 ≤ n) (h1 : n < 18446744073709551616) :
    Calls Tryd.prog 27 #[.agg #[.int .i64 2, .int .u64 n, .string s, .int .i64 x, .slice A m cap], .pointer (some ⟨pf, 0, none⟩)] w (PpTo (.mk 2 n s x m K) pf w) := by
  have hB := Row.alloc w [.int .i64 2, .int .u64 n, .string s, .int .i64 x, .slice A m cap] 35
  have q0 := hB.cell 0 _ rfl
  have q1 := hB.cell 1 _ rfl
  have q2 := hB.cell 2 _ rfl
  have q3 := hB.cell 3 _ rfl
  have q4 := hB.cell 4 _ rfl
  have hpl := hF.lt
  have C1 : Ch No w (w.alloc (.cells #[.int .i64 2, .int .u64 n, .string s, .int .i64 x, .slice A m cap] 35)) := (Ch.refl No w).alloc _
  go_enter Tryd.func27, Tryd.ntmps27
  go_wp2_with fail
  refine (putInt_neg pf n _ (hF.keep0 C1) h0 h1).mono ?_
  rintro e w1 ⟨v, d, rfl, hP, ho, hf, hF1, hch⟩
  have hl := hP.len
  go_wp2_with fail
  go_ret
  exact PpTo.mk (.inr (.inr (.inl ⟨rfl, h0, hP⟩))) (by omega) ho (hf.weak C1.size) hF1 (C1.no_then hch)
set_option maxRecDepth 100000 in
set_option maxHeartbeats 4000000 in
theorem put_2p (w0 : World) (pf : Nat) (n x lv : Int) (s : ByteArray) (m : Nat) (K : Fin m → Pk) (A : Option Addr) (cap : Nat) (w : World) (hF : Fm w pf) (h0 : 0 ≤ n) (h1 : n < 9223372036854775808) :
    Calls Tryd.prog 27 #[.agg #[.int .i64 2, .int .u64 n, .string s, .int .i64 x, .slice A m cap], .pointer (some ⟨pf, 0, none⟩)] w (PpTo (.mk 2 n s x m K) pf w) := by
  have hB := Row.alloc w [.int .i64 2, .int .u64 n, .string s, .int .i64 x, .slice A m cap] 35
  have q0 := hB.cell 0 _ rfl
  have q1 := hB.cell 1 _ rfl
  have q2 := hB.cell 2 _ rfl
  have q3 := hB.cell 3 _ rfl
  have q4 := hB.cell 4 _ rfl
  have hpl := hF.lt
  have C1 : Ch No w (w.alloc (.cells #[.int .i64 2, .int .u64 n, .string s, .int .i64 x, .slice A m cap] 35)) := (Ch.refl No w).alloc _
  go_enter Tryd.func27, Tryd.ntmps27
  go_wp2_with fail
  refine (putInt_pos pf n true _ (hF.keep0 C1) h0 (by omega) (fun _ => h1)).mono ?_
  rintro e w1 ⟨v, d, rfl, hP, ho, hf, hF1, hch⟩
  have hl := hP.len
  go_wp2_with fail
  go_ret
  exact PpTo.mk (.inr (.inr (.inr (.inl ⟨rfl, h1, hP⟩)))) (by omega) ho (hf.weak C1.size) hF1 (C1.no_then hch)
set_option maxRecDepth 100000 in
set_option maxHeartbeats 4000000 in
theorem put_3 (w0 : World) (pf : Nat) (n x lv : Int) (s : ByteArray) (m : Nat) (K : Fin m → Pk) (A : Option Addr) (cap : Nat) (w : World) (hF : Fm w pf) (h0 : 0 ≤ n) (h1 : n < 18446744073709551616) :
    Calls Tryd.prog 27 #[.agg #[.int .i64 3, .int .u64 n, .string s, .int .i64 x, .slice A m cap], .pointer (some ⟨pf, 0, none⟩)] w (PpTo (.mk 3 n s x m K) pf w) := by
  have hB := Row.alloc w [.int .i64 3, .int .u64 n, .string s, .int .i64 x, .slice A m cap] 35
  have q0 := hB.cell 0 _ rfl
  have q1 := hB.cell 1 _ rfl
  have q2 := hB.cell 2 _ rfl
  have q3 := hB.cell 3 _ rfl
  have q4 := hB.cell 4 _ rfl
  have hpl := hF.lt
  have C1 : Ch No w (w.alloc (.cells #[.int .i64 3, .int .u64 n, .string s, .int .i64 x, .slice A m cap] 35)) := (Ch.refl No w).alloc _
  go_enter Tryd.func27, Tryd.ntmps27
  go_wp2_with fail
  refine (putInt_pos pf n false _ (hF.keep0 C1) h0 h1 (fun h => by cases h)).mono ?_
  rintro e w1 ⟨v, d, rfl, hP, ho, hf, hF1, hch⟩
  have hl := hP.len
  go_wp2_with fail
  go_ret
  exact PpTo.mk (.inr (.inr (.inr (.inr (.inl ⟨rfl, hP⟩))))) (by omega) ho (hf.weak C1.size) hF1 (C1.no_then hch)
set_option maxRecDepth 100000 in
set_option maxHeartbeats 4000000 in
theorem put_4 (w0 : World) (pf : Nat) (n x lv : Int) (s : ByteArray) (m : Nat) (K : Fin m → Pk) (A : Option Addr) (cap : Nat) (w : World) (hF : Fm w pf) (h0 : 0 ≤ n) (h1 : n < 4294967296) :
    Calls Tryd.prog 27 #[.agg #[.int .i64 4, .int .u64 n, .string s, .int .i64 x, .slice A m cap], .pointer (some ⟨pf, 0, none⟩)] w (PpTo (.mk 4 n s x m K) pf w) := by
  have hB := Row.alloc w [.int .i64 4, .int .u64 n, .string s, .int .i64 x, .slice A m cap] 35
  have q0 := hB.cell 0 _ rfl
  have q1 := hB.cell 1 _ rfl
  have q2 := hB.cell 2 _ rfl
  have q3 := hB.cell 3 _ rfl
  have q4 := hB.cell 4 _ rfl
  have hpl := hF.lt
  have C1 : Ch No w (w.alloc (.cells #[.int .i64 4, .int .u64 n, .string s, .int .i64 x, .slice A m cap] 35)) := (Ch.refl No w).alloc _
  go_enter Tryd.func27, Tryd.ntmps27
  go_wp2_with fail
  refine (headed_calls 202 n 4 _ (by omega) (by omega) h0 (by omega) (by omega) (by omega)).mono ?_
  rintro e w1 ⟨v, rfl, ho, hf, hch⟩
  go_wp2_with fail
  go_ret
  exact PpTo.mk (.inr (.inr (.inr (.inr (.inr (.inl ⟨rfl, rfl⟩)))))) (by simp [bg_len]) ho (hf.weak C1.size) (hF.keep0 (C1.no_no hch)) (Ch.of_no (C1.no_no hch))
set_option maxRecDepth 100000 in
set_option maxHeartbeats 4000000 in
theorem put_5 (w0 : World) (pf : Nat) (n x lv : Int) (s : ByteArray) (m : Nat) (K : Fin m → Pk) (A : Option Addr) (cap : Nat) (w : World) (hF : Fm w pf) (h0 : 0 ≤ n) (h1 : n < 18446744073709551616) :
    Calls Tryd.prog 27 #[.agg #[.int .i64 5, .int .u64 n, .string s, .int .i64 x, .slice A m cap], .pointer (some ⟨pf, 0, none⟩)] w (PpTo (.mk 5 n s x m K) pf w) := by
  have hB := Row.alloc w [.int .i64 5, .int .u64 n, .string s, .int .i64 x, .slice A m cap] 35
  have q0 := hB.cell 0 _ rfl
  have q1 := hB.cell 1 _ rfl
  have q2 := hB.cell 2 _ rfl
  have q3 := hB.cell 3 _ rfl
  have q4 := hB.cell 4 _ rfl
  have hpl := hF.lt
  have C1 : Ch No w (w.alloc (.cells #[.int .i64 5, .int .u64 n, .string s, .int .i64 x, .slice A m cap] 35)) := (Ch.refl No w).alloc _
  go_enter Tryd.func27, Tryd.ntmps27
  go_wp2_with fail
  refine (headed_calls 203 n 8 _ (by omega) (by omega) h0 (by omega) (by omega) (by omega)).mono ?_
  rintro e w1 ⟨v, rfl, ho, hf, hch⟩
  go_wp2_with fail
  go_ret
  exact PpTo.mk (.inr (.inr (.inr (.inr (.inr (.inr (.inl ⟨rfl, rfl⟩))))))) (by simp [bg_len]) ho (hf.weak C1.size) (hF.keep0 (C1.no_no hch)) (Ch.of_no (C1.no_no hch))
set_option maxRecDepth 100000 in
set_option maxHeartbeats 4000000 in
theorem put_6 (w0 : World) (pf : Nat) (n x lv : Int) (s : ByteArray) (m : Nat) (K : Fin m → Pk) (A : Option Addr) (cap : Nat) (w : World) (hF : Fm w pf) (hs : s.size ≤ 131072) :
    Calls Tryd.prog 27 #[.agg #[.int .i64 6, .int .u64 n, .string s, .int .i64 x, .slice A m cap], .pointer (some ⟨pf, 0, none⟩)] w (PpTo (.mk 6 n s x m K) pf w) := by
  have hB := Row.alloc w [.int .i64 6, .int .u64 n, .string s, .int .i64 x, .slice A m cap] 35
  have q0 := hB.cell 0 _ rfl
  have q1 := hB.cell 1 _ rfl
  have q2 := hB.cell 2 _ rfl
  have q3 := hB.cell 3 _ rfl
  have q4 := hB.cell 4 _ rfl
  have hpl := hF.lt
  have C1 : Ch No w (w.alloc (.cells #[.int .i64 6, .int .u64 n, .string s, .int .i64 x, .slice A m cap] 35)) := (Ch.refl No w).alloc _
  obtain ⟨ns, hns⟩ : ∃ ns, s.size = ns := ⟨_, rfl⟩
  have hput : ∀ w1, Ch No w w1 → RdK fmc w1 (some ⟨w.heap.size + 1, 0, none⟩) [((217 : Int), (1 : Nat)), (218, 2), (219, 4)] → Calls Tryd.prog 19 #[.pointer (some ⟨pf, 0, none⟩), .int .i64 ns, .int .i64 (160), .int .i64 32, .slice (some ⟨w.heap.size + 1, 0, none⟩) 3 3] w1 (HdTo pf (160) 32 [((217 : Int), (1 : Nat)), (218, 2), (219, 4)] ns w1) := fun w1 hch hrk =>
    putHead_calls pf ns (160) 32 _ 3 [((217 : Int), (1 : Nat)), (218, 2), (219, 4)] w1 (hF.keep0 hch) hrk (fun ad h => by injection h with h; subst h; intro h; simp at h; omega) (by simp) (by simp) (by simp) (by omega) (by omega) ⟨(219, 4), by simp, okf_last ns 219 (by omega) (by omega)⟩ (by simp)
  have hns2 : (s.size : Int) = ns := by rw [hns]
  have HPUT := hid hput
  have HNS := hid hns
  clear hput hns
  go_enter Tryd.func27, Tryd.ntmps27
  go_wp2_with fail
  go_region_law (first | (go_simp; go_at_call 19; refine (HPUT.out _ (by first | exact (C1.alloc _) | exact (C1.alloc _).drew | exact (C1.drew.alloc _)) (by first | exact RdK.lit2 w _ 62 [((217 : Int), (1 : Nat)), (218, 2), (219, 4)] | exact (RdK.lit2 w _ 62 [((217 : Int), (1 : Nat)), (218, 2), (219, 4)]).keep0 (Ch.refl No _).drew)).mono ?_; rintro e w1 ⟨v1, d1, rfl, hd1, ho1, hf1, hF1, hch1⟩; have hl1 := hd1.len (by simp); have hfw : Fr w v1 := hf1.weak (by first | exact C1.size | exact (C1.alloc _).size | exact (C1.alloc _).drew.size | exact (C1.drew.alloc _).size); have C2 := Ch.no_then (show Ch No w _ from (by first | exact (C1.alloc _) | exact (C1.alloc _).drew | exact (C1.drew.alloc _))) hch1; have d2 : w1.cell? ⟨w.heap.size, 2, none⟩ = some (.string s) := hch1.cell (by first | exact ((Ch.refl No _).alloc _).cell0 q2 | exact ((Ch.refl No _).alloc _).drew.cell0 q2 | exact ((Ch.refl No _).drew.alloc _).cell0 q2) (fun h => by have h9 : w.heap.size = pf := h; omega)) | (refine step_appendS rfl _ _ 24 9 5 rfl Tryd.underlying24 Tryd.underlying9 info_u8 w _ d1 s rfl rfl ho1 hfw C2.size (by omega) ?_; intro v2 w2 ho2 hch2 hf2))
  all_goals
    go_wp2
    go_ret
    have hL := bys_len s
    have hNS := HNS.out
    exact PpTo.mk (.inr (.inr (.inr (.inr (.inr (.inr (.inr (.inl ⟨rfl, _, (by rw [HNS.out]; exact hd1), rfl⟩)))))))) (by rw [List.length_append]; omega) ho2 hf2 (hF1.keep hch2 (fun h => by have := hfw _ h; omega)) (C2.trans hch2 (fun _ h => h) (fun b hb => .inr (hfw b hb)))
set_option maxRecDepth 100000 in
set_option maxHeartbeats 4000000 in
theorem put_7 (w0 : World) (pf : Nat) (n x lv : Int) (s : ByteArray) (m : Nat) (K : Fin m → Pk) (A : Option Addr) (cap : Nat) (w : World) (hF : Fm w pf) (hs : s.size ≤ 131072) :
    Calls Tryd.prog 27 #[.agg #[.int .i64 7, .int .u64 n, .string s, .int .i64 x, .slice A m cap], .pointer (some ⟨pf, 0, none⟩)] w (PpTo (.mk 7 n s x m K) pf w) := by
  have hB := Row.alloc w [.int .i64 7, .int .u64 n, .string s, .int .i64 x, .slice A m cap] 35
  have q0 := hB.cell 0 _ rfl
  have q1 := hB.cell 1 _ rfl
  have q2 := hB.cell 2 _ rfl
  have q3 := hB.cell 3 _ rfl
  have q4 := hB.cell 4 _ rfl
  have hpl := hF.lt
  have C1 : Ch No w (w.alloc (.cells #[.int .i64 7, .int .u64 n, .string s, .int .i64 x, .slice A m cap] 35)) := (Ch.refl No w).alloc _
  obtain ⟨ns, hns⟩ : ∃ ns, s.size = ns := ⟨_, rfl⟩
  have hput : ∀ w1, Ch No w w1 → RdK fmc w1 (some ⟨w.heap.size + 1, 0, none⟩) [((196 : Int), (1 : Nat)), (197, 2), (198, 4)] → Calls Tryd.prog 19 #[.pointer (some ⟨pf, 0, none⟩), .int .i64 ns, .int .i64 (-1), .int .i64 0, .slice (some ⟨w.heap.size + 1, 0, none⟩) 3 3] w1 (HdTo pf (-1) 0 [((196 : Int), (1 : Nat)), (197, 2), (198, 4)] ns w1) := fun w1 hch hrk =>
    putHead_calls pf ns (-1) 0 _ 3 [((196 : Int), (1 : Nat)), (197, 2), (198, 4)] w1 (hF.keep0 hch) hrk (fun ad h => by injection h with h; subst h; intro h; simp at h; omega) (by simp) (by simp) (by simp) (by omega) (by omega) ⟨(198, 4), by simp, okf_last ns 198 (by omega) (by omega)⟩ (by simp)
  have hns2 : (s.size : Int) = ns := by rw [hns]
  have HPUT := hid hput
  have HNS := hid hns
  clear hput hns
  go_enter Tryd.func27, Tryd.ntmps27
  go_wp2_with fail
  go_region_law (first | (go_simp; go_at_call 19; refine (HPUT.out _ (by first | exact (C1.alloc _) | exact (C1.alloc _).drew | exact (C1.drew.alloc _)) (by first | exact RdK.lit2 w _ 62 [((196 : Int), (1 : Nat)), (197, 2), (198, 4)] | exact (RdK.lit2 w _ 62 [((196 : Int), (1 : Nat)), (197, 2), (198, 4)]).keep0 (Ch.refl No _).drew)).mono ?_; rintro e w1 ⟨v1, d1, rfl, hd1, ho1, hf1, hF1, hch1⟩; have hl1 := hd1.len (by simp); have hfw : Fr w v1 := hf1.weak (by first | exact C1.size | exact (C1.alloc _).size | exact (C1.alloc _).drew.size | exact (C1.drew.alloc _).size); have C2 := Ch.no_then (show Ch No w _ from (by first | exact (C1.alloc _) | exact (C1.alloc _).drew | exact (C1.drew.alloc _))) hch1; have d2 : w1.cell? ⟨w.heap.size, 2, none⟩ = some (.string s) := hch1.cell (by first | exact ((Ch.refl No _).alloc _).cell0 q2 | exact ((Ch.refl No _).alloc _).drew.cell0 q2 | exact ((Ch.refl No _).drew.alloc _).cell0 q2) (fun h => by have h9 : w.heap.size = pf := h; omega)) | (refine step_appendS rfl _ _ 24 9 5 rfl Tryd.underlying24 Tryd.underlying9 info_u8 w _ d1 s rfl rfl ho1 hfw C2.size (by omega) ?_; intro v2 w2 ho2 hch2 hf2))
  all_goals
    go_wp2
    go_ret
    have hL := bys_len s
    have hNS := HNS.out
    exact PpTo.mk (.inr (.inr (.inr (.inr (.inr (.inr (.inr (.inr (.inl ⟨rfl, _, (by rw [HNS.out]; exact hd1), rfl⟩))))))))) (by rw [List.length_append]; omega) ho2 hf2 (hF1.keep hch2 (fun h => by have := hfw _ h; omega)) (C2.trans hch2 (fun _ h => h) (fun b hb => .inr (hfw b hb)))
set_option maxRecDepth 100000 in
set_option maxHeartbeats 4000000 in
theorem put_10 (w0 : World) (pf : Nat) (n x lv : Int) (s : ByteArray) (m : Nat) (K : Fin m → Pk) (A : Option Addr) (cap : Nat) (w : World) (hF : Fm w pf) (hs : s.size ≤ 131072) :
    Calls Tryd.prog 27 #[.agg #[.int .i64 10, .int .u64 n, .string s, .int .i64 x, .slice A m cap], .pointer (some ⟨pf, 0, none⟩)] w (PpTo (.mk 10 n s x m K) pf w) := by
  have hB := Row.alloc w [.int .i64 10, .int .u64 n, .string s, .int .i64 x, .slice A m cap] 35
  have q0 := hB.cell 0 _ rfl
  have q1 := hB.cell 1 _ rfl
  have q2 := hB.cell 2 _ rfl
  have q3 := hB.cell 3 _ rfl
  have q4 := hB.cell 4 _ rfl
  have hpl := hF.lt
  have C1 : Ch No w (w.alloc (.cells #[.int .i64 10, .int .u64 n, .string s, .int .i64 x, .slice A m cap] 35)) := (Ch.refl No w).alloc _
  obtain ⟨ns, hns⟩ : ∃ ns, s.size = ns := ⟨_, rfl⟩
  have hput : ∀ w1, Ch No w w1 → Calls Tryd.prog 42 #[.pointer (some ⟨pf, 0, none⟩), .int .i64 ns, .int .i64 x] w1 (ItTo (ExtD ns x) pf w1) := fun w1 hch =>
    putExt_calls pf ns x w1 (hF.keep0 hch) (by omega) (by omega)
  have hns2 : (s.size : Int) = ns := by rw [hns]
  have HPUT := hid hput
  have HNS := hid hns
  clear hput hns
  go_enter Tryd.func27, Tryd.ntmps27
  go_wp2_with fail
  go_region_law (first | (go_simp; go_at_call 42; refine (HPUT.out _ (by first | exact C1 | exact C1.drew)).mono ?_; rintro e w1 ⟨v1, d1, rfl, hd1, ho1, hf1, hF1, hch1⟩; have hl1 := hd1.len; have hfw : Fr w v1 := hf1.weak (by first | exact C1.size | exact C1.drew.size); have C2 := Ch.no_then (show Ch No w _ from (by first | exact C1 | exact C1.drew)) hch1; have d2 : w1.cell? ⟨w.heap.size, 2, none⟩ = some (.string s) := hch1.cell (by first | exact q2 | exact (Ch.refl No _).drew.cell0 q2) (fun h => by have h9 : w.heap.size = pf := h; omega)) | (refine step_appendS rfl _ _ 24 9 5 rfl Tryd.underlying24 Tryd.underlying9 info_u8 w _ d1 s rfl rfl ho1 hfw C2.size (by omega) ?_; intro v2 w2 ho2 hch2 hf2))
  all_goals
    go_wp2
    go_ret
    have hL := bys_len s
    have hNS := HNS.out
    exact PpTo.mk (.inr (.inr (.inr (.inr (.inr (.inr (.inr (.inr (.inr (.inl ⟨rfl, _, (by rw [HNS.out]; exact hd1), rfl⟩)))))))))) (by rw [List.length_append]; omega) ho2 hf2 (hF1.keep hch2 (fun h => by have := hfw _ h; omega)) (C2.trans hch2 (fun _ h => h) (fun b hb => .inr (hfw b hb)))

end Go.Proofs.YtooifcdkpddlmaaDoor
