/- The walk of the reference's forms of numbers: integers of 32 bits. No condition. -/
import Derived.Test.YtbdgkikipekmlaaDoorNbs
namespace Go.Proofs.YtbdgkikipekmlaaDoor
set_option linter.unusedVariables false
set_option linter.unusedSimpArgs false
open Go.RowKit
def NsJ8 (n : Int) (w wB : World) (A6 : Option Addr) (c6 : Nat) (xs : List Pce) (H : List Int) (q0 q2 q4 q5 q7 q8 q9 q10 q11 q12 q13 q14 q15 q16 q17 q18 q19 q20 q21 q22 q23 q25 q26 q27 q28 q29 q52 q53 q54 q55 q56 q57 q58 q59 q60 : Value) (listed : Array Bool) (a : Act) (wr : World) : Prop :=
  listed.size = 14 ∧ Ch No wB wr ∧ ∃ y6 y61 y62 y63 y64 y65 y66 y67 y68 y69 y70 y71 : Value, a = ⟨#[q0, .pointer (some ⟨w.heap.size, 0, none⟩), q2, .int .u64 n, q4, q5, y6, q7, q8, q9, q10, q11, q12, q13, q14, q15, q16, q17, q18, q19, q20, q21, q22, q23, .int .i64 8, q25, q26, q27, q28, q29, undef, undef, undef, undef, undef, undef, undef, undef, undef, undef, undef, undef, undef, undef, undef, undef, undef, undef, undef, undef, undef, undef, q52, q53, q54, q55, q56, q57, q58, q59, q60, y61, y62, y63, y64, y65, y66, y67, y68, y69, y70, y71, undef], []⟩ ∧
    (listed.getD 0 false = true → ∃ mm, y61 = .map (some mm) ∧ (listed.getD 3 false = true → y62 = .map (some mm)) ∧ (listed.getD 6 false = false → wB.heap.size ≤ mm ∧ ∃ kvs, IMap .i64 wr mm kvs ∧ MF (8, .int .i64 84) (9, .int .i64 85) (listed.getD 1 false) (listed.getD 2 false) kvs)) ∧ (listed.getD 1 false = true → listed.getD 0 false = true) ∧ (listed.getD 2 false = true → listed.getD 0 false = true) ∧ (listed.getD 3 false = true → listed.getD 1 false = true ∧ listed.getD 2 false = true) ∧ (listed.getD 4 false = true → y63 = .pointer (some ⟨w.heap.size, 0, none⟩)) ∧ (listed.getD 5 false = true → y64 = .int .i64 8) ∧ (listed.getD 6 false = true → listed.getD 3 false = true ∧ y65 = .int .i64 84) ∧ (listed.getD 7 false = true → y66 = .int .u64 n) ∧ (listed.getD 8 false = true → ∃ Ab cb, y67 = .slice Ab H.length cb ∧ Fr w (y67) ∧ (listed.getD 10 false = false → Ow 5 Go.Proofs.YtbdgkikipekmlaaDoor.u8 wr (y67) H)) ∧ (listed.getD 9 false = true → listed.getD 8 false = true ∧ listed.getD 6 false = true ∧ y68 = .agg #[.int .i64 84, y67]) ∧ (listed.getD 10 false = true → listed.getD 9 false = true ∧ ∃ g, y69 = .slice (some ⟨g, 0, none⟩) 1 1 ∧ wB.heap.size ≤ g ∧ (listed.getD 12 false = false → ∃ Ab cb, PMay (NumW 8 n) w wr (y69) [(84, Ab, H.length, cb)])) ∧ (listed.getD 11 false = true → y70 = .slice A6 xs.length c6) ∧ (listed.getD 12 false = true → listed.getD 10 false = true ∧ ∃ Ab cb, PMay (NumW 8 n) w wr (y71) ((84, Ab, H.length, cb) :: xs)) ∧ (listed.getD 12 false = true → listed.getD 11 false = true) ∧ (listed.getD 13 false = true → listed.getD 12 false = true ∧ y6 = y71) ∧ (listed.getD 13 false = false → y6 = .slice A6 xs.length c6) ∧ (listed.getD 12 false = false → PMay (NumW 8 n) w wr (.slice A6 xs.length c6) xs)
theorem cd_8s : Hid ((look cdL 8).getD (.int .i64 0) = .int .i64 113) := hid (by simp [look, cdL])
def NbJ8s (n z o : Int) (s : ByteArray) (m d : Nat) (A B : Option Addr) (cap capB : Nat) (w : World) (H : List Int) (listed : Array Bool) (a : Act) (wr : World) : Prop :=
  listed.size = 11 ∧ Ch No (w.alloc (.cells #[.int .i64 8, .int .u64 n, .string s, .slice A m cap, .int .i64 o, .slice B d capB] 25)) wr ∧ ∃ x5 x12 x13 x14 x15 x16 x17 x18 x19 x20 : Value, a = ⟨#[.agg #[.int .i64 8, .int .u64 n, .string s, .slice A m cap, .int .i64 o, .slice B d capB], .pointer (some ⟨w.heap.size, 0, none⟩), .slice none 0 0, .int .u64 n, .int .i64 z, x5, undef, .pointer (some ⟨w.heap.size, 1, none⟩), .int .u64 n, .pointer (some ⟨w.heap.size, 1, none⟩), .int .u64 n, .int .i64 z, x12, x13, x14, x15, x16, x17, x18, x19, x20, undef, undef, undef, undef, undef, undef, undef, undef, undef, undef, undef, undef, undef, undef, undef, undef, undef, undef, undef, undef, undef, undef, undef, undef, undef, undef, undef, undef, undef, undef, undef, undef, undef, undef, undef, undef, undef, undef, undef, undef, undef, undef, undef, undef, undef, undef, undef, undef, undef, undef, undef, undef], []⟩ ∧
    (listed.getD 0 false = true → x12 = .pointer (some ⟨w.heap.size, 0, none⟩)) ∧ (listed.getD 1 false = true → x13 = .int .i64 8) ∧ (listed.getD 2 false = true → x14 = .int .i64 113) ∧ (listed.getD 3 false = true → x15 = .int .u64 n) ∧ (listed.getD 4 false = true → x16 = .pointer (some ⟨w.heap.size, 0, none⟩)) ∧ (listed.getD 5 false = true → x17 = .int .i64 8) ∧ (listed.getD 6 false = true → x18 = .int .i64 4) ∧
    (listed.getD 7 false = true → ∃ Ab cb, x19 = .slice Ab H.length cb ∧ Ow 5 Go.Proofs.YtbdgkikipekmlaaDoor.u8 wr x19 H ∧ Fr w x19) ∧ (listed.getD 8 false = true → listed.getD 7 false = true ∧ x20 = .agg #[.int .i64 113, x19]) ∧
    (listed.getD 9 false = true → ∃ g, x5 = .pointer (some ⟨g, 0, none⟩) ∧ w.heap.size < g ∧ (listed.getD 10 false = false → Row wr g 116 [.int .i64 0, .slice none 0 0]) ∧ (listed.getD 10 false = true → Row wr g 116 [.int .i64 113, x19])) ∧ (listed.getD 10 false = true → listed.getD 7 false = true ∧ listed.getD 9 false = true)
set_option maxRecDepth 100000 in
set_option maxHeartbeats 4000000 in
theorem numbered_8s (n o : Int) (s : ByteArray) (m d : Nat) (A B : Option Addr) (cap capB : Nat) (w : World) (h0 : 0 ≤ n) (h1 : n < 18446744073709551616) (hs256 : sgn 128 n) :
    Calls Tryd.prog 96 #[.agg #[.int .i64 8, .int .u64 n, .string s, .slice A m cap, .int .i64 o, .slice B d capB]] w (PcTo (NumW 8 n) 113 w) := by
  have hB := Row.alloc w [.int .i64 8, .int .u64 n, .string s, .slice A m cap, .int .i64 o, .slice B d capB] 25
  have C1 : Ch No w (w.alloc (.cells #[.int .i64 8, .int .u64 n, .string s, .slice A m cap, .int .i64 o, .slice B d capB] 25)) := (Ch.refl No w).alloc _
  have SW : w.heap.size + 1 ≤ (w.alloc (.cells #[.int .i64 8, .int .u64 n, .string s, .slice A m cap, .int .i64 o, .slice B d capB] 25)).heap.size := by simp
  have p0 := hB.cell 0 _ rfl
  have p1 := hB.cell 1 _ rfl
  have hz : fsz 8 = 4 := by kernel_rfl
  obtain ⟨z, hzz⟩ : ∃ z, IntKind.i64.wrap n = z := ⟨_, rfl⟩
  obtain ⟨H, hH⟩ : ∃ H, bg n 4 = H := ⟨_, rfl⟩
  have HH := hid hH
  have HP : Hid (NumW 8 n 113 (bg n 4)) := hid (.inl ⟨by kernel_rfl, by rw [hz]; rfl⟩)
  rw [hH] at HP
  clear hH
  have HF := hid (fun w => fixedSize_calls 8 w)
  rw [hz] at HF
  clear hz
  have hzb : -128 ≤ z ∧ z < 128 := by unfold sgn at hs256; rw [← hzz]; simp [IntKind.wrap, IntKind.bits, IntKind.signed]; omega
  have d1 : decide (-128 ≤ z) = true := decide_eq_true hzb.1
  have d2 : decide (z < 128) = true := decide_eq_true hzb.2
  go_enter Tryd.func96, Tryd.ntmps96
  go_wp2_with fail
  go_quiet (fail)
  have D1 : Ch No (w.alloc (.cells #[.int .i64 8, .int .u64 n, .string s, .slice A m cap, .int .i64 o, .slice B d capB] 25)) ((w.alloc (.cells #[.int .i64 8, .int .u64 n, .string s, .slice A m cap, .int .i64 o, .slice B d capB] 25)).drewN nq) := (Ch.refl No _).drewN nq
  go_wp2_with fail
  refine wp_region_any (by kernel_rfl) ?_
  refine wpAny_inv (J := NbJ8s n z o s m d A B cap capB w H) ?_ ?_ _ _ _ _ (Nat.le_trans List.countP_le_length (by rw [List.length_range]; exact Nat.le_refl _)) ?_
  · intro listed a wr i hJ hi
    obtain ⟨hs, hC, x5, x12, x13, x14, x15, x16, x17, x18, x19, x20, rfl, j0, j1, j2, j3, j4, j5, j6, j7, j8, j9, j10⟩ := hJ
    have hlt : i < 11 := ready_lt hi
    have hun := ready_un hi
    have hset := fun j => getD_set_is (listed := listed) (i := i) (by omega) j
    have hsz : (listed.setIfInBounds i true).size = 11 := by simpa using hs
    have hq := fun j (hj : j ≠ i) (h : (listed.setIfInBounds i true).getD j false = true) => (show listed.getD j false = true from by rw [hset j] at h; simpa [hj] using h)
    have hn := fun j (hj : j ≠ i) (h : (listed.setIfInBounds i true).getD j false = false) => (show listed.getD j false = false from by rw [hset j] at h; simpa [hj] using h)
    have hp := fun j (h : listed.getD j false = true) => (show (listed.setIfInBounds i true).getD j false = true from by rw [hset j]; simp [h])
    have HSZ := hC.size
    have c0 := hC.cell0 p0
    obtain rfl | rfl | rfl | rfl | rfl | rfl | rfl | rfl | rfl | rfl | rfl : i = 0 ∨ i = 1 ∨ i = 2 ∨ i = 3 ∨ i = 4 ∨ i = 5 ∨ i = 6 ∨ i = 7 ∨ i = 8 ∨ i = 9 ∨ i = 10 := by omega
    · skip
      refine wpOp_step rfl (fun K hK => ?_)
      go_simp
      refine hK _ _ ?_
      refine ⟨hsz, hC, x5, _, x13, x14, x15, x16, x17, x18, x19, x20, rfl, fun _ => rfl, fun h => j1 (hq 1 (by decide) h), fun h => j2 (hq 2 (by decide) h), fun h => j3 (hq 3 (by decide) h), fun h => j4 (hq 4 (by decide) h), fun h => j5 (hq 5 (by decide) h), fun h => j6 (hq 6 (by decide) h), fun h => j7 (hq 7 (by decide) h), fun h => have ⟨a, b⟩ := j8 (hq 8 (by decide) h); ⟨hp 7 a, b⟩, fun h => have ⟨a, b, c, d, e⟩ := j9 (hq 9 (by decide) h); ⟨a, b, c, fun h => (d (hn 10 (by decide) h)), fun h => (e (hq 10 (by decide) h))⟩, fun h => have ⟨a, b⟩ := j10 (hq 10 (by decide) h); ⟨hp 7 a, hp 9 b⟩⟩
    · obtain rfl := j0 (ready_dep hi 0 (by kernel_rfl))
      refine wpOp_step rfl (fun K hK => ?_)
      go_simp
      refine hK _ _ ?_
      refine ⟨hsz, hC, x5, _, _, x14, x15, x16, x17, x18, x19, x20, rfl, fun h => j0 (hq 0 (by decide) h), fun _ => rfl, fun h => j2 (hq 2 (by decide) h), fun h => j3 (hq 3 (by decide) h), fun h => j4 (hq 4 (by decide) h), fun h => j5 (hq 5 (by decide) h), fun h => j6 (hq 6 (by decide) h), fun h => j7 (hq 7 (by decide) h), fun h => have ⟨a, b⟩ := j8 (hq 8 (by decide) h); ⟨hp 7 a, b⟩, fun h => have ⟨a, b, c, d, e⟩ := j9 (hq 9 (by decide) h); ⟨a, b, c, fun h => (d (hn 10 (by decide) h)), fun h => (e (hq 10 (by decide) h))⟩, fun h => have ⟨a, b⟩ := j10 (hq 10 (by decide) h); ⟨hp 7 a, hp 9 b⟩⟩
    · obtain rfl := j1 (ready_dep hi 1 (by kernel_rfl))
      refine wpOp_step rfl (fun K hK => ?_)
      go_simp
      go_at_call 93
      refine (coded_calls 8 113 _ cd_8s).mono ?_
      rintro e wa ⟨rfl, hcha⟩
      try go_simp
      refine hK _ _ ?_
      refine ⟨hsz, hC.no_no hcha, x5, x12, _, _, x15, x16, x17, x18, x19, x20, rfl, fun h => j0 (hq 0 (by decide) h), fun h => j1 (hq 1 (by decide) h), fun _ => rfl, fun h => j3 (hq 3 (by decide) h), fun h => j4 (hq 4 (by decide) h), fun h => j5 (hq 5 (by decide) h), fun h => j6 (hq 6 (by decide) h), fun h => have ⟨a, b, c, d, e⟩ := j7 (hq 7 (by decide) h); ⟨a, b, c, d.keep0 hcha, e⟩, fun h => have ⟨a, b⟩ := j8 (hq 8 (by decide) h); ⟨hp 7 a, b⟩, fun h => have ⟨a, b, c, d, e⟩ := j9 (hq 9 (by decide) h); ⟨a, b, c, fun h => (d (hn 10 (by decide) h)).keep0 hcha, fun h => (e (hq 10 (by decide) h)).keep0 hcha⟩, fun h => have ⟨a, b⟩ := j10 (hq 10 (by decide) h); ⟨hp 7 a, hp 9 b⟩⟩
    · skip
      refine wpOp_step rfl (fun K hK => ?_)
      go_simp
      refine hK _ _ ?_
      refine ⟨hsz, hC, x5, x12, x13, x14, _, x16, x17, x18, x19, x20, rfl, fun h => j0 (hq 0 (by decide) h), fun h => j1 (hq 1 (by decide) h), fun h => j2 (hq 2 (by decide) h), fun _ => rfl, fun h => j4 (hq 4 (by decide) h), fun h => j5 (hq 5 (by decide) h), fun h => j6 (hq 6 (by decide) h), fun h => j7 (hq 7 (by decide) h), fun h => have ⟨a, b⟩ := j8 (hq 8 (by decide) h); ⟨hp 7 a, b⟩, fun h => have ⟨a, b, c, d, e⟩ := j9 (hq 9 (by decide) h); ⟨a, b, c, fun h => (d (hn 10 (by decide) h)), fun h => (e (hq 10 (by decide) h))⟩, fun h => have ⟨a, b⟩ := j10 (hq 10 (by decide) h); ⟨hp 7 a, hp 9 b⟩⟩
    · skip
      refine wpOp_step rfl (fun K hK => ?_)
      go_simp
      refine hK _ _ ?_
      refine ⟨hsz, hC, x5, x12, x13, x14, x15, _, x17, x18, x19, x20, rfl, fun h => j0 (hq 0 (by decide) h), fun h => j1 (hq 1 (by decide) h), fun h => j2 (hq 2 (by decide) h), fun h => j3 (hq 3 (by decide) h), fun _ => rfl, fun h => j5 (hq 5 (by decide) h), fun h => j6 (hq 6 (by decide) h), fun h => j7 (hq 7 (by decide) h), fun h => have ⟨a, b⟩ := j8 (hq 8 (by decide) h); ⟨hp 7 a, b⟩, fun h => have ⟨a, b, c, d, e⟩ := j9 (hq 9 (by decide) h); ⟨a, b, c, fun h => (d (hn 10 (by decide) h)), fun h => (e (hq 10 (by decide) h))⟩, fun h => have ⟨a, b⟩ := j10 (hq 10 (by decide) h); ⟨hp 7 a, hp 9 b⟩⟩
    · obtain rfl := j4 (ready_dep hi 4 (by kernel_rfl))
      refine wpOp_step rfl (fun K hK => ?_)
      go_simp
      refine hK _ _ ?_
      refine ⟨hsz, hC, x5, x12, x13, x14, x15, _, _, x18, x19, x20, rfl, fun h => j0 (hq 0 (by decide) h), fun h => j1 (hq 1 (by decide) h), fun h => j2 (hq 2 (by decide) h), fun h => j3 (hq 3 (by decide) h), fun h => j4 (hq 4 (by decide) h), fun _ => rfl, fun h => j6 (hq 6 (by decide) h), fun h => j7 (hq 7 (by decide) h), fun h => have ⟨a, b⟩ := j8 (hq 8 (by decide) h); ⟨hp 7 a, b⟩, fun h => have ⟨a, b, c, d, e⟩ := j9 (hq 9 (by decide) h); ⟨a, b, c, fun h => (d (hn 10 (by decide) h)), fun h => (e (hq 10 (by decide) h))⟩, fun h => have ⟨a, b⟩ := j10 (hq 10 (by decide) h); ⟨hp 7 a, hp 9 b⟩⟩
    · obtain rfl := j5 (ready_dep hi 5 (by kernel_rfl))
      refine wpOp_step rfl (fun K hK => ?_)
      go_simp
      go_at_call 102
      refine (HF.out _).mono ?_
      rintro e wa ⟨rfl, hcha⟩
      try go_simp
      refine hK _ _ ?_
      refine ⟨hsz, hC.no_no hcha, x5, x12, x13, x14, x15, x16, _, _, x19, x20, rfl, fun h => j0 (hq 0 (by decide) h), fun h => j1 (hq 1 (by decide) h), fun h => j2 (hq 2 (by decide) h), fun h => j3 (hq 3 (by decide) h), fun h => j4 (hq 4 (by decide) h), fun h => j5 (hq 5 (by decide) h), fun _ => rfl, fun h => have ⟨a, b, c, d, e⟩ := j7 (hq 7 (by decide) h); ⟨a, b, c, d.keep0 hcha, e⟩, fun h => have ⟨a, b⟩ := j8 (hq 8 (by decide) h); ⟨hp 7 a, b⟩, fun h => have ⟨a, b, c, d, e⟩ := j9 (hq 9 (by decide) h); ⟨a, b, c, fun h => (d (hn 10 (by decide) h)).keep0 hcha, fun h => (e (hq 10 (by decide) h)).keep0 hcha⟩, fun h => have ⟨a, b⟩ := j10 (hq 10 (by decide) h); ⟨hp 7 a, hp 9 b⟩⟩
    · obtain rfl := j3 (ready_dep hi 3 (by kernel_rfl))
      obtain rfl := j6 (ready_dep hi 6 (by kernel_rfl))
      refine wpOp_step rfl (fun K hK => ?_)
      go_simp
      go_at_call 105
      refine (big_calls n 4 _ (by omega) (by omega) h0 h1).mono ?_
      rintro e wa ⟨v, rfl, ho, hf, hcha⟩
      rw [HH.out] at ho
      obtain ⟨Ab, cb, rfl, _, _⟩ := ho.slice
      try go_simp
      refine hK _ _ ?_
      refine ⟨hsz, hC.no_no hcha, x5, x12, x13, x14, _, x16, x17, _, _, x20, rfl, fun h => j0 (hq 0 (by decide) h), fun h => j1 (hq 1 (by decide) h), fun h => j2 (hq 2 (by decide) h), fun h => j3 (hq 3 (by decide) h), fun h => j4 (hq 4 (by decide) h), fun h => j5 (hq 5 (by decide) h), fun h => j6 (hq 6 (by decide) h), (by intro _; exact ⟨Ab, cb, rfl, ho, hf.weak (by omega)⟩), (by intro h; rw [hset 8] at h; have h8 := (j8 (by simpa using h)).1; rw [hun] at h8; cases h8), (by intro h; rw [hset 9] at h; obtain ⟨g, e1, e2, e3, e4⟩ := j9 (by simpa using h); exact ⟨g, e1, e2, fun h => by rw [hset 10] at h; exact (e3 (by simpa using h)).keep0 hcha, fun h => by rw [hset 10] at h; have := (j10 (by simpa using h)).1; rw [hun] at this; cases this⟩), fun h => have ⟨a, b⟩ := j10 (hq 10 (by decide) h); ⟨hp 7 a, hp 9 b⟩⟩
    · obtain rfl := j2 (ready_dep hi 2 (by kernel_rfl))
      have d7 := ready_dep hi 7 (by kernel_rfl)
      obtain ⟨Ab, cb, rfl, e2, e3⟩ := j7 d7
      refine wpOp_step rfl (fun K hK => ?_)
      go_simp
      refine hK _ _ ?_
      refine ⟨hsz, hC, x5, x12, x13, _, x15, x16, x17, x18, _, _, rfl, fun h => j0 (hq 0 (by decide) h), fun h => j1 (hq 1 (by decide) h), fun h => j2 (hq 2 (by decide) h), fun h => j3 (hq 3 (by decide) h), fun h => j4 (hq 4 (by decide) h), fun h => j5 (hq 5 (by decide) h), fun h => j6 (hq 6 (by decide) h), (by intro _; exact ⟨Ab, cb, rfl, e2, e3⟩), (by intro _; exact ⟨by rw [hset]; simp [d7], rfl⟩), fun h => have ⟨a, b, c, d, e⟩ := j9 (hq 9 (by decide) h); ⟨a, b, c, fun h => (d (hn 10 (by decide) h)), fun h => (e (hq 10 (by decide) h))⟩, fun h => have ⟨a, b⟩ := j10 (hq 10 (by decide) h); ⟨hp 7 a, hp 9 b⟩⟩
    · skip
      refine wpOp_step rfl (fun K hK => ?_)
      go_simp
      refine hK _ _ ?_
      have hA : Ch No wr (wr.alloc (.cells #[.int .i64 0, .slice none 0 0] 116)) := (Ch.refl No wr).alloc _
      refine ⟨hsz, hC.no_no hA, _, x12, x13, x14, x15, x16, x17, x18, x19, x20, rfl, fun h => j0 (hq 0 (by decide) h), fun h => j1 (hq 1 (by decide) h), fun h => j2 (hq 2 (by decide) h), fun h => j3 (hq 3 (by decide) h), fun h => j4 (hq 4 (by decide) h), fun h => j5 (hq 5 (by decide) h), fun h => j6 (hq 6 (by decide) h), fun h => have ⟨a, b, c, d, e⟩ := j7 (hq 7 (by decide) h); ⟨a, b, c, d.keep0 hA, e⟩, fun h => have ⟨a, b⟩ := j8 (hq 8 (by decide) h); ⟨hp 7 a, b⟩, (by intro _; exact ⟨wr.heap.size, rfl, by omega, fun _ => Row.alloc wr [.int .i64 0, .slice none 0 0] 116, fun h => by rw [hset 10] at h; have := (j10 (by simpa using h)).2; rw [hun] at this; cases this⟩), fun h => have ⟨a, b⟩ := j10 (hq 10 (by decide) h); ⟨hp 7 a, hp 9 b⟩⟩
    · have d9 := ready_dep hi 9 (by kernel_rfl)
      have d8 := ready_dep hi 8 (by kernel_rfl)
      obtain ⟨d7, rfl⟩ := j8 d8
      obtain ⟨Ab, cb, rfl, f2, f3⟩ := j7 d7
      obtain ⟨g, rfl, e2, e3, _⟩ := j9 d9
      have hR := e3 hun
      refine wpOp_step rfl (fun K hK => ?_)
      refine step_store rfl rfl 116 _ _ rfl g 0 116 [.int .i64 0, .slice none 0 0] (.agg #[.int .i64 113, .slice Ab H.length cb]) rfl rfl [.int .i64 113, .slice Ab H.length cb] rfl size_pc (by simp [Value.oneCell']) hR (by simp) ?_
      intro w2 hrow2 hch2
      refine hK _ _ ?_
      refine ⟨hsz, hC.freshg hch2 (by simp only [World.size_alloc]; omega), _, x12, x13, x14, x15, x16, x17, x18, _, _, rfl, fun h => j0 (hq 0 (by decide) h), fun h => j1 (hq 1 (by decide) h), fun h => j2 (hq 2 (by decide) h), fun h => j3 (hq 3 (by decide) h), fun h => j4 (hq 4 (by decide) h), fun h => j5 (hq 5 (by decide) h), fun h => j6 (hq 6 (by decide) h), (by intro _; exact ⟨Ab, cb, rfl, f2.keep hch2 (fun b hb h => hR.apart f2 (by decide) (h ▸ hb)), f3⟩), (by intro _; exact ⟨by rw [hset]; simp [d7], rfl⟩), (by intro _; exact ⟨g, rfl, e2, fun h => by rw [hset 10] at h; simp at h, fun _ => by simpa using hrow2⟩), (by intro _; exact ⟨by rw [hset]; simp [d7], by rw [hset]; simp [d9]⟩)⟩
  · intro listed a wr hJ hr
    obtain ⟨hs, hC, x5, x12, x13, x14, x15, x16, x17, x18, x19, x20, rfl, j0, j1, j2, j3, j4, j5, j6, j7, j8, j9, j10⟩ := hJ
    have hE := fun i h1 h2 => ready_end (listed := listed) hr hs i h1 h2
    have u0 : listed.getD 0 false = true := hE 0 (by decide) (fun d h => by simp [depB, Region.binds] at h)
    have u3 : listed.getD 3 false = true := hE 3 (by decide) (fun d h => by simp [depB, Region.binds] at h)
    have u4 : listed.getD 4 false = true := hE 4 (by decide) (fun d h => by simp [depB, Region.binds] at h)
    have u9 : listed.getD 9 false = true := hE 9 (by decide) (fun d h => by simp [depB, Region.binds] at h)
    have u1 : listed.getD 1 false = true := hE 1 (by decide) (fun d h => by simp [depB, Region.binds] at h; first | (subst h; assumption) | (rcases h with h | h <;> (subst h; assumption)))
    have u5 : listed.getD 5 false = true := hE 5 (by decide) (fun d h => by simp [depB, Region.binds] at h; first | (subst h; assumption) | (rcases h with h | h <;> (subst h; assumption)))
    have u2 : listed.getD 2 false = true := hE 2 (by decide) (fun d h => by simp [depB, Region.binds] at h; first | (subst h; assumption) | (rcases h with h | h <;> (subst h; assumption)))
    have u6 : listed.getD 6 false = true := hE 6 (by decide) (fun d h => by simp [depB, Region.binds] at h; first | (subst h; assumption) | (rcases h with h | h <;> (subst h; assumption)))
    have u7 : listed.getD 7 false = true := hE 7 (by decide) (fun d h => by simp [depB, Region.binds] at h; first | (subst h; assumption) | (rcases h with h | h <;> (subst h; assumption)))
    have u8 : listed.getD 8 false = true := hE 8 (by decide) (fun d h => by simp [depB, Region.binds] at h; first | (subst h; assumption) | (rcases h with h | h <;> (subst h; assumption)))
    have u10 : listed.getD 10 false = true := hE 10 (by decide) (fun d h => by
      simp [depB, Region.binds] at h
      have hd : d < 10 := by omega
      obtain rfl | rfl | rfl | rfl | rfl | rfl | rfl | rfl | rfl | rfl : d = 0 ∨ d = 1 ∨ d = 2 ∨ d = 3 ∨ d = 4 ∨ d = 5 ∨ d = 6 ∨ d = 7 ∨ d = 8 ∨ d = 9 := by omega
      all_goals assumption)
    obtain ⟨Ab, cb, rfl, f2, f3⟩ := j7 u7
    obtain ⟨g, rfl, e2, _, e4⟩ := j9 u9
    have hR := e4 u10
    have c0 := hC.cell0 p0
    have y0 := hR.cell 0 _ rfl
    have y1 := hR.cell 1 _ rfl
    have c9 := ((Ch.refl No wr).alloc (.cells #[.int .i64 113, .slice Ab H.length cb] 116)).cell0 c0
    have HCC := hC
    clear j0 j1 j2 j3 j4 j5 j6 j7 j8 j9 j10 hE u0 u1 u2 u3 u4 u5 u6 u7 u8 u9 u10 hr hs
    obtain ⟨H1, hH1⟩ : ∃ H, bg n 1 = H := ⟨_, rfl⟩
    have HH1 := hid hH1
    have HP1 : Hid (NumW 8 n 84 (bg n 1)) := hid (.inr (.inr (.inr (.inl ⟨rfl, rfl, hs256, rfl⟩))))
    rw [hH1] at HP1
    clear hH1
    have hm0 := PMay.one (w0 := w) (P := NumW 8 n) (113, Ab, H.length, cb) HP.out f2.by f3 (C1.no_no hC).size
    have hC9 : Ch No w (wr.alloc (.cells #[.int .i64 113, .slice Ab H.length cb] 116)) := (C1.no_no hC).alloc _
    have hWs : w.heap.size ≤ (wr.alloc (.cells #[.int .i64 113, .slice Ab H.length cb] 116)).heap.size := hC9.size
    go_wp2_with fail
    refine wp_region_any (by kernel_rfl) ?_
    refine wpAny_inv (J := NsJ8 n w (wr.alloc (.cells #[.int .i64 113, .slice Ab H.length cb] 116)) (some ⟨wr.heap.size, 0, none⟩) 1 [(113, Ab, H.length, cb)] H1 (.agg #[.int .i64 8, .int .u64 n, .string s, .slice A m cap, .int .i64 o, .slice B d capB]) (.slice none 0 0) (.int .i64 z) (.pointer (some ⟨g, 0, none⟩)) (.pointer (some ⟨w.heap.size, 1, none⟩)) (.int .u64 n) (.pointer (some ⟨w.heap.size, 1, none⟩)) (.int .u64 n) (.int .i64 z) (x12) (x13) (x14) (x15) (x16) (x17) (x18) (.slice Ab H.length cb) (x20) (.agg #[.int .i64 113, .slice Ab H.length cb]) (.slice (some ⟨wr.heap.size, 0, none⟩) 1 1) (.pointer (some ⟨w.heap.size, 0, none⟩)) (.bool false) (.bool false) (.bool false) (undef) (undef) (.bool true) (.bool true) (undef) (.int .i64 z) (.bool true) (.bool true) (.int .i64 z) (.bool true) (.bool true)) ?_ ?_ _ _ _ _ (Nat.le_trans List.countP_le_length (by rw [List.length_range]; exact Nat.le_refl _)) ?_
    · clear HCC f2 f3 hR y0 y1 c0
      obtain ⟨xs, hxs⟩ : ∃ xs : List Pce, xs = [(113, Ab, H.length, cb)] := ⟨_, rfl⟩
      have HXL : Hid (xs.length = 1) := hid (by rw [hxs]; rfl)
      rw [← hxs]
      obtain ⟨A6, hA6⟩ : ∃ A6, some (⟨wr.heap.size, 0, none⟩ : Addr) = A6 := ⟨_, rfl⟩
      rw [hA6]
      clear hA6
      clear hxs hm0
      have HP := HP1
      have hH := HH1
      intro listed a wr i hJ hi
      obtain ⟨hs, hC, y6, y61, y62, y63, y64, y65, y66, y67, y68, y69, y70, y71, rfl, jm, j1, j2, j3, j4, j5, j6, j7, j8, j9, j10, j11, j12, j12b, j13, jn13, jp⟩ := hJ
      have hlt : i < 14 := ready_lt hi
      have hun := ready_un hi
      have hset := fun j => getD_set_is (listed := listed) (i := i) (by omega) j
      have hsz : (listed.setIfInBounds i true).size = 14 := by simpa using hs
      have hq := fun j (hj : j ≠ i) (h : (listed.setIfInBounds i true).getD j false = true) => (show listed.getD j false = true from by rw [hset j] at h; simpa [hj] using h)
      have hn := fun j (hj : j ≠ i) (h : (listed.setIfInBounds i true).getD j false = false) => (show listed.getD j false = false from by rw [hset j] at h; simpa [hj] using h)
      have hp := fun j (h : listed.getD j false = true) => (show (listed.setIfInBounds i true).getD j false = true from by rw [hset j]; simp [h])
      have HSZ := hC.size
      have c0 := hC.cell0 c9
      obtain rfl | rfl | rfl | rfl | rfl | rfl | rfl | rfl | rfl | rfl | rfl | rfl | rfl | rfl : i = 0 ∨ i = 1 ∨ i = 2 ∨ i = 3 ∨ i = 4 ∨ i = 5 ∨ i = 6 ∨ i = 7 ∨ i = 8 ∨ i = 9 ∨ i = 10 ∨ i = 11 ∨ i = 12 ∨ i = 13 := by omega
      · have l1 : listed.getD 1 false = false := by cases h : listed.getD 1 false with | false => rfl | true => (have := j1 h; rw [hun] at this; cases this)
        have l2 : listed.getD 2 false = false := by cases h : listed.getD 2 false with | false => rfl | true => (have := j2 h; rw [hun] at this; cases this)
        refine wpOp_step rfl (fun K hK => ?_)
        refine step_makeMap rfl 164 rfl .i64 ?_
        intro wm m hm HM HC
        refine hK _ _ ?_
        refine ⟨hsz, hC.no_no HC, _, _, _, _, _, _, _, _, _, _, _, _, rfl, (by intro _; exact ⟨m, rfl, fun h => (by have := (j3 (by simpa [hset] using h)).1; rw [l1] at this; cases this), fun _ => ⟨hC.no_le hm, [], HM, by rw [hset, hset]; simp [l1, l2, MF]⟩⟩), fun h => hp 0 (j1 (hq 1 (by decide) h)), fun h => hp 0 (j2 (hq 2 (by decide) h)), fun h => have ⟨a, b⟩ := j3 (hq 3 (by decide) h); ⟨hp 1 a, hp 2 b⟩, fun h => j4 (hq 4 (by decide) h), fun h => j5 (hq 5 (by decide) h), fun h => have ⟨a, b⟩ := j6 (hq 6 (by decide) h); ⟨hp 3 a, by first | exact b | rfl⟩, fun h => j7 (hq 7 (by decide) h), fun h => have ⟨a, b, c, d⟩ := j8 (hq 8 (by decide) h); ⟨a, b, c, d.1, fun h => (d.2 (hn 10 (by decide) h)).keep0 HC⟩, fun h => have ⟨a, b, c⟩ := j9 (hq 9 (by decide) h); ⟨hp 8 a, hp 6 b, c⟩, fun h => have ⟨a, g, c, d, e⟩ := j10 (hq 10 (by decide) h); ⟨hp 9 a, g, c, d, fun h => have ⟨p, q, r⟩ := e (hn 12 (by decide) h); ⟨p, q, r.keep0 HC⟩⟩, fun h => by first | rfl | exact j11 (hq 11 (by decide) h), fun h => have ⟨a, b, c, d⟩ := j12 (hq 12 (by decide) h); ⟨hp 10 a, b, c, d.keep0 HC⟩, fun h => hp 11 (j12b (hq 12 (by decide) h)), fun h => have ⟨a, b⟩ := j13 (hq 13 (by decide) h); ⟨hp 12 a, b⟩, fun h => jn13 (hn 13 (by decide) h), fun h => (jp (hn 12 (by decide) h)).keep0 HC⟩
      · have d0 := ready_dep hi 0 (by kernel_rfl)
        obtain ⟨mm, rfl, e2, e3⟩ := jm d0
        have l3 : listed.getD 3 false = false := by cases h : listed.getD 3 false with | false => rfl | true => (have := (j3 h).1; rw [hun] at this; cases this)
        have l6 : listed.getD 6 false = false := by cases h : listed.getD 6 false with | false => rfl | true => (have := (j6 h).1; rw [l3] at this; cases this)
        have l10 : listed.getD 10 false = false := by cases h : listed.getD 10 false with | false => rfl | true => (have := (j9 (j10 h).1).2.1; rw [l6] at this; cases this)
        have l12 : listed.getD 12 false = false := by cases h : listed.getD 12 false with | false => rfl | true => (have := (j12 h).1; rw [l10] at this; cases this)
        obtain ⟨e4, kvs, e5, e6⟩ := e3 l6
        refine wpOp_step rfl (fun K hK => ?_)
        refine step_insertM rfl rfl 164 3 3 _ _ _ rfl .i64 Tryd.underlying164 Tryd.underlying3 mm 8 (.int .i64 84) kvs rfl rfl rfl e5 (by cases h2 : listed.getD 2 false <;> simp_all [MF, look]) ?_
        intro wm HM HC
        refine hK _ _ ?_
        refine ⟨hsz, hC.trans HC (fun _ h => h) (fun b hb => .inr (by have h9 : b = mm := hb; omega)), _, _, _, _, _, _, _, _, _, _, _, _, rfl, (by intro _; exact ⟨mm, rfl, fun h => by rw [hset] at h; simp [l3] at h, fun _ => ⟨e4, _, HM, by rw [hset, hset]; simp only [decide_true, Bool.true_or]; cases h2 : listed.getD 2 false <;> simp_all [MF]⟩⟩), (by intro _; rw [hset]; simp [d0]), fun h => hp 0 (j2 (hq 2 (by decide) h)), fun h => have ⟨a, b⟩ := j3 (hq 3 (by decide) h); ⟨hp 1 a, hp 2 b⟩, fun h => j4 (hq 4 (by decide) h), fun h => j5 (hq 5 (by decide) h), fun h => have ⟨a, b⟩ := j6 (hq 6 (by decide) h); ⟨hp 3 a, by first | exact b | rfl⟩, fun h => j7 (hq 7 (by decide) h), (by intro h; obtain ⟨Ab, cb, f1, f2, f3⟩ := j8 (by simpa [hset] using h); exact ⟨Ab, cb, f1, f2, fun h => (f3 l10).keepM e5 HC⟩), fun h => have ⟨a, b, c⟩ := j9 (hq 9 (by decide) h); ⟨hp 8 a, hp 6 b, c⟩, (by intro h; rw [hset] at h; simp [l10] at h), fun h => by first | rfl | exact j11 (hq 11 (by decide) h), (by intro h; rw [hset] at h; simp [l12] at h), fun h => hp 11 (j12b (hq 12 (by decide) h)), fun h => have ⟨a, b⟩ := j13 (hq 13 (by decide) h); ⟨hp 12 a, b⟩, fun h => jn13 (hn 13 (by decide) h), (by intro h; exact (jp l12).keepM e5 HC)⟩
      · have d0 := ready_dep hi 0 (by kernel_rfl)
        obtain ⟨mm, rfl, e2, e3⟩ := jm d0
        have l3 : listed.getD 3 false = false := by cases h : listed.getD 3 false with | false => rfl | true => (have := (j3 h).2; rw [hun] at this; cases this)
        have l6 : listed.getD 6 false = false := by cases h : listed.getD 6 false with | false => rfl | true => (have := (j6 h).1; rw [l3] at this; cases this)
        have l10 : listed.getD 10 false = false := by cases h : listed.getD 10 false with | false => rfl | true => (have := (j9 (j10 h).1).2.1; rw [l6] at this; cases this)
        have l12 : listed.getD 12 false = false := by cases h : listed.getD 12 false with | false => rfl | true => (have := (j12 h).1; rw [l10] at this; cases this)
        obtain ⟨e4, kvs, e5, e6⟩ := e3 l6
        refine wpOp_step rfl (fun K hK => ?_)
        refine step_insertM rfl rfl 164 3 3 _ _ _ rfl .i64 Tryd.underlying164 Tryd.underlying3 mm 9 (.int .i64 85) kvs rfl rfl rfl e5 (by cases h2 : listed.getD 1 false <;> simp_all [MF, look]) ?_
        intro wm HM HC
        refine hK _ _ ?_
        refine ⟨hsz, hC.trans HC (fun _ h => h) (fun b hb => .inr (by have h9 : b = mm := hb; omega)), _, _, _, _, _, _, _, _, _, _, _, _, rfl, (by intro _; exact ⟨mm, rfl, fun h => by rw [hset] at h; simp [l3] at h, fun _ => ⟨e4, _, HM, by rw [hset, hset]; cases h2 : listed.getD 1 false <;> simp_all [MF]⟩⟩), fun h => hp 0 (j1 (hq 1 (by decide) h)), (by intro _; rw [hset]; simp [d0]), fun h => have ⟨a, b⟩ := j3 (hq 3 (by decide) h); ⟨hp 1 a, hp 2 b⟩, fun h => j4 (hq 4 (by decide) h), fun h => j5 (hq 5 (by decide) h), fun h => have ⟨a, b⟩ := j6 (hq 6 (by decide) h); ⟨hp 3 a, by first | exact b | rfl⟩, fun h => j7 (hq 7 (by decide) h), (by intro h; obtain ⟨Ab, cb, f1, f2, f3⟩ := j8 (by simpa [hset] using h); exact ⟨Ab, cb, f1, f2, fun h => (f3 l10).keepM e5 HC⟩), fun h => have ⟨a, b, c⟩ := j9 (hq 9 (by decide) h); ⟨hp 8 a, hp 6 b, c⟩, (by intro h; rw [hset] at h; simp [l10] at h), fun h => by first | rfl | exact j11 (hq 11 (by decide) h), (by intro h; rw [hset] at h; simp [l12] at h), fun h => hp 11 (j12b (hq 12 (by decide) h)), fun h => have ⟨a, b⟩ := j13 (hq 13 (by decide) h); ⟨hp 12 a, b⟩, fun h => jn13 (hn 13 (by decide) h), (by intro h; exact (jp l12).keepM e5 HC)⟩
      · have d0 := ready_dep hi 0 (by kernel_rfl)
        have d1 := ready_dep hi 1 (by kernel_rfl)
        have d2 := ready_dep hi 2 (by kernel_rfl)
        obtain ⟨mm, rfl, e2, e3⟩ := jm d0
        refine wpOp_step rfl (fun K hK => ?_)
        go_simp
        refine hK _ _ ?_
        refine ⟨hsz, hC, _, _, _, _, _, _, _, _, _, _, _, _, rfl, (by intro _; exact ⟨mm, rfl, fun _ => rfl, fun h => by obtain ⟨e4, kvs, e5, e6⟩ := e3 (by simpa [hset] using h); exact ⟨e4, kvs, e5, by simpa [hset] using e6⟩⟩), fun h => hp 0 (j1 (hq 1 (by decide) h)), fun h => hp 0 (j2 (hq 2 (by decide) h)), (by intro _; exact ⟨by rw [hset]; simp [d1], by rw [hset]; simp [d2]⟩), fun h => j4 (hq 4 (by decide) h), fun h => j5 (hq 5 (by decide) h), fun h => have ⟨a, b⟩ := j6 (hq 6 (by decide) h); ⟨hp 3 a, by first | exact b | rfl⟩, fun h => j7 (hq 7 (by decide) h), fun h => have ⟨a, b, c, d⟩ := j8 (hq 8 (by decide) h); ⟨a, b, c, d.1, fun h => (d.2 (hn 10 (by decide) h))⟩, fun h => have ⟨a, b, c⟩ := j9 (hq 9 (by decide) h); ⟨hp 8 a, hp 6 b, c⟩, fun h => have ⟨a, g, c, d, e⟩ := j10 (hq 10 (by decide) h); ⟨hp 9 a, g, c, d, fun h => have ⟨p, q, r⟩ := e (hn 12 (by decide) h); ⟨p, q, r⟩⟩, fun h => by first | rfl | exact j11 (hq 11 (by decide) h), fun h => have ⟨a, b, c, d⟩ := j12 (hq 12 (by decide) h); ⟨hp 10 a, b, c, d⟩, fun h => hp 11 (j12b (hq 12 (by decide) h)), fun h => have ⟨a, b⟩ := j13 (hq 13 (by decide) h); ⟨hp 12 a, b⟩, fun h => jn13 (hn 13 (by decide) h), fun h => (jp (hn 12 (by decide) h))⟩
      · skip
        refine wpOp_step rfl (fun K hK => ?_)
        go_simp
        refine hK _ _ ?_
        refine ⟨hsz, hC, _, _, _, _, _, _, _, _, _, _, _, _, rfl, fun h => have ⟨a, b, c, d⟩ := jm (hq 0 (by decide) h); ⟨a, b, fun h => c (hq 3 (by decide) h), fun h => have ⟨p, q, r, s⟩ := d (hn 6 (by decide) h); ⟨p, q, r, by simpa [hset] using s⟩⟩, fun h => hp 0 (j1 (hq 1 (by decide) h)), fun h => hp 0 (j2 (hq 2 (by decide) h)), fun h => have ⟨a, b⟩ := j3 (hq 3 (by decide) h); ⟨hp 1 a, hp 2 b⟩, (by intro _; rfl), fun h => j5 (hq 5 (by decide) h), fun h => have ⟨a, b⟩ := j6 (hq 6 (by decide) h); ⟨hp 3 a, by first | exact b | rfl⟩, fun h => j7 (hq 7 (by decide) h), fun h => have ⟨a, b, c, d⟩ := j8 (hq 8 (by decide) h); ⟨a, b, c, d.1, fun h => (d.2 (hn 10 (by decide) h))⟩, fun h => have ⟨a, b, c⟩ := j9 (hq 9 (by decide) h); ⟨hp 8 a, hp 6 b, c⟩, fun h => have ⟨a, g, c, d, e⟩ := j10 (hq 10 (by decide) h); ⟨hp 9 a, g, c, d, fun h => have ⟨p, q, r⟩ := e (hn 12 (by decide) h); ⟨p, q, r⟩⟩, fun h => by first | rfl | exact j11 (hq 11 (by decide) h), fun h => have ⟨a, b, c, d⟩ := j12 (hq 12 (by decide) h); ⟨hp 10 a, b, c, d⟩, fun h => hp 11 (j12b (hq 12 (by decide) h)), fun h => have ⟨a, b⟩ := j13 (hq 13 (by decide) h); ⟨hp 12 a, b⟩, fun h => jn13 (hn 13 (by decide) h), fun h => (jp (hn 12 (by decide) h))⟩
      · obtain rfl := j4 (ready_dep hi 4 (by kernel_rfl))
        refine wpOp_step rfl (fun K hK => ?_)
        go_simp
        refine hK _ _ ?_
        refine ⟨hsz, hC, _, _, _, _, _, _, _, _, _, _, _, _, rfl, fun h => have ⟨a, b, c, d⟩ := jm (hq 0 (by decide) h); ⟨a, b, fun h => c (hq 3 (by decide) h), fun h => have ⟨p, q, r, s⟩ := d (hn 6 (by decide) h); ⟨p, q, r, by simpa [hset] using s⟩⟩, fun h => hp 0 (j1 (hq 1 (by decide) h)), fun h => hp 0 (j2 (hq 2 (by decide) h)), fun h => have ⟨a, b⟩ := j3 (hq 3 (by decide) h); ⟨hp 1 a, hp 2 b⟩, fun h => j4 (hq 4 (by decide) h), (by intro _; rfl), fun h => have ⟨a, b⟩ := j6 (hq 6 (by decide) h); ⟨hp 3 a, by first | exact b | rfl⟩, fun h => j7 (hq 7 (by decide) h), fun h => have ⟨a, b, c, d⟩ := j8 (hq 8 (by decide) h); ⟨a, b, c, d.1, fun h => (d.2 (hn 10 (by decide) h))⟩, fun h => have ⟨a, b, c⟩ := j9 (hq 9 (by decide) h); ⟨hp 8 a, hp 6 b, c⟩, fun h => have ⟨a, g, c, d, e⟩ := j10 (hq 10 (by decide) h); ⟨hp 9 a, g, c, d, fun h => have ⟨p, q, r⟩ := e (hn 12 (by decide) h); ⟨p, q, r⟩⟩, fun h => by first | rfl | exact j11 (hq 11 (by decide) h), fun h => have ⟨a, b, c, d⟩ := j12 (hq 12 (by decide) h); ⟨hp 10 a, b, c, d⟩, fun h => hp 11 (j12b (hq 12 (by decide) h)), fun h => have ⟨a, b⟩ := j13 (hq 13 (by decide) h); ⟨hp 12 a, b⟩, fun h => jn13 (hn 13 (by decide) h), fun h => (jp (hn 12 (by decide) h))⟩
      · have d3 := ready_dep hi 3 (by kernel_rfl)
        obtain ⟨d1, d2⟩ := j3 d3
        have d0 := j1 d1
        obtain ⟨mm, rfl, e2, e3⟩ := jm d0
        obtain rfl := e2 d3
        obtain ⟨e4, kvs, e5, e6⟩ := e3 hun
        obtain rfl := j5 (ready_dep hi 5 (by kernel_rfl))
        refine wpOp_step rfl (fun K hK => ?_)
        refine step_look rfl 164 3 3 _ _ rfl .i64 Tryd.underlying164 Tryd.underlying3 (.int .i64 0) zero_int mm 8 kvs rfl rfl e5 (.int .i64 84) (by rcases e6.2.2.2 d1 d2 with rfl | rfl <;> simp [look]) ?_
        refine hK _ _ ?_
        refine ⟨hsz, hC, _, _, _, _, _, _, _, _, _, _, _, _, rfl, (by intro _; exact ⟨mm, rfl, fun _ => rfl, fun h => by rw [hset] at h; simp at h⟩), fun h => hp 0 (j1 (hq 1 (by decide) h)), fun h => hp 0 (j2 (hq 2 (by decide) h)), fun h => have ⟨a, b⟩ := j3 (hq 3 (by decide) h); ⟨hp 1 a, hp 2 b⟩, fun h => j4 (hq 4 (by decide) h), fun h => j5 (hq 5 (by decide) h), (by intro _; exact ⟨by rw [hset]; simp [d3], rfl⟩), fun h => j7 (hq 7 (by decide) h), fun h => have ⟨a, b, c, d⟩ := j8 (hq 8 (by decide) h); ⟨a, b, c, d.1, fun h => (d.2 (hn 10 (by decide) h))⟩, fun h => have ⟨a, b, c⟩ := j9 (hq 9 (by decide) h); ⟨hp 8 a, hp 6 b, c⟩, fun h => have ⟨a, g, c, d, e⟩ := j10 (hq 10 (by decide) h); ⟨hp 9 a, g, c, d, fun h => have ⟨p, q, r⟩ := e (hn 12 (by decide) h); ⟨p, q, r⟩⟩, fun h => by first | rfl | exact j11 (hq 11 (by decide) h), fun h => have ⟨a, b, c, d⟩ := j12 (hq 12 (by decide) h); ⟨hp 10 a, b, c, d⟩, fun h => hp 11 (j12b (hq 12 (by decide) h)), fun h => have ⟨a, b⟩ := j13 (hq 13 (by decide) h); ⟨hp 12 a, b⟩, fun h => jn13 (hn 13 (by decide) h), fun h => (jp (hn 12 (by decide) h))⟩
      · skip
        refine wpOp_step rfl (fun K hK => ?_)
        go_simp
        refine hK _ _ ?_
        refine ⟨hsz, hC, _, _, _, _, _, _, _, _, _, _, _, _, rfl, fun h => have ⟨a, b, c, d⟩ := jm (hq 0 (by decide) h); ⟨a, b, fun h => c (hq 3 (by decide) h), fun h => have ⟨p, q, r, s⟩ := d (hn 6 (by decide) h); ⟨p, q, r, by simpa [hset] using s⟩⟩, fun h => hp 0 (j1 (hq 1 (by decide) h)), fun h => hp 0 (j2 (hq 2 (by decide) h)), fun h => have ⟨a, b⟩ := j3 (hq 3 (by decide) h); ⟨hp 1 a, hp 2 b⟩, fun h => j4 (hq 4 (by decide) h), fun h => j5 (hq 5 (by decide) h), fun h => have ⟨a, b⟩ := j6 (hq 6 (by decide) h); ⟨hp 3 a, by first | exact b | rfl⟩, (by intro _; rfl), fun h => have ⟨a, b, c, d⟩ := j8 (hq 8 (by decide) h); ⟨a, b, c, d.1, fun h => (d.2 (hn 10 (by decide) h))⟩, fun h => have ⟨a, b, c⟩ := j9 (hq 9 (by decide) h); ⟨hp 8 a, hp 6 b, c⟩, fun h => have ⟨a, g, c, d, e⟩ := j10 (hq 10 (by decide) h); ⟨hp 9 a, g, c, d, fun h => have ⟨p, q, r⟩ := e (hn 12 (by decide) h); ⟨p, q, r⟩⟩, fun h => by first | rfl | exact j11 (hq 11 (by decide) h), fun h => have ⟨a, b, c, d⟩ := j12 (hq 12 (by decide) h); ⟨hp 10 a, b, c, d⟩, fun h => hp 11 (j12b (hq 12 (by decide) h)), fun h => have ⟨a, b⟩ := j13 (hq 13 (by decide) h); ⟨hp 12 a, b⟩, fun h => jn13 (hn 13 (by decide) h), fun h => (jp (hn 12 (by decide) h))⟩
      · obtain rfl := j7 (ready_dep hi 7 (by kernel_rfl))
        refine wpOp_step rfl (fun K hK => ?_)
        go_simp
        go_at_call 105
        refine (big_calls n 1 _ (by omega) (by omega) h0 h1).mono ?_
        rintro e wa ⟨v, rfl, ho, hf, hcha⟩
        rw [hH.out] at ho
        obtain ⟨Ab, cb, rfl, _, _⟩ := ho.slice
        try go_simp
        refine hK _ _ ?_
        refine ⟨hsz, hC.no_no hcha, _, _, _, _, _, _, _, _, _, _, _, _, rfl, fun h => have ⟨a, b, c, d⟩ := jm (hq 0 (by decide) h); ⟨a, b, fun h => c (hq 3 (by decide) h), fun h => have ⟨p, q, r, s⟩ := d (hn 6 (by decide) h); ⟨p, q, r.keep hcha (fun h => h), by simpa [hset] using s⟩⟩, fun h => hp 0 (j1 (hq 1 (by decide) h)), fun h => hp 0 (j2 (hq 2 (by decide) h)), fun h => have ⟨a, b⟩ := j3 (hq 3 (by decide) h); ⟨hp 1 a, hp 2 b⟩, fun h => j4 (hq 4 (by decide) h), fun h => j5 (hq 5 (by decide) h), fun h => have ⟨a, b⟩ := j6 (hq 6 (by decide) h); ⟨hp 3 a, by first | exact b | rfl⟩, fun h => j7 (hq 7 (by decide) h), (by intro _; exact ⟨Ab, cb, rfl, hf.weak (by omega), fun _ => ho⟩), (by intro h; have := (j9 (by simpa [hset] using h)).1; rw [hun] at this; cases this), fun h => have ⟨a, g, c, d, e⟩ := j10 (hq 10 (by decide) h); ⟨hp 9 a, g, c, d, fun h => have ⟨p, q, r⟩ := e (hn 12 (by decide) h); ⟨p, q, r.keep0 hcha⟩⟩, fun h => by first | rfl | exact j11 (hq 11 (by decide) h), fun h => have ⟨a, b, c, d⟩ := j12 (hq 12 (by decide) h); ⟨hp 10 a, b, c, d.keep0 hcha⟩, fun h => hp 11 (j12b (hq 12 (by decide) h)), fun h => have ⟨a, b⟩ := j13 (hq 13 (by decide) h); ⟨hp 12 a, b⟩, fun h => jn13 (hn 13 (by decide) h), fun h => (jp (hn 12 (by decide) h)).keep0 hcha⟩
      · have d6 := ready_dep hi 6 (by kernel_rfl)
        have d8 := ready_dep hi 8 (by kernel_rfl)
        obtain ⟨f1, rfl⟩ := j6 d6
        obtain ⟨Ab, cb, rfl, e2, e3⟩ := j8 d8
        refine wpOp_step rfl (fun K hK => ?_)
        go_simp
        refine hK _ _ ?_
        refine ⟨hsz, hC, _, _, _, _, _, _, _, _, _, _, _, _, rfl, fun h => have ⟨a, b, c, d⟩ := jm (hq 0 (by decide) h); ⟨a, b, fun h => c (hq 3 (by decide) h), fun h => have ⟨p, q, r, s⟩ := d (hn 6 (by decide) h); ⟨p, q, r, by simpa [hset] using s⟩⟩, fun h => hp 0 (j1 (hq 1 (by decide) h)), fun h => hp 0 (j2 (hq 2 (by decide) h)), fun h => have ⟨a, b⟩ := j3 (hq 3 (by decide) h); ⟨hp 1 a, hp 2 b⟩, fun h => j4 (hq 4 (by decide) h), fun h => j5 (hq 5 (by decide) h), (by intro _; exact ⟨by rw [hset]; simp [f1], rfl⟩), fun h => j7 (hq 7 (by decide) h), (by intro h; exact ⟨Ab, cb, rfl, e2, fun h => e3 (by simpa [hset] using h)⟩), (by intro _; exact ⟨by rw [hset]; simp [d8], by rw [hset]; simp [d6], rfl⟩), fun h => have ⟨a, g, c, d, e⟩ := j10 (hq 10 (by decide) h); ⟨hp 9 a, g, c, d, fun h => have ⟨p, q, r⟩ := e (hn 12 (by decide) h); ⟨p, q, r⟩⟩, fun h => by first | rfl | exact j11 (hq 11 (by decide) h), fun h => have ⟨a, b, c, d⟩ := j12 (hq 12 (by decide) h); ⟨hp 10 a, b, c, d⟩, fun h => hp 11 (j12b (hq 12 (by decide) h)), fun h => have ⟨a, b⟩ := j13 (hq 13 (by decide) h); ⟨hp 12 a, b⟩, fun h => jn13 (hn 13 (by decide) h), fun h => (jp (hn 12 (by decide) h))⟩
      · have d9 := ready_dep hi 9 (by kernel_rfl)
        obtain ⟨d8, d6, rfl⟩ := j9 d9
        obtain ⟨Ab, cb, rfl, e2, e3⟩ := j8 d8
        have hm := PMay.one (w0 := w) (P := NumW 8 n) (84, Ab, H1.length, cb) HP.out (e3 hun).by e2 (by omega)
        have hA : Ch No wr (wr.alloc (.cells (pc (84, Ab, H1.length, cb)).toArray 116)) := (Ch.refl No wr).alloc _
        have l12 : listed.getD 12 false = false := by cases h : listed.getD 12 false with | false => rfl | true => (have := (j12 h).1; rw [hun] at this; cases this)
        refine wpOp_step rfl (fun K hK => ?_)
        go_simp
        refine hK _ _ ?_
        refine ⟨hsz, hC.no_no hA, _, _, _, _, _, _, _, _, _, _, _, _, rfl, fun h => have ⟨a, b, c, d⟩ := jm (hq 0 (by decide) h); ⟨a, b, fun h => c (hq 3 (by decide) h), fun h => have ⟨p, q, r, s⟩ := d (hn 6 (by decide) h); ⟨p, q, r.keep hA (fun h => h), by simpa [hset] using s⟩⟩, fun h => hp 0 (j1 (hq 1 (by decide) h)), fun h => hp 0 (j2 (hq 2 (by decide) h)), fun h => have ⟨a, b⟩ := j3 (hq 3 (by decide) h); ⟨hp 1 a, hp 2 b⟩, fun h => j4 (hq 4 (by decide) h), fun h => j5 (hq 5 (by decide) h), fun h => have ⟨a, b⟩ := j6 (hq 6 (by decide) h); ⟨hp 3 a, by first | exact b | rfl⟩, fun h => j7 (hq 7 (by decide) h), (by intro h; exact ⟨Ab, cb, rfl, e2, fun h => by rw [hset] at h; simp at h⟩), (by intro _; exact ⟨by rw [hset]; simp [d8], by rw [hset]; simp [d6], rfl⟩), (by intro _; exact ⟨by rw [hset]; simp [d9], wr.heap.size, rfl, HSZ, fun _ => ⟨Ab, cb, hm⟩⟩), fun h => by first | rfl | exact j11 (hq 11 (by decide) h), (by intro h; rw [hset] at h; simp [l12] at h), fun h => hp 11 (j12b (hq 12 (by decide) h)), fun h => have ⟨a, b⟩ := j13 (hq 13 (by decide) h); ⟨hp 12 a, b⟩, fun h => jn13 (hn 13 (by decide) h), fun h => (jp (hn 12 (by decide) h)).keep0 hA⟩
      · have l13 : listed.getD 13 false = false := by cases h : listed.getD 13 false with | false => rfl | true => (have := j12b (j13 h).1; rw [hun] at this; cases this)
        obtain rfl := jn13 l13
        refine wpOp_step rfl (fun K hK => ?_)
        go_simp
        refine hK _ _ ?_
        refine ⟨hsz, hC, _, _, _, _, _, _, _, _, _, _, _, _, rfl, fun h => have ⟨a, b, c, d⟩ := jm (hq 0 (by decide) h); ⟨a, b, fun h => c (hq 3 (by decide) h), fun h => have ⟨p, q, r, s⟩ := d (hn 6 (by decide) h); ⟨p, q, r, by simpa [hset] using s⟩⟩, fun h => hp 0 (j1 (hq 1 (by decide) h)), fun h => hp 0 (j2 (hq 2 (by decide) h)), fun h => have ⟨a, b⟩ := j3 (hq 3 (by decide) h); ⟨hp 1 a, hp 2 b⟩, fun h => j4 (hq 4 (by decide) h), fun h => j5 (hq 5 (by decide) h), fun h => have ⟨a, b⟩ := j6 (hq 6 (by decide) h); ⟨hp 3 a, by first | exact b | rfl⟩, fun h => j7 (hq 7 (by decide) h), fun h => have ⟨a, b, c, d⟩ := j8 (hq 8 (by decide) h); ⟨a, b, c, d.1, fun h => (d.2 (hn 10 (by decide) h))⟩, fun h => have ⟨a, b, c⟩ := j9 (hq 9 (by decide) h); ⟨hp 8 a, hp 6 b, c⟩, fun h => have ⟨a, g, c, d, e⟩ := j10 (hq 10 (by decide) h); ⟨hp 9 a, g, c, d, fun h => have ⟨p, q, r⟩ := e (hn 12 (by decide) h); ⟨p, q, r⟩⟩, (by intro _; rfl), fun h => have ⟨a, b, c, d⟩ := j12 (hq 12 (by decide) h); ⟨hp 10 a, b, c, d⟩, (by intro _; rw [hset]; simp), (by intro h; rw [hset] at h; simp [l13] at h), (by intro _; rfl), fun h => (jp (hn 12 (by decide) h))⟩
      · have d10 := ready_dep hi 10 (by kernel_rfl)
        have d11 := ready_dep hi 11 (by kernel_rfl)
        obtain rfl := j11 d11
        obtain ⟨d9, g, rfl, e3, e4⟩ := j10 d10
        obtain ⟨Ab, cb, hm⟩ := e4 hun
        have hx := jp hun
        have hxl := HXL.out
        obtain ⟨d8, d6, f9⟩ := j9 d9
        refine wpOp_step rfl (fun K hK => ?_)
        refine step_appendM rfl _ _ 113 116 _ 2 32 rfl Tryd.underlying113 info_pc rfl (by decide) (by decide) (by decide) (.slice (some ⟨g, 0, none⟩) 1 1) 1 ([((84, Ab, H1.length, cb) : Pce)].flatMap pc) (xs.flatMap pc) A6 xs.length 1 rfl rfl (pcs_len xs) (pcs_one _) hm.1 hx.src (by omega) ?_
        intro v1 w1 ho1 hch1 hat1
        have hm1 := hm.cat hx (by omega) ho1 hch1 hat1
        refine hK _ _ ?_
        refine ⟨hsz, hC.trans hch1 (fun _ h => h) (fun b hb => .inr (by have := Blk_slice.1 hb; omega)), _, _, _, _, _, _, _, _, _, _, _, _, rfl, (by intro h; obtain ⟨mm, f1, f2, f3⟩ := jm (by simpa [hset] using h); exact ⟨mm, f1, fun h => f2 (by simpa [hset] using h), fun h => by rw [hset] at h; simp [d6] at h⟩), fun h => hp 0 (j1 (hq 1 (by decide) h)), fun h => hp 0 (j2 (hq 2 (by decide) h)), fun h => have ⟨a, b⟩ := j3 (hq 3 (by decide) h); ⟨hp 1 a, hp 2 b⟩, fun h => j4 (hq 4 (by decide) h), fun h => j5 (hq 5 (by decide) h), fun h => have ⟨a, b⟩ := j6 (hq 6 (by decide) h); ⟨hp 3 a, by first | exact b | rfl⟩, fun h => j7 (hq 7 (by decide) h), (by intro h; obtain ⟨Ab, cb, f1, f2, f3⟩ := j8 (by simpa [hset] using h); exact ⟨Ab, cb, f1, f2, fun h => by rw [hset] at h; simp [d10] at h⟩), fun h => have ⟨a, b, c⟩ := j9 (hq 9 (by decide) h); ⟨hp 8 a, hp 6 b, c⟩, (by intro _; exact ⟨by rw [hset]; simp [d9], g, rfl, e3, fun h => by rw [hset] at h; simp at h⟩), fun h => by first | rfl | exact j11 (hq 11 (by decide) h), (by intro _; exact ⟨by rw [hset]; simp [d10], Ab, cb, hm1⟩), (by intro _; rw [hset]; simp [d11]), (by intro h; have := (j13 (by simpa [hset] using h)).1; rw [hun] at this; cases this), fun h => jn13 (hn 13 (by decide) h), (by intro h; rw [hset] at h; simp at h)⟩
      · have d12 := ready_dep hi 12 (by kernel_rfl)
        refine wpOp_step rfl (fun K hK => ?_)
        go_simp
        refine hK _ _ ?_
        refine ⟨hsz, hC, _, _, _, _, _, _, _, _, _, _, _, _, rfl, fun h => have ⟨a, b, c, d⟩ := jm (hq 0 (by decide) h); ⟨a, b, fun h => c (hq 3 (by decide) h), fun h => have ⟨p, q, r, s⟩ := d (hn 6 (by decide) h); ⟨p, q, r, by simpa [hset] using s⟩⟩, fun h => hp 0 (j1 (hq 1 (by decide) h)), fun h => hp 0 (j2 (hq 2 (by decide) h)), fun h => have ⟨a, b⟩ := j3 (hq 3 (by decide) h); ⟨hp 1 a, hp 2 b⟩, fun h => j4 (hq 4 (by decide) h), fun h => j5 (hq 5 (by decide) h), fun h => have ⟨a, b⟩ := j6 (hq 6 (by decide) h); ⟨hp 3 a, by first | exact b | rfl⟩, fun h => j7 (hq 7 (by decide) h), fun h => have ⟨a, b, c, d⟩ := j8 (hq 8 (by decide) h); ⟨a, b, c, d.1, fun h => (d.2 (hn 10 (by decide) h))⟩, fun h => have ⟨a, b, c⟩ := j9 (hq 9 (by decide) h); ⟨hp 8 a, hp 6 b, c⟩, fun h => have ⟨a, g, c, d, e⟩ := j10 (hq 10 (by decide) h); ⟨hp 9 a, g, c, d, fun h => have ⟨p, q, r⟩ := e (hn 12 (by decide) h); ⟨p, q, r⟩⟩, fun h => by first | rfl | exact j11 (hq 11 (by decide) h), fun h => have ⟨a, b, c, d⟩ := j12 (hq 12 (by decide) h); ⟨hp 10 a, b, c, d⟩, fun h => hp 11 (j12b (hq 12 (by decide) h)), (by intro _; exact ⟨by rw [hset]; simp [d12], rfl⟩), (by intro h; rw [hset] at h; simp at h), fun h => (jp (hn 12 (by decide) h))⟩
    · intro listed a wr hJ hr
      obtain ⟨hs, hC2, y6, y61, y62, y63, y64, y65, y66, y67, y68, y69, y70, y71, rfl, jm, j1, j2, j3, j4, j5, j6, j7, j8, j9, j10, j11, j12, j12b, j13, jn13, jp⟩ := hJ
      have hE := fun i h1 h2 => ready_end (listed := listed) hr hs i h1 h2
      have u0 : listed.getD 0 false = true := hE 0 (by decide) (fun d h => by simp [depB, Region.binds] at h)
      have u4 : listed.getD 4 false = true := hE 4 (by decide) (fun d h => by simp [depB, Region.binds] at h)
      have u7 : listed.getD 7 false = true := hE 7 (by decide) (fun d h => by simp [depB, Region.binds] at h)
      have u11 : listed.getD 11 false = true := hE 11 (by decide) (fun d h => by simp [depB, Region.binds] at h)
      have u1 : listed.getD 1 false = true := hE 1 (by decide) (fun d h => by simp [depB, Region.binds] at h; first | (subst h; assumption) | (rcases h with h | h <;> (subst h; assumption)) | (rcases h with h | h | h <;> (subst h; assumption)))
      have u2 : listed.getD 2 false = true := hE 2 (by decide) (fun d h => by simp [depB, Region.binds] at h; first | (subst h; assumption) | (rcases h with h | h <;> (subst h; assumption)) | (rcases h with h | h | h <;> (subst h; assumption)))
      have u3 : listed.getD 3 false = true := hE 3 (by decide) (fun d h => by simp [depB, Region.binds] at h; first | (subst h; assumption) | (rcases h with h | h <;> (subst h; assumption)) | (rcases h with h | h | h <;> (subst h; assumption)))
      have u5 : listed.getD 5 false = true := hE 5 (by decide) (fun d h => by simp [depB, Region.binds] at h; first | (subst h; assumption) | (rcases h with h | h <;> (subst h; assumption)) | (rcases h with h | h | h <;> (subst h; assumption)))
      have u6 : listed.getD 6 false = true := hE 6 (by decide) (fun d h => by simp [depB, Region.binds] at h; first | (subst h; assumption) | (rcases h with h | h <;> (subst h; assumption)) | (rcases h with h | h | h <;> (subst h; assumption)))
      have u8 : listed.getD 8 false = true := hE 8 (by decide) (fun d h => by simp [depB, Region.binds] at h; first | (subst h; assumption) | (rcases h with h | h <;> (subst h; assumption)) | (rcases h with h | h | h <;> (subst h; assumption)))
      have u9 : listed.getD 9 false = true := hE 9 (by decide) (fun d h => by simp [depB, Region.binds] at h; first | (subst h; assumption) | (rcases h with h | h <;> (subst h; assumption)) | (rcases h with h | h | h <;> (subst h; assumption)))
      have u10 : listed.getD 10 false = true := hE 10 (by decide) (fun d h => by simp [depB, Region.binds] at h; first | (subst h; assumption) | (rcases h with h | h <;> (subst h; assumption)) | (rcases h with h | h | h <;> (subst h; assumption)))
      have u12 : listed.getD 12 false = true := hE 12 (by decide) (fun d h => by simp [depB, Region.binds] at h; first | (rcases h with h | h <;> (subst h; assumption)) | (rcases h with h | h | h <;> (subst h; assumption)))
      have u13 : listed.getD 13 false = true := hE 13 (by decide) (fun d h => by
        simp [depB, Region.binds] at h
        have hd : d < 13 := by omega
        obtain rfl | rfl | rfl | rfl | rfl | rfl | rfl | rfl | rfl | rfl | rfl | rfl | rfl : d = 0 ∨ d = 1 ∨ d = 2 ∨ d = 3 ∨ d = 4 ∨ d = 5 ∨ d = 6 ∨ d = 7 ∨ d = 8 ∨ d = 9 ∨ d = 10 ∨ d = 11 ∨ d = 12 := by omega
        all_goals assumption)
      obtain ⟨_, rfl⟩ := j13 u13
      obtain ⟨_, Ab1, cb1, hm1⟩ := j12 u12
      obtain ⟨A9, c99, hv9⟩ := hm1.slice
      subst hv9
      have k0 := hC2.cell0 c9
      have HC := hC9.no_no hC2
      clear jm j1 j2 j3 j4 j5 j6 j7 j8 j9 j10 j11 j12 j12b j13 jn13 jp hE u0 u1 u2 u3 u4 u5 u6 u7 u8 u9 u10 u11 u12 u13 hr hs
      go_wp2_with fail
      go_ret
      exact ⟨_, _, rfl, hm1, by simp, ⟨(113, Ab, H.length, cb), by simp, rfl⟩, HC⟩
    · have no : ∀ (j : Nat) {p : Prop}, (Array.replicate 14 false).getD j false = true → p := fun j _ h => by rw [rep_getD] at h; cases h
      refine ⟨by simp, (Ch.refl No _).drew, _, _, _, _, _, _, _, _, _, _, _, _, rfl, no 0, no 1, no 2, no 3, no 4, no 5, no 6, no 7, no 8, no 9, no 10, no 11, no 12, no 12, no 13, fun _ => rfl, fun _ => hm0.keep0 (Ch.refl No _).drew⟩
  · have no : ∀ (j : Nat) {p : Prop}, (Array.replicate 11 false).getD j false = true → p := fun j _ h => by rw [rep_getD] at h; cases h
    exact ⟨by simp, D1.drew, _, _, _, _, _, _, _, _, _, _, rfl, no 0, no 1, no 2, no 3, no 4, no 5, no 6, no 7, no 8, no 9, no 10⟩
theorem cd_8l : Hid ((look cdL 8).getD (.int .i64 0) = .int .i64 113) := hid (by simp [look, cdL])
def NbJ8l (n z o : Int) (s : ByteArray) (m d : Nat) (A B : Option Addr) (cap capB : Nat) (w : World) (H : List Int) (listed : Array Bool) (a : Act) (wr : World) : Prop :=
  listed.size = 11 ∧ Ch No (w.alloc (.cells #[.int .i64 8, .int .u64 n, .string s, .slice A m cap, .int .i64 o, .slice B d capB] 25)) wr ∧ ∃ x5 x12 x13 x14 x15 x16 x17 x18 x19 x20 : Value, a = ⟨#[.agg #[.int .i64 8, .int .u64 n, .string s, .slice A m cap, .int .i64 o, .slice B d capB], .pointer (some ⟨w.heap.size, 0, none⟩), .slice none 0 0, .int .u64 n, .int .i64 z, x5, undef, .pointer (some ⟨w.heap.size, 1, none⟩), .int .u64 n, .pointer (some ⟨w.heap.size, 1, none⟩), .int .u64 n, .int .i64 z, x12, x13, x14, x15, x16, x17, x18, x19, x20, undef, undef, undef, undef, undef, undef, undef, undef, undef, undef, undef, undef, undef, undef, undef, undef, undef, undef, undef, undef, undef, undef, undef, undef, undef, undef, undef, undef, undef, undef, undef, undef, undef, undef, undef, undef, undef, undef, undef, undef, undef, undef, undef, undef, undef, undef, undef, undef, undef, undef, undef, undef], []⟩ ∧
    (listed.getD 0 false = true → x12 = .pointer (some ⟨w.heap.size, 0, none⟩)) ∧ (listed.getD 1 false = true → x13 = .int .i64 8) ∧ (listed.getD 2 false = true → x14 = .int .i64 113) ∧ (listed.getD 3 false = true → x15 = .int .u64 n) ∧ (listed.getD 4 false = true → x16 = .pointer (some ⟨w.heap.size, 0, none⟩)) ∧ (listed.getD 5 false = true → x17 = .int .i64 8) ∧ (listed.getD 6 false = true → x18 = .int .i64 4) ∧
    (listed.getD 7 false = true → ∃ Ab cb, x19 = .slice Ab H.length cb ∧ Ow 5 Go.Proofs.YtbdgkikipekmlaaDoor.u8 wr x19 H ∧ Fr w x19) ∧ (listed.getD 8 false = true → listed.getD 7 false = true ∧ x20 = .agg #[.int .i64 113, x19]) ∧
    (listed.getD 9 false = true → ∃ g, x5 = .pointer (some ⟨g, 0, none⟩) ∧ w.heap.size < g ∧ (listed.getD 10 false = false → Row wr g 116 [.int .i64 0, .slice none 0 0]) ∧ (listed.getD 10 false = true → Row wr g 116 [.int .i64 113, x19])) ∧ (listed.getD 10 false = true → listed.getD 7 false = true ∧ listed.getD 9 false = true)
set_option maxRecDepth 100000 in
set_option maxHeartbeats 4000000 in
theorem numbered_8l (n o : Int) (s : ByteArray) (m d : Nat) (A B : Option Addr) (cap capB : Nat) (w : World) (h0 : 0 ≤ n) (h1 : n < 18446744073709551616) (hl : 9223372036854775808 ≤ n) (hl2 : n < 18446744073709551488) :
    Calls Tryd.prog 96 #[.agg #[.int .i64 8, .int .u64 n, .string s, .slice A m cap, .int .i64 o, .slice B d capB]] w (PcTo (NumW 8 n) 113 w) := by
  have hB := Row.alloc w [.int .i64 8, .int .u64 n, .string s, .slice A m cap, .int .i64 o, .slice B d capB] 25
  have C1 : Ch No w (w.alloc (.cells #[.int .i64 8, .int .u64 n, .string s, .slice A m cap, .int .i64 o, .slice B d capB] 25)) := (Ch.refl No w).alloc _
  have SW : w.heap.size + 1 ≤ (w.alloc (.cells #[.int .i64 8, .int .u64 n, .string s, .slice A m cap, .int .i64 o, .slice B d capB] 25)).heap.size := by simp
  have p0 := hB.cell 0 _ rfl
  have p1 := hB.cell 1 _ rfl
  have hz : fsz 8 = 4 := by kernel_rfl
  obtain ⟨z, hzz⟩ : ∃ z, IntKind.i64.wrap n = z := ⟨_, rfl⟩
  obtain ⟨H, hH⟩ : ∃ H, bg n 4 = H := ⟨_, rfl⟩
  have HH := hid hH
  have HP : Hid (NumW 8 n 113 (bg n 4)) := hid (.inl ⟨by kernel_rfl, by rw [hz]; rfl⟩)
  rw [hH] at HP
  clear hH
  have HF := hid (fun w => fixedSize_calls 8 w)
  rw [hz] at HF
  clear hz
  have hzb : z < -128 := by rw [← hzz]; simp [IntKind.wrap, IntKind.bits, IntKind.signed]; omega
  have d1 : decide (-128 ≤ z) = false := decide_eq_false (by omega)
  go_enter Tryd.func96, Tryd.ntmps96
  go_wp2_with fail
  go_quiet (fail)
  have D1 : Ch No (w.alloc (.cells #[.int .i64 8, .int .u64 n, .string s, .slice A m cap, .int .i64 o, .slice B d capB] 25)) ((w.alloc (.cells #[.int .i64 8, .int .u64 n, .string s, .slice A m cap, .int .i64 o, .slice B d capB] 25)).drewN nq) := (Ch.refl No _).drewN nq
  go_wp2_with fail
  refine wp_region_any (by kernel_rfl) ?_
  refine wpAny_inv (J := NbJ8l n z o s m d A B cap capB w H) ?_ ?_ _ _ _ _ (Nat.le_trans List.countP_le_length (by rw [List.length_range]; exact Nat.le_refl _)) ?_
  · intro listed a wr i hJ hi
    obtain ⟨hs, hC, x5, x12, x13, x14, x15, x16, x17, x18, x19, x20, rfl, j0, j1, j2, j3, j4, j5, j6, j7, j8, j9, j10⟩ := hJ
    have hlt : i < 11 := ready_lt hi
    have hun := ready_un hi
    have hset := fun j => getD_set_is (listed := listed) (i := i) (by omega) j
    have hsz : (listed.setIfInBounds i true).size = 11 := by simpa using hs
    have hq := fun j (hj : j ≠ i) (h : (listed.setIfInBounds i true).getD j false = true) => (show listed.getD j false = true from by rw [hset j] at h; simpa [hj] using h)
    have hn := fun j (hj : j ≠ i) (h : (listed.setIfInBounds i true).getD j false = false) => (show listed.getD j false = false from by rw [hset j] at h; simpa [hj] using h)
    have hp := fun j (h : listed.getD j false = true) => (show (listed.setIfInBounds i true).getD j false = true from by rw [hset j]; simp [h])
    have HSZ := hC.size
    have c0 := hC.cell0 p0
    obtain rfl | rfl | rfl | rfl | rfl | rfl | rfl | rfl | rfl | rfl | rfl : i = 0 ∨ i = 1 ∨ i = 2 ∨ i = 3 ∨ i = 4 ∨ i = 5 ∨ i = 6 ∨ i = 7 ∨ i = 8 ∨ i = 9 ∨ i = 10 := by omega
    · skip
      refine wpOp_step rfl (fun K hK => ?_)
      go_simp
      refine hK _ _ ?_
      refine ⟨hsz, hC, x5, _, x13, x14, x15, x16, x17, x18, x19, x20, rfl, fun _ => rfl, fun h => j1 (hq 1 (by decide) h), fun h => j2 (hq 2 (by decide) h), fun h => j3 (hq 3 (by decide) h), fun h => j4 (hq 4 (by decide) h), fun h => j5 (hq 5 (by decide) h), fun h => j6 (hq 6 (by decide) h), fun h => j7 (hq 7 (by decide) h), fun h => have ⟨a, b⟩ := j8 (hq 8 (by decide) h); ⟨hp 7 a, b⟩, fun h => have ⟨a, b, c, d, e⟩ := j9 (hq 9 (by decide) h); ⟨a, b, c, fun h => (d (hn 10 (by decide) h)), fun h => (e (hq 10 (by decide) h))⟩, fun h => have ⟨a, b⟩ := j10 (hq 10 (by decide) h); ⟨hp 7 a, hp 9 b⟩⟩
    · obtain rfl := j0 (ready_dep hi 0 (by kernel_rfl))
      refine wpOp_step rfl (fun K hK => ?_)
      go_simp
      refine hK _ _ ?_
      refine ⟨hsz, hC, x5, _, _, x14, x15, x16, x17, x18, x19, x20, rfl, fun h => j0 (hq 0 (by decide) h), fun _ => rfl, fun h => j2 (hq 2 (by decide) h), fun h => j3 (hq 3 (by decide) h), fun h => j4 (hq 4 (by decide) h), fun h => j5 (hq 5 (by decide) h), fun h => j6 (hq 6 (by decide) h), fun h => j7 (hq 7 (by decide) h), fun h => have ⟨a, b⟩ := j8 (hq 8 (by decide) h); ⟨hp 7 a, b⟩, fun h => have ⟨a, b, c, d, e⟩ := j9 (hq 9 (by decide) h); ⟨a, b, c, fun h => (d (hn 10 (by decide) h)), fun h => (e (hq 10 (by decide) h))⟩, fun h => have ⟨a, b⟩ := j10 (hq 10 (by decide) h); ⟨hp 7 a, hp 9 b⟩⟩
    · obtain rfl := j1 (ready_dep hi 1 (by kernel_rfl))
      refine wpOp_step rfl (fun K hK => ?_)
      go_simp
      go_at_call 93
      refine (coded_calls 8 113 _ cd_8l).mono ?_
      rintro e wa ⟨rfl, hcha⟩
      try go_simp
      refine hK _ _ ?_
      refine ⟨hsz, hC.no_no hcha, x5, x12, _, _, x15, x16, x17, x18, x19, x20, rfl, fun h => j0 (hq 0 (by decide) h), fun h => j1 (hq 1 (by decide) h), fun _ => rfl, fun h => j3 (hq 3 (by decide) h), fun h => j4 (hq 4 (by decide) h), fun h => j5 (hq 5 (by decide) h), fun h => j6 (hq 6 (by decide) h), fun h => have ⟨a, b, c, d, e⟩ := j7 (hq 7 (by decide) h); ⟨a, b, c, d.keep0 hcha, e⟩, fun h => have ⟨a, b⟩ := j8 (hq 8 (by decide) h); ⟨hp 7 a, b⟩, fun h => have ⟨a, b, c, d, e⟩ := j9 (hq 9 (by decide) h); ⟨a, b, c, fun h => (d (hn 10 (by decide) h)).keep0 hcha, fun h => (e (hq 10 (by decide) h)).keep0 hcha⟩, fun h => have ⟨a, b⟩ := j10 (hq 10 (by decide) h); ⟨hp 7 a, hp 9 b⟩⟩
    · skip
      refine wpOp_step rfl (fun K hK => ?_)
      go_simp
      refine hK _ _ ?_
      refine ⟨hsz, hC, x5, x12, x13, x14, _, x16, x17, x18, x19, x20, rfl, fun h => j0 (hq 0 (by decide) h), fun h => j1 (hq 1 (by decide) h), fun h => j2 (hq 2 (by decide) h), fun _ => rfl, fun h => j4 (hq 4 (by decide) h), fun h => j5 (hq 5 (by decide) h), fun h => j6 (hq 6 (by decide) h), fun h => j7 (hq 7 (by decide) h), fun h => have ⟨a, b⟩ := j8 (hq 8 (by decide) h); ⟨hp 7 a, b⟩, fun h => have ⟨a, b, c, d, e⟩ := j9 (hq 9 (by decide) h); ⟨a, b, c, fun h => (d (hn 10 (by decide) h)), fun h => (e (hq 10 (by decide) h))⟩, fun h => have ⟨a, b⟩ := j10 (hq 10 (by decide) h); ⟨hp 7 a, hp 9 b⟩⟩
    · skip
      refine wpOp_step rfl (fun K hK => ?_)
      go_simp
      refine hK _ _ ?_
      refine ⟨hsz, hC, x5, x12, x13, x14, x15, _, x17, x18, x19, x20, rfl, fun h => j0 (hq 0 (by decide) h), fun h => j1 (hq 1 (by decide) h), fun h => j2 (hq 2 (by decide) h), fun h => j3 (hq 3 (by decide) h), fun _ => rfl, fun h => j5 (hq 5 (by decide) h), fun h => j6 (hq 6 (by decide) h), fun h => j7 (hq 7 (by decide) h), fun h => have ⟨a, b⟩ := j8 (hq 8 (by decide) h); ⟨hp 7 a, b⟩, fun h => have ⟨a, b, c, d, e⟩ := j9 (hq 9 (by decide) h); ⟨a, b, c, fun h => (d (hn 10 (by decide) h)), fun h => (e (hq 10 (by decide) h))⟩, fun h => have ⟨a, b⟩ := j10 (hq 10 (by decide) h); ⟨hp 7 a, hp 9 b⟩⟩
    · obtain rfl := j4 (ready_dep hi 4 (by kernel_rfl))
      refine wpOp_step rfl (fun K hK => ?_)
      go_simp
      refine hK _ _ ?_
      refine ⟨hsz, hC, x5, x12, x13, x14, x15, _, _, x18, x19, x20, rfl, fun h => j0 (hq 0 (by decide) h), fun h => j1 (hq 1 (by decide) h), fun h => j2 (hq 2 (by decide) h), fun h => j3 (hq 3 (by decide) h), fun h => j4 (hq 4 (by decide) h), fun _ => rfl, fun h => j6 (hq 6 (by decide) h), fun h => j7 (hq 7 (by decide) h), fun h => have ⟨a, b⟩ := j8 (hq 8 (by decide) h); ⟨hp 7 a, b⟩, fun h => have ⟨a, b, c, d, e⟩ := j9 (hq 9 (by decide) h); ⟨a, b, c, fun h => (d (hn 10 (by decide) h)), fun h => (e (hq 10 (by decide) h))⟩, fun h => have ⟨a, b⟩ := j10 (hq 10 (by decide) h); ⟨hp 7 a, hp 9 b⟩⟩
    · obtain rfl := j5 (ready_dep hi 5 (by kernel_rfl))
      refine wpOp_step rfl (fun K hK => ?_)
      go_simp
      go_at_call 102
      refine (HF.out _).mono ?_
      rintro e wa ⟨rfl, hcha⟩
      try go_simp
      refine hK _ _ ?_
      refine ⟨hsz, hC.no_no hcha, x5, x12, x13, x14, x15, x16, _, _, x19, x20, rfl, fun h => j0 (hq 0 (by decide) h), fun h => j1 (hq 1 (by decide) h), fun h => j2 (hq 2 (by decide) h), fun h => j3 (hq 3 (by decide) h), fun h => j4 (hq 4 (by decide) h), fun h => j5 (hq 5 (by decide) h), fun _ => rfl, fun h => have ⟨a, b, c, d, e⟩ := j7 (hq 7 (by decide) h); ⟨a, b, c, d.keep0 hcha, e⟩, fun h => have ⟨a, b⟩ := j8 (hq 8 (by decide) h); ⟨hp 7 a, b⟩, fun h => have ⟨a, b, c, d, e⟩ := j9 (hq 9 (by decide) h); ⟨a, b, c, fun h => (d (hn 10 (by decide) h)).keep0 hcha, fun h => (e (hq 10 (by decide) h)).keep0 hcha⟩, fun h => have ⟨a, b⟩ := j10 (hq 10 (by decide) h); ⟨hp 7 a, hp 9 b⟩⟩
    · obtain rfl := j3 (ready_dep hi 3 (by kernel_rfl))
      obtain rfl := j6 (ready_dep hi 6 (by kernel_rfl))
      refine wpOp_step rfl (fun K hK => ?_)
      go_simp
      go_at_call 105
      refine (big_calls n 4 _ (by omega) (by omega) h0 h1).mono ?_
      rintro e wa ⟨v, rfl, ho, hf, hcha⟩
      rw [HH.out] at ho
      obtain ⟨Ab, cb, rfl, _, _⟩ := ho.slice
      try go_simp
      refine hK _ _ ?_
      refine ⟨hsz, hC.no_no hcha, x5, x12, x13, x14, _, x16, x17, _, _, x20, rfl, fun h => j0 (hq 0 (by decide) h), fun h => j1 (hq 1 (by decide) h), fun h => j2 (hq 2 (by decide) h), fun h => j3 (hq 3 (by decide) h), fun h => j4 (hq 4 (by decide) h), fun h => j5 (hq 5 (by decide) h), fun h => j6 (hq 6 (by decide) h), (by intro _; exact ⟨Ab, cb, rfl, ho, hf.weak (by omega)⟩), (by intro h; rw [hset 8] at h; have h8 := (j8 (by simpa using h)).1; rw [hun] at h8; cases h8), (by intro h; rw [hset 9] at h; obtain ⟨g, e1, e2, e3, e4⟩ := j9 (by simpa using h); exact ⟨g, e1, e2, fun h => by rw [hset 10] at h; exact (e3 (by simpa using h)).keep0 hcha, fun h => by rw [hset 10] at h; have := (j10 (by simpa using h)).1; rw [hun] at this; cases this⟩), fun h => have ⟨a, b⟩ := j10 (hq 10 (by decide) h); ⟨hp 7 a, hp 9 b⟩⟩
    · obtain rfl := j2 (ready_dep hi 2 (by kernel_rfl))
      have d7 := ready_dep hi 7 (by kernel_rfl)
      obtain ⟨Ab, cb, rfl, e2, e3⟩ := j7 d7
      refine wpOp_step rfl (fun K hK => ?_)
      go_simp
      refine hK _ _ ?_
      refine ⟨hsz, hC, x5, x12, x13, _, x15, x16, x17, x18, _, _, rfl, fun h => j0 (hq 0 (by decide) h), fun h => j1 (hq 1 (by decide) h), fun h => j2 (hq 2 (by decide) h), fun h => j3 (hq 3 (by decide) h), fun h => j4 (hq 4 (by decide) h), fun h => j5 (hq 5 (by decide) h), fun h => j6 (hq 6 (by decide) h), (by intro _; exact ⟨Ab, cb, rfl, e2, e3⟩), (by intro _; exact ⟨by rw [hset]; simp [d7], rfl⟩), fun h => have ⟨a, b, c, d, e⟩ := j9 (hq 9 (by decide) h); ⟨a, b, c, fun h => (d (hn 10 (by decide) h)), fun h => (e (hq 10 (by decide) h))⟩, fun h => have ⟨a, b⟩ := j10 (hq 10 (by decide) h); ⟨hp 7 a, hp 9 b⟩⟩
    · skip
      refine wpOp_step rfl (fun K hK => ?_)
      go_simp
      refine hK _ _ ?_
      have hA : Ch No wr (wr.alloc (.cells #[.int .i64 0, .slice none 0 0] 116)) := (Ch.refl No wr).alloc _
      refine ⟨hsz, hC.no_no hA, _, x12, x13, x14, x15, x16, x17, x18, x19, x20, rfl, fun h => j0 (hq 0 (by decide) h), fun h => j1 (hq 1 (by decide) h), fun h => j2 (hq 2 (by decide) h), fun h => j3 (hq 3 (by decide) h), fun h => j4 (hq 4 (by decide) h), fun h => j5 (hq 5 (by decide) h), fun h => j6 (hq 6 (by decide) h), fun h => have ⟨a, b, c, d, e⟩ := j7 (hq 7 (by decide) h); ⟨a, b, c, d.keep0 hA, e⟩, fun h => have ⟨a, b⟩ := j8 (hq 8 (by decide) h); ⟨hp 7 a, b⟩, (by intro _; exact ⟨wr.heap.size, rfl, by omega, fun _ => Row.alloc wr [.int .i64 0, .slice none 0 0] 116, fun h => by rw [hset 10] at h; have := (j10 (by simpa using h)).2; rw [hun] at this; cases this⟩), fun h => have ⟨a, b⟩ := j10 (hq 10 (by decide) h); ⟨hp 7 a, hp 9 b⟩⟩
    · have d9 := ready_dep hi 9 (by kernel_rfl)
      have d8 := ready_dep hi 8 (by kernel_rfl)
      obtain ⟨d7, rfl⟩ := j8 d8
      obtain ⟨Ab, cb, rfl, f2, f3⟩ := j7 d7
      obtain ⟨g, rfl, e2, e3, _⟩ := j9 d9
      have hR := e3 hun
      refine wpOp_step rfl (fun K hK => ?_)
      refine step_store rfl rfl 116 _ _ rfl g 0 116 [.int .i64 0, .slice none 0 0] (.agg #[.int .i64 113, .slice Ab H.length cb]) rfl rfl [.int .i64 113, .slice Ab H.length cb] rfl size_pc (by simp [Value.oneCell']) hR (by simp) ?_
      intro w2 hrow2 hch2
      refine hK _ _ ?_
      refine ⟨hsz, hC.freshg hch2 (by simp only [World.size_alloc]; omega), _, x12, x13, x14, x15, x16, x17, x18, _, _, rfl, fun h => j0 (hq 0 (by decide) h), fun h => j1 (hq 1 (by decide) h), fun h => j2 (hq 2 (by decide) h), fun h => j3 (hq 3 (by decide) h), fun h => j4 (hq 4 (by decide) h), fun h => j5 (hq 5 (by decide) h), fun h => j6 (hq 6 (by decide) h), (by intro _; exact ⟨Ab, cb, rfl, f2.keep hch2 (fun b hb h => hR.apart f2 (by decide) (h ▸ hb)), f3⟩), (by intro _; exact ⟨by rw [hset]; simp [d7], rfl⟩), (by intro _; exact ⟨g, rfl, e2, fun h => by rw [hset 10] at h; simp at h, fun _ => by simpa using hrow2⟩), (by intro _; exact ⟨by rw [hset]; simp [d7], by rw [hset]; simp [d9]⟩)⟩
  · intro listed a wr hJ hr
    obtain ⟨hs, hC, x5, x12, x13, x14, x15, x16, x17, x18, x19, x20, rfl, j0, j1, j2, j3, j4, j5, j6, j7, j8, j9, j10⟩ := hJ
    have hE := fun i h1 h2 => ready_end (listed := listed) hr hs i h1 h2
    have u0 : listed.getD 0 false = true := hE 0 (by decide) (fun d h => by simp [depB, Region.binds] at h)
    have u3 : listed.getD 3 false = true := hE 3 (by decide) (fun d h => by simp [depB, Region.binds] at h)
    have u4 : listed.getD 4 false = true := hE 4 (by decide) (fun d h => by simp [depB, Region.binds] at h)
    have u9 : listed.getD 9 false = true := hE 9 (by decide) (fun d h => by simp [depB, Region.binds] at h)
    have u1 : listed.getD 1 false = true := hE 1 (by decide) (fun d h => by simp [depB, Region.binds] at h; first | (subst h; assumption) | (rcases h with h | h <;> (subst h; assumption)))
    have u5 : listed.getD 5 false = true := hE 5 (by decide) (fun d h => by simp [depB, Region.binds] at h; first | (subst h; assumption) | (rcases h with h | h <;> (subst h; assumption)))
    have u2 : listed.getD 2 false = true := hE 2 (by decide) (fun d h => by simp [depB, Region.binds] at h; first | (subst h; assumption) | (rcases h with h | h <;> (subst h; assumption)))
    have u6 : listed.getD 6 false = true := hE 6 (by decide) (fun d h => by simp [depB, Region.binds] at h; first | (subst h; assumption) | (rcases h with h | h <;> (subst h; assumption)))
    have u7 : listed.getD 7 false = true := hE 7 (by decide) (fun d h => by simp [depB, Region.binds] at h; first | (subst h; assumption) | (rcases h with h | h <;> (subst h; assumption)))
    have u8 : listed.getD 8 false = true := hE 8 (by decide) (fun d h => by simp [depB, Region.binds] at h; first | (subst h; assumption) | (rcases h with h | h <;> (subst h; assumption)))
    have u10 : listed.getD 10 false = true := hE 10 (by decide) (fun d h => by
      simp [depB, Region.binds] at h
      have hd : d < 10 := by omega
      obtain rfl | rfl | rfl | rfl | rfl | rfl | rfl | rfl | rfl | rfl : d = 0 ∨ d = 1 ∨ d = 2 ∨ d = 3 ∨ d = 4 ∨ d = 5 ∨ d = 6 ∨ d = 7 ∨ d = 8 ∨ d = 9 := by omega
      all_goals assumption)
    obtain ⟨Ab, cb, rfl, f2, f3⟩ := j7 u7
    obtain ⟨g, rfl, e2, _, e4⟩ := j9 u9
    have hR := e4 u10
    have c0 := hC.cell0 p0
    have y0 := hR.cell 0 _ rfl
    have y1 := hR.cell 1 _ rfl
    have c9 := ((Ch.refl No wr).alloc (.cells #[.int .i64 113, .slice Ab H.length cb] 116)).cell0 c0
    have HCC := hC
    clear j0 j1 j2 j3 j4 j5 j6 j7 j8 j9 j10 hE u0 u1 u2 u3 u4 u5 u6 u7 u8 u9 u10 hr hs
    go_wp2_with fail
    go_ret
    exact ⟨_, [(113, Ab, H.length, cb)], rfl, PMay.one (w0 := w) (P := NumW 8 n) (113, Ab, H.length, cb) HP.out f2.by f3 (C1.no_no hC).size, by simp, ⟨_, List.mem_singleton.2 rfl, rfl⟩, (C1.no_no hC).alloc _⟩
  · have no : ∀ (j : Nat) {p : Prop}, (Array.replicate 11 false).getD j false = true → p := fun j _ h => by rw [rep_getD] at h; cases h
    exact ⟨by simp, D1.drew, _, _, _, _, _, _, _, _, _, _, rfl, no 0, no 1, no 2, no 3, no 4, no 5, no 6, no 7, no 8, no 9, no 10⟩
theorem cd_8h : Hid ((look cdL 8).getD (.int .i64 0) = .int .i64 113) := hid (by simp [look, cdL])
def NbJ8h (n z o : Int) (s : ByteArray) (m d : Nat) (A B : Option Addr) (cap capB : Nat) (w : World) (H : List Int) (listed : Array Bool) (a : Act) (wr : World) : Prop :=
  listed.size = 11 ∧ Ch No (w.alloc (.cells #[.int .i64 8, .int .u64 n, .string s, .slice A m cap, .int .i64 o, .slice B d capB] 25)) wr ∧ ∃ x5 x12 x13 x14 x15 x16 x17 x18 x19 x20 : Value, a = ⟨#[.agg #[.int .i64 8, .int .u64 n, .string s, .slice A m cap, .int .i64 o, .slice B d capB], .pointer (some ⟨w.heap.size, 0, none⟩), .slice none 0 0, .int .u64 n, .int .i64 z, x5, undef, .pointer (some ⟨w.heap.size, 1, none⟩), .int .u64 n, .pointer (some ⟨w.heap.size, 1, none⟩), .int .u64 n, .int .i64 z, x12, x13, x14, x15, x16, x17, x18, x19, x20, undef, undef, undef, undef, undef, undef, undef, undef, undef, undef, undef, undef, undef, undef, undef, undef, undef, undef, undef, undef, undef, undef, undef, undef, undef, undef, undef, undef, undef, undef, undef, undef, undef, undef, undef, undef, undef, undef, undef, undef, undef, undef, undef, undef, undef, undef, undef, undef, undef, undef, undef, undef], []⟩ ∧
    (listed.getD 0 false = true → x12 = .pointer (some ⟨w.heap.size, 0, none⟩)) ∧ (listed.getD 1 false = true → x13 = .int .i64 8) ∧ (listed.getD 2 false = true → x14 = .int .i64 113) ∧ (listed.getD 3 false = true → x15 = .int .u64 n) ∧ (listed.getD 4 false = true → x16 = .pointer (some ⟨w.heap.size, 0, none⟩)) ∧ (listed.getD 5 false = true → x17 = .int .i64 8) ∧ (listed.getD 6 false = true → x18 = .int .i64 4) ∧
    (listed.getD 7 false = true → ∃ Ab cb, x19 = .slice Ab H.length cb ∧ Ow 5 Go.Proofs.YtbdgkikipekmlaaDoor.u8 wr x19 H ∧ Fr w x19) ∧ (listed.getD 8 false = true → listed.getD 7 false = true ∧ x20 = .agg #[.int .i64 113, x19]) ∧
    (listed.getD 9 false = true → ∃ g, x5 = .pointer (some ⟨g, 0, none⟩) ∧ w.heap.size < g ∧ (listed.getD 10 false = false → Row wr g 116 [.int .i64 0, .slice none 0 0]) ∧ (listed.getD 10 false = true → Row wr g 116 [.int .i64 113, x19])) ∧ (listed.getD 10 false = true → listed.getD 7 false = true ∧ listed.getD 9 false = true)
set_option maxRecDepth 100000 in
set_option maxHeartbeats 4000000 in
theorem numbered_8h (n o : Int) (s : ByteArray) (m d : Nat) (A B : Option Addr) (cap capB : Nat) (w : World) (h0 : 0 ≤ n) (h1 : n < 18446744073709551616) (hl : 128 ≤ n) (hl2 : n < 9223372036854775808) :
    Calls Tryd.prog 96 #[.agg #[.int .i64 8, .int .u64 n, .string s, .slice A m cap, .int .i64 o, .slice B d capB]] w (PcTo (NumW 8 n) 113 w) := by
  have hB := Row.alloc w [.int .i64 8, .int .u64 n, .string s, .slice A m cap, .int .i64 o, .slice B d capB] 25
  have C1 : Ch No w (w.alloc (.cells #[.int .i64 8, .int .u64 n, .string s, .slice A m cap, .int .i64 o, .slice B d capB] 25)) := (Ch.refl No w).alloc _
  have SW : w.heap.size + 1 ≤ (w.alloc (.cells #[.int .i64 8, .int .u64 n, .string s, .slice A m cap, .int .i64 o, .slice B d capB] 25)).heap.size := by simp
  have p0 := hB.cell 0 _ rfl
  have p1 := hB.cell 1 _ rfl
  have hz : fsz 8 = 4 := by kernel_rfl
  obtain ⟨z, hzz⟩ : ∃ z, IntKind.i64.wrap n = z := ⟨_, rfl⟩
  obtain ⟨H, hH⟩ : ∃ H, bg n 4 = H := ⟨_, rfl⟩
  have HH := hid hH
  have HP : Hid (NumW 8 n 113 (bg n 4)) := hid (.inl ⟨by kernel_rfl, by rw [hz]; rfl⟩)
  rw [hH] at HP
  clear hH
  have HF := hid (fun w => fixedSize_calls 8 w)
  rw [hz] at HF
  clear hz
  have hzb : 128 ≤ z ∧ -128 ≤ z := by rw [← hzz]; simp [IntKind.wrap, IntKind.bits, IntKind.signed]; omega
  have d1 : decide (-128 ≤ z) = true := decide_eq_true hzb.2
  have d2 : decide (z < 128) = false := decide_eq_false (by omega)
  go_enter Tryd.func96, Tryd.ntmps96
  go_wp2_with fail
  go_quiet (fail)
  have D1 : Ch No (w.alloc (.cells #[.int .i64 8, .int .u64 n, .string s, .slice A m cap, .int .i64 o, .slice B d capB] 25)) ((w.alloc (.cells #[.int .i64 8, .int .u64 n, .string s, .slice A m cap, .int .i64 o, .slice B d capB] 25)).drewN nq) := (Ch.refl No _).drewN nq
  go_wp2_with fail
  refine wp_region_any (by kernel_rfl) ?_
  refine wpAny_inv (J := NbJ8h n z o s m d A B cap capB w H) ?_ ?_ _ _ _ _ (Nat.le_trans List.countP_le_length (by rw [List.length_range]; exact Nat.le_refl _)) ?_
  · intro listed a wr i hJ hi
    obtain ⟨hs, hC, x5, x12, x13, x14, x15, x16, x17, x18, x19, x20, rfl, j0, j1, j2, j3, j4, j5, j6, j7, j8, j9, j10⟩ := hJ
    have hlt : i < 11 := ready_lt hi
    have hun := ready_un hi
    have hset := fun j => getD_set_is (listed := listed) (i := i) (by omega) j
    have hsz : (listed.setIfInBounds i true).size = 11 := by simpa using hs
    have hq := fun j (hj : j ≠ i) (h : (listed.setIfInBounds i true).getD j false = true) => (show listed.getD j false = true from by rw [hset j] at h; simpa [hj] using h)
    have hn := fun j (hj : j ≠ i) (h : (listed.setIfInBounds i true).getD j false = false) => (show listed.getD j false = false from by rw [hset j] at h; simpa [hj] using h)
    have hp := fun j (h : listed.getD j false = true) => (show (listed.setIfInBounds i true).getD j false = true from by rw [hset j]; simp [h])
    have HSZ := hC.size
    have c0 := hC.cell0 p0
    obtain rfl | rfl | rfl | rfl | rfl | rfl | rfl | rfl | rfl | rfl | rfl : i = 0 ∨ i = 1 ∨ i = 2 ∨ i = 3 ∨ i = 4 ∨ i = 5 ∨ i = 6 ∨ i = 7 ∨ i = 8 ∨ i = 9 ∨ i = 10 := by omega
    · skip
      refine wpOp_step rfl (fun K hK => ?_)
      go_simp
      refine hK _ _ ?_
      refine ⟨hsz, hC, x5, _, x13, x14, x15, x16, x17, x18, x19, x20, rfl, fun _ => rfl, fun h => j1 (hq 1 (by decide) h), fun h => j2 (hq 2 (by decide) h), fun h => j3 (hq 3 (by decide) h), fun h => j4 (hq 4 (by decide) h), fun h => j5 (hq 5 (by decide) h), fun h => j6 (hq 6 (by decide) h), fun h => j7 (hq 7 (by decide) h), fun h => have ⟨a, b⟩ := j8 (hq 8 (by decide) h); ⟨hp 7 a, b⟩, fun h => have ⟨a, b, c, d, e⟩ := j9 (hq 9 (by decide) h); ⟨a, b, c, fun h => (d (hn 10 (by decide) h)), fun h => (e (hq 10 (by decide) h))⟩, fun h => have ⟨a, b⟩ := j10 (hq 10 (by decide) h); ⟨hp 7 a, hp 9 b⟩⟩
    · obtain rfl := j0 (ready_dep hi 0 (by kernel_rfl))
      refine wpOp_step rfl (fun K hK => ?_)
      go_simp
      refine hK _ _ ?_
      refine ⟨hsz, hC, x5, _, _, x14, x15, x16, x17, x18, x19, x20, rfl, fun h => j0 (hq 0 (by decide) h), fun _ => rfl, fun h => j2 (hq 2 (by decide) h), fun h => j3 (hq 3 (by decide) h), fun h => j4 (hq 4 (by decide) h), fun h => j5 (hq 5 (by decide) h), fun h => j6 (hq 6 (by decide) h), fun h => j7 (hq 7 (by decide) h), fun h => have ⟨a, b⟩ := j8 (hq 8 (by decide) h); ⟨hp 7 a, b⟩, fun h => have ⟨a, b, c, d, e⟩ := j9 (hq 9 (by decide) h); ⟨a, b, c, fun h => (d (hn 10 (by decide) h)), fun h => (e (hq 10 (by decide) h))⟩, fun h => have ⟨a, b⟩ := j10 (hq 10 (by decide) h); ⟨hp 7 a, hp 9 b⟩⟩
    · obtain rfl := j1 (ready_dep hi 1 (by kernel_rfl))
      refine wpOp_step rfl (fun K hK => ?_)
      go_simp
      go_at_call 93
      refine (coded_calls 8 113 _ cd_8h).mono ?_
      rintro e wa ⟨rfl, hcha⟩
      try go_simp
      refine hK _ _ ?_
      refine ⟨hsz, hC.no_no hcha, x5, x12, _, _, x15, x16, x17, x18, x19, x20, rfl, fun h => j0 (hq 0 (by decide) h), fun h => j1 (hq 1 (by decide) h), fun _ => rfl, fun h => j3 (hq 3 (by decide) h), fun h => j4 (hq 4 (by decide) h), fun h => j5 (hq 5 (by decide) h), fun h => j6 (hq 6 (by decide) h), fun h => have ⟨a, b, c, d, e⟩ := j7 (hq 7 (by decide) h); ⟨a, b, c, d.keep0 hcha, e⟩, fun h => have ⟨a, b⟩ := j8 (hq 8 (by decide) h); ⟨hp 7 a, b⟩, fun h => have ⟨a, b, c, d, e⟩ := j9 (hq 9 (by decide) h); ⟨a, b, c, fun h => (d (hn 10 (by decide) h)).keep0 hcha, fun h => (e (hq 10 (by decide) h)).keep0 hcha⟩, fun h => have ⟨a, b⟩ := j10 (hq 10 (by decide) h); ⟨hp 7 a, hp 9 b⟩⟩
    · skip
      refine wpOp_step rfl (fun K hK => ?_)
      go_simp
      refine hK _ _ ?_
      refine ⟨hsz, hC, x5, x12, x13, x14, _, x16, x17, x18, x19, x20, rfl, fun h => j0 (hq 0 (by decide) h), fun h => j1 (hq 1 (by decide) h), fun h => j2 (hq 2 (by decide) h), fun _ => rfl, fun h => j4 (hq 4 (by decide) h), fun h => j5 (hq 5 (by decide) h), fun h => j6 (hq 6 (by decide) h), fun h => j7 (hq 7 (by decide) h), fun h => have ⟨a, b⟩ := j8 (hq 8 (by decide) h); ⟨hp 7 a, b⟩, fun h => have ⟨a, b, c, d, e⟩ := j9 (hq 9 (by decide) h); ⟨a, b, c, fun h => (d (hn 10 (by decide) h)), fun h => (e (hq 10 (by decide) h))⟩, fun h => have ⟨a, b⟩ := j10 (hq 10 (by decide) h); ⟨hp 7 a, hp 9 b⟩⟩
    · skip
      refine wpOp_step rfl (fun K hK => ?_)
      go_simp
      refine hK _ _ ?_
      refine ⟨hsz, hC, x5, x12, x13, x14, x15, _, x17, x18, x19, x20, rfl, fun h => j0 (hq 0 (by decide) h), fun h => j1 (hq 1 (by decide) h), fun h => j2 (hq 2 (by decide) h), fun h => j3 (hq 3 (by decide) h), fun _ => rfl, fun h => j5 (hq 5 (by decide) h), fun h => j6 (hq 6 (by decide) h), fun h => j7 (hq 7 (by decide) h), fun h => have ⟨a, b⟩ := j8 (hq 8 (by decide) h); ⟨hp 7 a, b⟩, fun h => have ⟨a, b, c, d, e⟩ := j9 (hq 9 (by decide) h); ⟨a, b, c, fun h => (d (hn 10 (by decide) h)), fun h => (e (hq 10 (by decide) h))⟩, fun h => have ⟨a, b⟩ := j10 (hq 10 (by decide) h); ⟨hp 7 a, hp 9 b⟩⟩
    · obtain rfl := j4 (ready_dep hi 4 (by kernel_rfl))
      refine wpOp_step rfl (fun K hK => ?_)
      go_simp
      refine hK _ _ ?_
      refine ⟨hsz, hC, x5, x12, x13, x14, x15, _, _, x18, x19, x20, rfl, fun h => j0 (hq 0 (by decide) h), fun h => j1 (hq 1 (by decide) h), fun h => j2 (hq 2 (by decide) h), fun h => j3 (hq 3 (by decide) h), fun h => j4 (hq 4 (by decide) h), fun _ => rfl, fun h => j6 (hq 6 (by decide) h), fun h => j7 (hq 7 (by decide) h), fun h => have ⟨a, b⟩ := j8 (hq 8 (by decide) h); ⟨hp 7 a, b⟩, fun h => have ⟨a, b, c, d, e⟩ := j9 (hq 9 (by decide) h); ⟨a, b, c, fun h => (d (hn 10 (by decide) h)), fun h => (e (hq 10 (by decide) h))⟩, fun h => have ⟨a, b⟩ := j10 (hq 10 (by decide) h); ⟨hp 7 a, hp 9 b⟩⟩
    · obtain rfl := j5 (ready_dep hi 5 (by kernel_rfl))
      refine wpOp_step rfl (fun K hK => ?_)
      go_simp
      go_at_call 102
      refine (HF.out _).mono ?_
      rintro e wa ⟨rfl, hcha⟩
      try go_simp
      refine hK _ _ ?_
      refine ⟨hsz, hC.no_no hcha, x5, x12, x13, x14, x15, x16, _, _, x19, x20, rfl, fun h => j0 (hq 0 (by decide) h), fun h => j1 (hq 1 (by decide) h), fun h => j2 (hq 2 (by decide) h), fun h => j3 (hq 3 (by decide) h), fun h => j4 (hq 4 (by decide) h), fun h => j5 (hq 5 (by decide) h), fun _ => rfl, fun h => have ⟨a, b, c, d, e⟩ := j7 (hq 7 (by decide) h); ⟨a, b, c, d.keep0 hcha, e⟩, fun h => have ⟨a, b⟩ := j8 (hq 8 (by decide) h); ⟨hp 7 a, b⟩, fun h => have ⟨a, b, c, d, e⟩ := j9 (hq 9 (by decide) h); ⟨a, b, c, fun h => (d (hn 10 (by decide) h)).keep0 hcha, fun h => (e (hq 10 (by decide) h)).keep0 hcha⟩, fun h => have ⟨a, b⟩ := j10 (hq 10 (by decide) h); ⟨hp 7 a, hp 9 b⟩⟩
    · obtain rfl := j3 (ready_dep hi 3 (by kernel_rfl))
      obtain rfl := j6 (ready_dep hi 6 (by kernel_rfl))
      refine wpOp_step rfl (fun K hK => ?_)
      go_simp
      go_at_call 105
      refine (big_calls n 4 _ (by omega) (by omega) h0 h1).mono ?_
      rintro e wa ⟨v, rfl, ho, hf, hcha⟩
      rw [HH.out] at ho
      obtain ⟨Ab, cb, rfl, _, _⟩ := ho.slice
      try go_simp
      refine hK _ _ ?_
      refine ⟨hsz, hC.no_no hcha, x5, x12, x13, x14, _, x16, x17, _, _, x20, rfl, fun h => j0 (hq 0 (by decide) h), fun h => j1 (hq 1 (by decide) h), fun h => j2 (hq 2 (by decide) h), fun h => j3 (hq 3 (by decide) h), fun h => j4 (hq 4 (by decide) h), fun h => j5 (hq 5 (by decide) h), fun h => j6 (hq 6 (by decide) h), (by intro _; exact ⟨Ab, cb, rfl, ho, hf.weak (by omega)⟩), (by intro h; rw [hset 8] at h; have h8 := (j8 (by simpa using h)).1; rw [hun] at h8; cases h8), (by intro h; rw [hset 9] at h; obtain ⟨g, e1, e2, e3, e4⟩ := j9 (by simpa using h); exact ⟨g, e1, e2, fun h => by rw [hset 10] at h; exact (e3 (by simpa using h)).keep0 hcha, fun h => by rw [hset 10] at h; have := (j10 (by simpa using h)).1; rw [hun] at this; cases this⟩), fun h => have ⟨a, b⟩ := j10 (hq 10 (by decide) h); ⟨hp 7 a, hp 9 b⟩⟩
    · obtain rfl := j2 (ready_dep hi 2 (by kernel_rfl))
      have d7 := ready_dep hi 7 (by kernel_rfl)
      obtain ⟨Ab, cb, rfl, e2, e3⟩ := j7 d7
      refine wpOp_step rfl (fun K hK => ?_)
      go_simp
      refine hK _ _ ?_
      refine ⟨hsz, hC, x5, x12, x13, _, x15, x16, x17, x18, _, _, rfl, fun h => j0 (hq 0 (by decide) h), fun h => j1 (hq 1 (by decide) h), fun h => j2 (hq 2 (by decide) h), fun h => j3 (hq 3 (by decide) h), fun h => j4 (hq 4 (by decide) h), fun h => j5 (hq 5 (by decide) h), fun h => j6 (hq 6 (by decide) h), (by intro _; exact ⟨Ab, cb, rfl, e2, e3⟩), (by intro _; exact ⟨by rw [hset]; simp [d7], rfl⟩), fun h => have ⟨a, b, c, d, e⟩ := j9 (hq 9 (by decide) h); ⟨a, b, c, fun h => (d (hn 10 (by decide) h)), fun h => (e (hq 10 (by decide) h))⟩, fun h => have ⟨a, b⟩ := j10 (hq 10 (by decide) h); ⟨hp 7 a, hp 9 b⟩⟩
    · skip
      refine wpOp_step rfl (fun K hK => ?_)
      go_simp
      refine hK _ _ ?_
      have hA : Ch No wr (wr.alloc (.cells #[.int .i64 0, .slice none 0 0] 116)) := (Ch.refl No wr).alloc _
      refine ⟨hsz, hC.no_no hA, _, x12, x13, x14, x15, x16, x17, x18, x19, x20, rfl, fun h => j0 (hq 0 (by decide) h), fun h => j1 (hq 1 (by decide) h), fun h => j2 (hq 2 (by decide) h), fun h => j3 (hq 3 (by decide) h), fun h => j4 (hq 4 (by decide) h), fun h => j5 (hq 5 (by decide) h), fun h => j6 (hq 6 (by decide) h), fun h => have ⟨a, b, c, d, e⟩ := j7 (hq 7 (by decide) h); ⟨a, b, c, d.keep0 hA, e⟩, fun h => have ⟨a, b⟩ := j8 (hq 8 (by decide) h); ⟨hp 7 a, b⟩, (by intro _; exact ⟨wr.heap.size, rfl, by omega, fun _ => Row.alloc wr [.int .i64 0, .slice none 0 0] 116, fun h => by rw [hset 10] at h; have := (j10 (by simpa using h)).2; rw [hun] at this; cases this⟩), fun h => have ⟨a, b⟩ := j10 (hq 10 (by decide) h); ⟨hp 7 a, hp 9 b⟩⟩
    · have d9 := ready_dep hi 9 (by kernel_rfl)
      have d8 := ready_dep hi 8 (by kernel_rfl)
      obtain ⟨d7, rfl⟩ := j8 d8
      obtain ⟨Ab, cb, rfl, f2, f3⟩ := j7 d7
      obtain ⟨g, rfl, e2, e3, _⟩ := j9 d9
      have hR := e3 hun
      refine wpOp_step rfl (fun K hK => ?_)
      refine step_store rfl rfl 116 _ _ rfl g 0 116 [.int .i64 0, .slice none 0 0] (.agg #[.int .i64 113, .slice Ab H.length cb]) rfl rfl [.int .i64 113, .slice Ab H.length cb] rfl size_pc (by simp [Value.oneCell']) hR (by simp) ?_
      intro w2 hrow2 hch2
      refine hK _ _ ?_
      refine ⟨hsz, hC.freshg hch2 (by simp only [World.size_alloc]; omega), _, x12, x13, x14, x15, x16, x17, x18, _, _, rfl, fun h => j0 (hq 0 (by decide) h), fun h => j1 (hq 1 (by decide) h), fun h => j2 (hq 2 (by decide) h), fun h => j3 (hq 3 (by decide) h), fun h => j4 (hq 4 (by decide) h), fun h => j5 (hq 5 (by decide) h), fun h => j6 (hq 6 (by decide) h), (by intro _; exact ⟨Ab, cb, rfl, f2.keep hch2 (fun b hb h => hR.apart f2 (by decide) (h ▸ hb)), f3⟩), (by intro _; exact ⟨by rw [hset]; simp [d7], rfl⟩), (by intro _; exact ⟨g, rfl, e2, fun h => by rw [hset 10] at h; simp at h, fun _ => by simpa using hrow2⟩), (by intro _; exact ⟨by rw [hset]; simp [d7], by rw [hset]; simp [d9]⟩)⟩
  · intro listed a wr hJ hr
    obtain ⟨hs, hC, x5, x12, x13, x14, x15, x16, x17, x18, x19, x20, rfl, j0, j1, j2, j3, j4, j5, j6, j7, j8, j9, j10⟩ := hJ
    have hE := fun i h1 h2 => ready_end (listed := listed) hr hs i h1 h2
    have u0 : listed.getD 0 false = true := hE 0 (by decide) (fun d h => by simp [depB, Region.binds] at h)
    have u3 : listed.getD 3 false = true := hE 3 (by decide) (fun d h => by simp [depB, Region.binds] at h)
    have u4 : listed.getD 4 false = true := hE 4 (by decide) (fun d h => by simp [depB, Region.binds] at h)
    have u9 : listed.getD 9 false = true := hE 9 (by decide) (fun d h => by simp [depB, Region.binds] at h)
    have u1 : listed.getD 1 false = true := hE 1 (by decide) (fun d h => by simp [depB, Region.binds] at h; first | (subst h; assumption) | (rcases h with h | h <;> (subst h; assumption)))
    have u5 : listed.getD 5 false = true := hE 5 (by decide) (fun d h => by simp [depB, Region.binds] at h; first | (subst h; assumption) | (rcases h with h | h <;> (subst h; assumption)))
    have u2 : listed.getD 2 false = true := hE 2 (by decide) (fun d h => by simp [depB, Region.binds] at h; first | (subst h; assumption) | (rcases h with h | h <;> (subst h; assumption)))
    have u6 : listed.getD 6 false = true := hE 6 (by decide) (fun d h => by simp [depB, Region.binds] at h; first | (subst h; assumption) | (rcases h with h | h <;> (subst h; assumption)))
    have u7 : listed.getD 7 false = true := hE 7 (by decide) (fun d h => by simp [depB, Region.binds] at h; first | (subst h; assumption) | (rcases h with h | h <;> (subst h; assumption)))
    have u8 : listed.getD 8 false = true := hE 8 (by decide) (fun d h => by simp [depB, Region.binds] at h; first | (subst h; assumption) | (rcases h with h | h <;> (subst h; assumption)))
    have u10 : listed.getD 10 false = true := hE 10 (by decide) (fun d h => by
      simp [depB, Region.binds] at h
      have hd : d < 10 := by omega
      obtain rfl | rfl | rfl | rfl | rfl | rfl | rfl | rfl | rfl | rfl : d = 0 ∨ d = 1 ∨ d = 2 ∨ d = 3 ∨ d = 4 ∨ d = 5 ∨ d = 6 ∨ d = 7 ∨ d = 8 ∨ d = 9 := by omega
      all_goals assumption)
    obtain ⟨Ab, cb, rfl, f2, f3⟩ := j7 u7
    obtain ⟨g, rfl, e2, _, e4⟩ := j9 u9
    have hR := e4 u10
    have c0 := hC.cell0 p0
    have y0 := hR.cell 0 _ rfl
    have y1 := hR.cell 1 _ rfl
    have c9 := ((Ch.refl No wr).alloc (.cells #[.int .i64 113, .slice Ab H.length cb] 116)).cell0 c0
    have HCC := hC
    clear j0 j1 j2 j3 j4 j5 j6 j7 j8 j9 j10 hE u0 u1 u2 u3 u4 u5 u6 u7 u8 u9 u10 hr hs
    go_wp2_with fail
    go_ret
    exact ⟨_, [(113, Ab, H.length, cb)], rfl, PMay.one (w0 := w) (P := NumW 8 n) (113, Ab, H.length, cb) HP.out f2.by f3 (C1.no_no hC).size, by simp, ⟨_, List.mem_singleton.2 rfl, rfl⟩, (C1.no_no hC).alloc _⟩
  · have no : ∀ (j : Nat) {p : Prop}, (Array.replicate 11 false).getD j false = true → p := fun j _ h => by rw [rep_getD] at h; cases h
    exact ⟨by simp, D1.drew, _, _, _, _, _, _, _, _, _, _, rfl, no 0, no 1, no 2, no 3, no 4, no 5, no 6, no 7, no 8, no 9, no 10⟩

end Go.Proofs.YtbdgkikipekmlaaDoor
