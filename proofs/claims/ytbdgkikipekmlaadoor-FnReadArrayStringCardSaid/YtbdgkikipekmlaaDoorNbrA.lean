/- The walk of the reference's forms of numbers: kinds with one form. No condition. -/
import Derived.Test.YtbdgkikipekmlaaDoorWrt
namespace Go.Proofs.YtbdgkikipekmlaaDoor
set_option linter.unusedVariables false
set_option linter.unusedSimpArgs false
open Go.RowKit
def NbJg (k cd : Int) (sz : Nat) (n z o : Int) (s : ByteArray) (m d : Nat) (A B : Option Addr) (cap capB : Nat) (w : World) (H : List Int) (listed : Array Bool) (a : Act) (wr : World) : Prop :=
  listed.size = 11 ∧ Ch No (w.alloc (.cells #[.int .i64 k, .int .u64 n, .string s, .slice A m cap, .int .i64 o, .slice B d capB] 25)) wr ∧ ∃ x5 x12 x13 x14 x15 x16 x17 x18 x19 x20 : Value, a = ⟨#[.agg #[.int .i64 k, .int .u64 n, .string s, .slice A m cap, .int .i64 o, .slice B d capB], .pointer (some ⟨w.heap.size, 0, none⟩), .slice none 0 0, .int .u64 n, .int .i64 z, x5, undef, .pointer (some ⟨w.heap.size, 1, none⟩), .int .u64 n, .pointer (some ⟨w.heap.size, 1, none⟩), .int .u64 n, .int .i64 z, x12, x13, x14, x15, x16, x17, x18, x19, x20, undef, undef, undef, undef, undef, undef, undef, undef, undef, undef, undef, undef, undef, undef, undef, undef, undef, undef, undef, undef, undef, undef, undef, undef, undef, undef, undef, undef, undef, undef, undef, undef, undef, undef, undef, undef, undef, undef, undef, undef, undef, undef, undef, undef, undef, undef, undef, undef, undef, undef, undef, undef], []⟩ ∧
    (listed.getD 0 false = true → x12 = .pointer (some ⟨w.heap.size, 0, none⟩)) ∧ (listed.getD 1 false = true → x13 = .int .i64 k) ∧ (listed.getD 2 false = true → x14 = .int .i64 cd) ∧ (listed.getD 3 false = true → x15 = .int .u64 n) ∧ (listed.getD 4 false = true → x16 = .pointer (some ⟨w.heap.size, 0, none⟩)) ∧ (listed.getD 5 false = true → x17 = .int .i64 k) ∧ (listed.getD 6 false = true → x18 = .int .i64 (sz : Int)) ∧
    (listed.getD 7 false = true → ∃ Ab cb, x19 = .slice Ab H.length cb ∧ Ow 5 Go.Proofs.YtbdgkikipekmlaaDoor.u8 wr x19 H ∧ Fr w x19) ∧ (listed.getD 8 false = true → listed.getD 7 false = true ∧ x20 = .agg #[.int .i64 cd, x19]) ∧
    (listed.getD 9 false = true → ∃ g, x5 = .pointer (some ⟨g, 0, none⟩) ∧ w.heap.size < g ∧ (listed.getD 10 false = false → Row wr g 116 [.int .i64 0, .slice none 0 0]) ∧ (listed.getD 10 false = true → Row wr g 116 [.int .i64 cd, x19])) ∧ (listed.getD 10 false = true → listed.getD 7 false = true ∧ listed.getD 9 false = true)
set_option maxRecDepth 100000 in
set_option maxHeartbeats 4000000 in
theorem numbered_g (k cd : Int) (sz : Nat) (hcdk : Hid ((look cdL k).getD (.int .i64 0) = .int .i64 cd)) (hz : fsz k = (sz : Int)) (hs0 : 0 < sz) (hs8 : sz ≤ 8) (hcd : cd = cdOf k) (n o : Int) (s : ByteArray) (m d : Nat) (A B : Option Addr) (cap capB : Nat) (w : World) (h0 : 0 ≤ n) (h1 : n < 18446744073709551616) (e4 : (k == 4) = false) (g4 : decide (k = 4) = false) (e5 : (k == 5) = false) (g5 : decide (k = 5) = false) (e8 : (k == 8) = false) (g8 : decide (k = 8) = false) (e9 : (k == 9) = false) (g9 : decide (k = 9) = false) :
    Calls Tryd.prog 96 #[.agg #[.int .i64 k, .int .u64 n, .string s, .slice A m cap, .int .i64 o, .slice B d capB]] w (PcTo (NumW k n) cd w) := by
  have hB := Row.alloc w [.int .i64 k, .int .u64 n, .string s, .slice A m cap, .int .i64 o, .slice B d capB] 25
  have C1 : Ch No w (w.alloc (.cells #[.int .i64 k, .int .u64 n, .string s, .slice A m cap, .int .i64 o, .slice B d capB] 25)) := (Ch.refl No w).alloc _
  have SW : w.heap.size + 1 ≤ (w.alloc (.cells #[.int .i64 k, .int .u64 n, .string s, .slice A m cap, .int .i64 o, .slice B d capB] 25)).heap.size := by simp
  have p0 := hB.cell 0 _ rfl
  have p1 := hB.cell 1 _ rfl
  obtain ⟨z, hzz⟩ : ∃ z, IntKind.i64.wrap n = z := ⟨_, rfl⟩
  obtain ⟨H, hH⟩ : ∃ H, bg n sz = H := ⟨_, rfl⟩
  have HH := hid hH
  have HP : Hid (NumW k n cd (bg n sz)) := hid (.inl ⟨hcd, by rw [hz]; rfl⟩)
  have HZZ := hid (And.intro hs0 hs8)
  clear hcd hs0 hs8
  rw [hH] at HP
  clear hH
  have HF := hid (fun w => fixedSize_calls k w)
  rw [hz] at HF
  clear hz
  go_enter Tryd.func96, Tryd.ntmps96
  go_wp2_with fail
  go_quiet (fail)
  have D1 : Ch No (w.alloc (.cells #[.int .i64 k, .int .u64 n, .string s, .slice A m cap, .int .i64 o, .slice B d capB] 25)) ((w.alloc (.cells #[.int .i64 k, .int .u64 n, .string s, .slice A m cap, .int .i64 o, .slice B d capB] 25)).drewN nq) := (Ch.refl No _).drewN nq
  go_wp2_with fail
  refine wp_region_any (by kernel_rfl) ?_
  refine wpAny_inv (J := NbJg k cd sz n z o s m d A B cap capB w H) ?_ ?_ _ _ _ _ (Nat.le_trans List.countP_le_length (by rw [List.length_range]; exact Nat.le_refl _)) ?_
  · intro listed a wr i hJ hi
    obtain ⟨hs, hC, x5, x12, x13, x14, x15, x16, x17, x18, x19, x20, rfl, j0, j1, j2, j3, j4, j5, j6, j7, j8, j9, j10⟩ := hJ
    have hlt : i < 11 := ready_lt hi
    have hun := ready_un hi
    have hset := fun j => getD_set_is (listed := listed) (i := i) (by omega) j
    have hsz : (listed.setIfInBounds i true).size = 11 := by simpa using hs
    have hq := fun j (hj : j ≠ i) (h : (listed.setIfInBounds i true).getD j false = true) => (show listed.getD j false = true from by rw [hset j] at h; simpa [hj] using h)
    have hn := fun j (hj : j ≠ i) (h : (listed.setIfInBounds i true).getD j false = false) => (show listed.getD j false = false from by rw [hset j] at h; simpa [hj] using h)
    have hp := fun j (h : listed.getD j false = true) => (show (listed.setIfInBounds i true).getD j false = true from by rw [hset j]; simp [h])
    have HSZ := hC.size
    have c0 := hC.cell0 p0
    obtain rfl | rfl | rfl | rfl | rfl | rfl | rfl | rfl | rfl | rfl | rfl : i = 0 ∨ i = 1 ∨ i = 2 ∨ i = 3 ∨ i = 4 ∨ i = 5 ∨ i = 6 ∨ i = 7 ∨ i = 8 ∨ i = 9 ∨ i = 10 := by omega
    · skip
      refine wpOp_step rfl (fun K hK => ?_)
      go_simp
      refine hK _ _ ?_
      refine ⟨hsz, hC, x5, _, x13, x14, x15, x16, x17, x18, x19, x20, rfl, fun _ => rfl, fun h => j1 (hq 1 (by decide) h), fun h => j2 (hq 2 (by decide) h), fun h => j3 (hq 3 (by decide) h), fun h => j4 (hq 4 (by decide) h), fun h => j5 (hq 5 (by decide) h), fun h => j6 (hq 6 (by decide) h), fun h => j7 (hq 7 (by decide) h), fun h => have ⟨a, b⟩ := j8 (hq 8 (by decide) h); ⟨hp 7 a, b⟩, fun h => have ⟨a, b, c, d, e⟩ := j9 (hq 9 (by decide) h); ⟨a, b, c, fun h => (d (hn 10 (by decide) h)), fun h => (e (hq 10 (by decide) h))⟩, fun h => have ⟨a, b⟩ := j10 (hq 10 (by decide) h); ⟨hp 7 a, hp 9 b⟩⟩
    · obtain rfl := j0 (ready_dep hi 0 (by kernel_rfl))
      refine wpOp_step rfl (fun K hK => ?_)
      go_simp
      refine hK _ _ ?_
      refine ⟨hsz, hC, x5, _, _, x14, x15, x16, x17, x18, x19, x20, rfl, fun h => j0 (hq 0 (by decide) h), fun _ => rfl, fun h => j2 (hq 2 (by decide) h), fun h => j3 (hq 3 (by decide) h), fun h => j4 (hq 4 (by decide) h), fun h => j5 (hq 5 (by decide) h), fun h => j6 (hq 6 (by decide) h), fun h => j7 (hq 7 (by decide) h), fun h => have ⟨a, b⟩ := j8 (hq 8 (by decide) h); ⟨hp 7 a, b⟩, fun h => have ⟨a, b, c, d, e⟩ := j9 (hq 9 (by decide) h); ⟨a, b, c, fun h => (d (hn 10 (by decide) h)), fun h => (e (hq 10 (by decide) h))⟩, fun h => have ⟨a, b⟩ := j10 (hq 10 (by decide) h); ⟨hp 7 a, hp 9 b⟩⟩
    · obtain rfl := j1 (ready_dep hi 1 (by kernel_rfl))
      refine wpOp_step rfl (fun K hK => ?_)
      go_simp
      go_at_call 93
      refine (coded_calls k cd _ hcdk).mono ?_
      rintro e wa ⟨rfl, hcha⟩
      try go_simp
      refine hK _ _ ?_
      refine ⟨hsz, hC.no_no hcha, x5, x12, _, _, x15, x16, x17, x18, x19, x20, rfl, fun h => j0 (hq 0 (by decide) h), fun h => j1 (hq 1 (by decide) h), fun _ => rfl, fun h => j3 (hq 3 (by decide) h), fun h => j4 (hq 4 (by decide) h), fun h => j5 (hq 5 (by decide) h), fun h => j6 (hq 6 (by decide) h), fun h => have ⟨a, b, c, d, e⟩ := j7 (hq 7 (by decide) h); ⟨a, b, c, d.keep0 hcha, e⟩, fun h => have ⟨a, b⟩ := j8 (hq 8 (by decide) h); ⟨hp 7 a, b⟩, fun h => have ⟨a, b, c, d, e⟩ := j9 (hq 9 (by decide) h); ⟨a, b, c, fun h => (d (hn 10 (by decide) h)).keep0 hcha, fun h => (e (hq 10 (by decide) h)).keep0 hcha⟩, fun h => have ⟨a, b⟩ := j10 (hq 10 (by decide) h); ⟨hp 7 a, hp 9 b⟩⟩
    · skip
      refine wpOp_step rfl (fun K hK => ?_)
      go_simp
      refine hK _ _ ?_
      refine ⟨hsz, hC, x5, x12, x13, x14, _, x16, x17, x18, x19, x20, rfl, fun h => j0 (hq 0 (by decide) h), fun h => j1 (hq 1 (by decide) h), fun h => j2 (hq 2 (by decide) h), fun _ => rfl, fun h => j4 (hq 4 (by decide) h), fun h => j5 (hq 5 (by decide) h), fun h => j6 (hq 6 (by decide) h), fun h => j7 (hq 7 (by decide) h), fun h => have ⟨a, b⟩ := j8 (hq 8 (by decide) h); ⟨hp 7 a, b⟩, fun h => have ⟨a, b, c, d, e⟩ := j9 (hq 9 (by decide) h); ⟨a, b, c, fun h => (d (hn 10 (by decide) h)), fun h => (e (hq 10 (by decide) h))⟩, fun h => have ⟨a, b⟩ := j10 (hq 10 (by decide) h); ⟨hp 7 a, hp 9 b⟩⟩
    · skip
      refine wpOp_step rfl (fun K hK => ?_)
      go_simp
      refine hK _ _ ?_
      refine ⟨hsz, hC, x5, x12, x13, x14, x15, _, x17, x18, x19, x20, rfl, fun h => j0 (hq 0 (by decide) h), fun h => j1 (hq 1 (by decide) h), fun h => j2 (hq 2 (by decide) h), fun h => j3 (hq 3 (by decide) h), fun _ => rfl, fun h => j5 (hq 5 (by decide) h), fun h => j6 (hq 6 (by decide) h), fun h => j7 (hq 7 (by decide) h), fun h => have ⟨a, b⟩ := j8 (hq 8 (by decide) h); ⟨hp 7 a, b⟩, fun h => have ⟨a, b, c, d, e⟩ := j9 (hq 9 (by decide) h); ⟨a, b, c, fun h => (d (hn 10 (by decide) h)), fun h => (e (hq 10 (by decide) h))⟩, fun h => have ⟨a, b⟩ := j10 (hq 10 (by decide) h); ⟨hp 7 a, hp 9 b⟩⟩
    · obtain rfl := j4 (ready_dep hi 4 (by kernel_rfl))
      refine wpOp_step rfl (fun K hK => ?_)
      go_simp
      refine hK _ _ ?_
      refine ⟨hsz, hC, x5, x12, x13, x14, x15, _, _, x18, x19, x20, rfl, fun h => j0 (hq 0 (by decide) h), fun h => j1 (hq 1 (by decide) h), fun h => j2 (hq 2 (by decide) h), fun h => j3 (hq 3 (by decide) h), fun h => j4 (hq 4 (by decide) h), fun _ => rfl, fun h => j6 (hq 6 (by decide) h), fun h => j7 (hq 7 (by decide) h), fun h => have ⟨a, b⟩ := j8 (hq 8 (by decide) h); ⟨hp 7 a, b⟩, fun h => have ⟨a, b, c, d, e⟩ := j9 (hq 9 (by decide) h); ⟨a, b, c, fun h => (d (hn 10 (by decide) h)), fun h => (e (hq 10 (by decide) h))⟩, fun h => have ⟨a, b⟩ := j10 (hq 10 (by decide) h); ⟨hp 7 a, hp 9 b⟩⟩
    · obtain rfl := j5 (ready_dep hi 5 (by kernel_rfl))
      refine wpOp_step rfl (fun K hK => ?_)
      go_simp
      go_at_call 102
      refine (HF.out _).mono ?_
      rintro e wa ⟨rfl, hcha⟩
      try go_simp
      refine hK _ _ ?_
      refine ⟨hsz, hC.no_no hcha, x5, x12, x13, x14, x15, x16, _, _, x19, x20, rfl, fun h => j0 (hq 0 (by decide) h), fun h => j1 (hq 1 (by decide) h), fun h => j2 (hq 2 (by decide) h), fun h => j3 (hq 3 (by decide) h), fun h => j4 (hq 4 (by decide) h), fun h => j5 (hq 5 (by decide) h), fun _ => rfl, fun h => have ⟨a, b, c, d, e⟩ := j7 (hq 7 (by decide) h); ⟨a, b, c, d.keep0 hcha, e⟩, fun h => have ⟨a, b⟩ := j8 (hq 8 (by decide) h); ⟨hp 7 a, b⟩, fun h => have ⟨a, b, c, d, e⟩ := j9 (hq 9 (by decide) h); ⟨a, b, c, fun h => (d (hn 10 (by decide) h)).keep0 hcha, fun h => (e (hq 10 (by decide) h)).keep0 hcha⟩, fun h => have ⟨a, b⟩ := j10 (hq 10 (by decide) h); ⟨hp 7 a, hp 9 b⟩⟩
    · obtain rfl := j3 (ready_dep hi 3 (by kernel_rfl))
      obtain rfl := j6 (ready_dep hi 6 (by kernel_rfl))
      refine wpOp_step rfl (fun K hK => ?_)
      go_simp
      go_at_call 105
      refine (big_calls n sz _ (HZZ.out.1) (HZZ.out.2) h0 h1).mono ?_
      rintro e wa ⟨v, rfl, ho, hf, hcha⟩
      rw [HH.out] at ho
      obtain ⟨Ab, cb, rfl, _, _⟩ := ho.slice
      try go_simp
      refine hK _ _ ?_
      refine ⟨hsz, hC.no_no hcha, x5, x12, x13, x14, _, x16, x17, _, _, x20, rfl, fun h => j0 (hq 0 (by decide) h), fun h => j1 (hq 1 (by decide) h), fun h => j2 (hq 2 (by decide) h), fun h => j3 (hq 3 (by decide) h), fun h => j4 (hq 4 (by decide) h), fun h => j5 (hq 5 (by decide) h), fun h => j6 (hq 6 (by decide) h), (by intro _; exact ⟨Ab, cb, rfl, ho, hf.weak (by omega)⟩), (by intro h; rw [hset 8] at h; have h8 := (j8 (by simpa using h)).1; rw [hun] at h8; cases h8), (by intro h; rw [hset 9] at h; obtain ⟨g, e1, e2, e3, e4⟩ := j9 (by simpa using h); exact ⟨g, e1, e2, fun h => by rw [hset 10] at h; exact (e3 (by simpa using h)).keep0 hcha, fun h => by rw [hset 10] at h; have := (j10 (by simpa using h)).1; rw [hun] at this; cases this⟩), fun h => have ⟨a, b⟩ := j10 (hq 10 (by decide) h); ⟨hp 7 a, hp 9 b⟩⟩
    · obtain rfl := j2 (ready_dep hi 2 (by kernel_rfl))
      have d7 := ready_dep hi 7 (by kernel_rfl)
      obtain ⟨Ab, cb, rfl, e2, e3⟩ := j7 d7
      refine wpOp_step rfl (fun K hK => ?_)
      go_simp
      refine hK _ _ ?_
      refine ⟨hsz, hC, x5, x12, x13, _, x15, x16, x17, x18, _, _, rfl, fun h => j0 (hq 0 (by decide) h), fun h => j1 (hq 1 (by decide) h), fun h => j2 (hq 2 (by decide) h), fun h => j3 (hq 3 (by decide) h), fun h => j4 (hq 4 (by decide) h), fun h => j5 (hq 5 (by decide) h), fun h => j6 (hq 6 (by decide) h), (by intro _; exact ⟨Ab, cb, rfl, e2, e3⟩), (by intro _; exact ⟨by rw [hset]; simp [d7], rfl⟩), fun h => have ⟨a, b, c, d, e⟩ := j9 (hq 9 (by decide) h); ⟨a, b, c, fun h => (d (hn 10 (by decide) h)), fun h => (e (hq 10 (by decide) h))⟩, fun h => have ⟨a, b⟩ := j10 (hq 10 (by decide) h); ⟨hp 7 a, hp 9 b⟩⟩
    · skip
      refine wpOp_step rfl (fun K hK => ?_)
      go_simp
      refine hK _ _ ?_
      have hA : Ch No wr (wr.alloc (.cells #[.int .i64 0, .slice none 0 0] 116)) := (Ch.refl No wr).alloc _
      refine ⟨hsz, hC.no_no hA, _, x12, x13, x14, x15, x16, x17, x18, x19, x20, rfl, fun h => j0 (hq 0 (by decide) h), fun h => j1 (hq 1 (by decide) h), fun h => j2 (hq 2 (by decide) h), fun h => j3 (hq 3 (by decide) h), fun h => j4 (hq 4 (by decide) h), fun h => j5 (hq 5 (by decide) h), fun h => j6 (hq 6 (by decide) h), fun h => have ⟨a, b, c, d, e⟩ := j7 (hq 7 (by decide) h); ⟨a, b, c, d.keep0 hA, e⟩, fun h => have ⟨a, b⟩ := j8 (hq 8 (by decide) h); ⟨hp 7 a, b⟩, (by intro _; exact ⟨wr.heap.size, rfl, by omega, fun _ => Row.alloc wr [.int .i64 0, .slice none 0 0] 116, fun h => by rw [hset 10] at h; have := (j10 (by simpa using h)).2; rw [hun] at this; cases this⟩), fun h => have ⟨a, b⟩ := j10 (hq 10 (by decide) h); ⟨hp 7 a, hp 9 b⟩⟩
    · have d9 := ready_dep hi 9 (by kernel_rfl)
      have d8 := ready_dep hi 8 (by kernel_rfl)
      obtain ⟨d7, rfl⟩ := j8 d8
      obtain ⟨Ab, cb, rfl, f2, f3⟩ := j7 d7
      obtain ⟨g, rfl, e2, e3, _⟩ := j9 d9
      have hR := e3 hun
      refine wpOp_step rfl (fun K hK => ?_)
      refine step_store rfl rfl 116 _ _ rfl g 0 116 [.int .i64 0, .slice none 0 0] (.agg #[.int .i64 cd, .slice Ab H.length cb]) rfl rfl [.int .i64 cd, .slice Ab H.length cb] rfl size_pc (by simp [Value.oneCell']) hR (by simp) ?_
      intro w2 hrow2 hch2
      refine hK _ _ ?_
      refine ⟨hsz, hC.freshg hch2 (by simp only [World.size_alloc]; omega), _, x12, x13, x14, x15, x16, x17, x18, _, _, rfl, fun h => j0 (hq 0 (by decide) h), fun h => j1 (hq 1 (by decide) h), fun h => j2 (hq 2 (by decide) h), fun h => j3 (hq 3 (by decide) h), fun h => j4 (hq 4 (by decide) h), fun h => j5 (hq 5 (by decide) h), fun h => j6 (hq 6 (by decide) h), (by intro _; exact ⟨Ab, cb, rfl, f2.keep hch2 (fun b hb h => hR.apart f2 (by decide) (h ▸ hb)), f3⟩), (by intro _; exact ⟨by rw [hset]; simp [d7], rfl⟩), (by intro _; exact ⟨g, rfl, e2, fun h => by rw [hset 10] at h; simp at h, fun _ => by simpa using hrow2⟩), (by intro _; exact ⟨by rw [hset]; simp [d7], by rw [hset]; simp [d9]⟩)⟩
  · intro listed a wr hJ hr
    obtain ⟨hs, hC, x5, x12, x13, x14, x15, x16, x17, x18, x19, x20, rfl, j0, j1, j2, j3, j4, j5, j6, j7, j8, j9, j10⟩ := hJ
    have hE := fun i h1 h2 => ready_end (listed := listed) hr hs i h1 h2
    have u0 : listed.getD 0 false = true := hE 0 (by decide) (fun d h => by simp [depB, Region.binds] at h)
    have u3 : listed.getD 3 false = true := hE 3 (by decide) (fun d h => by simp [depB, Region.binds] at h)
    have u4 : listed.getD 4 false = true := hE 4 (by decide) (fun d h => by simp [depB, Region.binds] at h)
    have u9 : listed.getD 9 false = true := hE 9 (by decide) (fun d h => by simp [depB, Region.binds] at h)
    have u1 : listed.getD 1 false = true := hE 1 (by decide) (fun d h => by simp [depB, Region.binds] at h; first | (subst h; assumption) | (rcases h with h | h <;> (subst h; assumption)))
    have u5 : listed.getD 5 false = true := hE 5 (by decide) (fun d h => by simp [depB, Region.binds] at h; first | (subst h; assumption) | (rcases h with h | h <;> (subst h; assumption)))
    have u2 : listed.getD 2 false = true := hE 2 (by decide) (fun d h => by simp [depB, Region.binds] at h; first | (subst h; assumption) | (rcases h with h | h <;> (subst h; assumption)))
    have u6 : listed.getD 6 false = true := hE 6 (by decide) (fun d h => by simp [depB, Region.binds] at h; first | (subst h; assumption) | (rcases h with h | h <;> (subst h; assumption)))
    have u7 : listed.getD 7 false = true := hE 7 (by decide) (fun d h => by simp [depB, Region.binds] at h; first | (subst h; assumption) | (rcases h with h | h <;> (subst h; assumption)))
    have u8 : listed.getD 8 false = true := hE 8 (by decide) (fun d h => by simp [depB, Region.binds] at h; first | (subst h; assumption) | (rcases h with h | h <;> (subst h; assumption)))
    have u10 : listed.getD 10 false = true := hE 10 (by decide) (fun d h => by
      simp [depB, Region.binds] at h
      have hd : d < 10 := by omega
      obtain rfl | rfl | rfl | rfl | rfl | rfl | rfl | rfl | rfl | rfl : d = 0 ∨ d = 1 ∨ d = 2 ∨ d = 3 ∨ d = 4 ∨ d = 5 ∨ d = 6 ∨ d = 7 ∨ d = 8 ∨ d = 9 := by omega
      all_goals assumption)
    obtain ⟨Ab, cb, rfl, f2, f3⟩ := j7 u7
    obtain ⟨g, rfl, e2, _, e4⟩ := j9 u9
    have hR := e4 u10
    have c0 := hC.cell0 p0
    have y0 := hR.cell 0 _ rfl
    have y1 := hR.cell 1 _ rfl
    have c9 := ((Ch.refl No wr).alloc (.cells #[.int .i64 cd, .slice Ab H.length cb] 116)).cell0 c0
    have HCC := hC
    clear j0 j1 j2 j3 j4 j5 j6 j7 j8 j9 j10 hE u0 u1 u2 u3 u4 u5 u6 u7 u8 u9 u10 hr hs
    go_wp2_with fail
    go_ret
    exact ⟨_, [(cd, Ab, H.length, cb)], rfl, PMay.one (w0 := w) (P := NumW k n) (cd, Ab, H.length, cb) HP.out f2.by f3 (C1.no_no hC).size, by simp, ⟨_, List.mem_singleton.2 rfl, rfl⟩, (C1.no_no hC).alloc _⟩
  · have no : ∀ (j : Nat) {p : Prop}, (Array.replicate 11 false).getD j false = true → p := fun j _ h => by rw [rep_getD] at h; cases h
    exact ⟨by simp, D1.drew, _, _, _, _, _, _, _, _, _, _, rfl, no 0, no 1, no 2, no 3, no 4, no 5, no 6, no 7, no 8, no 9, no 10⟩

end Go.Proofs.YtbdgkikipekmlaaDoor
