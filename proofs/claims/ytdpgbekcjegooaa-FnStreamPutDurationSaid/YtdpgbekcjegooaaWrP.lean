/- The walks of the Writer's small writers: a code and a number behind it; one byte. No condition. -/
import Derived.Test.YtdpgbekcjegooaaWr
namespace Go.Proofs.Ytdpgbekcjegooaa
set_option linter.unusedVariables false
set_option linter.unusedSimpArgs false
open Go.RowKit

def WrTo (base p t N : Nat) (out : List Int) (w : World) : Prop := ∃ g k vB bl done, WrS base p t g N k vB bl done w ∧ done ++ bl = out
theorem WrS.drewN {base p t g N k : Nat} {vB : Value} {bl done : List Int} {w : World} (h : WrS base p t g N k vB bl done w) (n : Nat) : WrS base p t g N k vB bl done (w.drewN n) :=
  ⟨h.rp, h.rg, h.rt, h.ow, h.len, h.kN, h.n0, h.n1, h.bp, h.bt, h.bg, h.bv, h.pt, h.pg, h.tg, h.vp, h.vt, h.vg⟩
theorem WrS.drew {base p t g N k : Nat} {vB : Value} {bl done : List Int} {w : World} (h : WrS base p t g N k vB bl done w) : WrS base p t g N k vB bl done w.drew :=
  ⟨h.rp, h.rg, h.rt, h.ow, h.len, h.kN, h.n0, h.n1, h.bp, h.bt, h.bg, h.bv, h.pt, h.pg, h.tg, h.vp, h.vt, h.vg⟩
theorem WrS.isCell {base p t g N k : Nat} {vB : Value} {bl done : List Int} {w : World} (h : WrS base p t g N k vB bl done w) (m : Nat) (hm : k + m ≤ N) : (∀ j, j < m → ∃ u, w.cell? ⟨g, k + j, none⟩ = some u) ∧ ∀ j, j < m → w.frozen? ⟨g, k + j, none⟩ = false := by
  obtain ⟨cur, h1, h2, _⟩ := h.rg
  exact ⟨fun j hj => ⟨_, h1.cell (k + j) cur[k + j] (List.getElem?_eq_getElem (by omega))⟩, fun j _ => h1.frozen _⟩
/-- Bytes are laid behind those that wait: the buffer's block alone has changed. -/
theorem WrS.laid' {base p t g N k : Nat} {vB : Value} {bl done : List Int} {w : World} (h : WrS base p t g N k vB bl done w) (enc : List Int) (hn : k + enc.length ≤ N) (cur : List Value) (g2 : cur.length = N) (g3 : cur.take k = bl.map u8) (w3 : World)
    (r1 : Row w3 g 5 (cur.take k ++ enc.map u8 ++ cur.drop (k + (enc.map u8).length))) (r2 : Ch (fun b => b = g) w w3) :
    w3.cell? ⟨p, 1, none⟩ = some (.slice (some ⟨g, 0, none⟩) N N) ∧ w3.cell? ⟨p, 2, none⟩ = some (.int .i64 k) ∧ w3.frozen? ⟨p, 2, none⟩ = false ∧
      WrS base p t g N (k + enc.length) vB (bl ++ enc) done (w3.setCell ⟨p, 2, none⟩ (.int .i64 ((k + enc.length : Nat) : Int))) ∧ Ch (From base) w (w3.setCell ⟨p, 2, none⟩ (.int .i64 ((k + enc.length : Nat) : Int))) := by
  have hpg : ¬ p = g := h.pg
  have rp3 := h.rp.keep r2 hpg
  obtain ⟨s1, s2⟩ := Row.sets [.int .i64 ((k + enc.length : Nat) : Int)] 2 _ _ rp3 (by simp)
  have s1' : Row (w3.setCell ⟨p, 2, none⟩ (.int .i64 ((k + enc.length : Nat) : Int))) p 98 [.iface 76 (.pointer (some ⟨t, 0, none⟩)), .slice (some ⟨g, 0, none⟩) N N, .int .i64 ((k + enc.length : Nat) : Int)] := s1
  have s2' : Ch (fun b => b = p) w3 (w3.setCell ⟨p, 2, none⟩ (.int .i64 ((k + enc.length : Nat) : Int))) := s2
  have hgp : ¬ g = p := fun e => h.pg e.symm
  refine ⟨rp3.cell 1 _ rfl, rp3.cell 2 _ rfl, rp3.frozen 2, ⟨s1', ⟨_, r1.keep s2' hgp, ?_, ?_⟩, (h.rt.keep r2 h.tg).keep s2' (fun e => h.pt e.symm), (h.ow.keep r2 (fun b hb e => h.vg (e ▸ hb))).keep s2' (fun b hb e => h.vp (e ▸ hb)), ?_, by omega, h.n0, h.n1, h.bp, h.bt, h.bg, h.bv, h.pt, h.pg, h.tg, h.vp, h.vt, h.vg⟩, ?_⟩
  · simp; omega
  · rw [g3, List.map_append, List.take_append_of_le_length (by simp [h.len]), List.take_of_length_le (by simp [h.len])]
  · simp [h.len]
  · exact Ch.trans (Ch.trans (Ch.refl (From base) w) r2 (fun _ h => h) (fun b hb => .inl (by subst hb; exact h.bg))) s2' (fun _ h => h) (fun b hb => .inl (by subst hb; exact h.bp))
theorem WrS.laid {base p t g N k : Nat} {vB : Value} {bl done : List Int} {w : World} (h : WrS base p t g N k vB bl done w) (enc : List Int) (hn : k + enc.length ≤ N) :
    ∃ w3, w3 = w.setCells g k (enc.map u8) ∧ Ch (fun b => b = g) w w3 ∧ w3.cell? ⟨p, 1, none⟩ = some (.slice (some ⟨g, 0, none⟩) N N) ∧ w3.cell? ⟨p, 2, none⟩ = some (.int .i64 k) ∧ w3.frozen? ⟨p, 2, none⟩ = false ∧
      WrS base p t g N (k + enc.length) vB (bl ++ enc) done (w3.setCell ⟨p, 2, none⟩ (.int .i64 ((k + enc.length : Nat) : Int))) ∧ Ch (From base) w (w3.setCell ⟨p, 2, none⟩ (.int .i64 ((k + enc.length : Nat) : Int))) := by
  obtain ⟨cur, g1, g2, g3⟩ := h.rg
  obtain ⟨r1, r2⟩ := Row.sets (enc.map u8) k w cur g1 (by simp; omega)
  exact ⟨_, rfl, r2, h.laid' enc hn cur g2 g3 _ r1 r2⟩

set_option maxRecDepth 100000 in
set_option maxHeartbeats 400000 in
theorem prefix64_room (base p t g N k : Nat) (vB : Value) (bl done : List Int) (x y : Int) (w : World) (h : WrS base p t g N k vB bl done w) (hl : done.length ≤ 1099511627776) (hy : 0 ≤ y ∧ y < 18446744073709551616) (hr : k + 9 ≤ N) :
    Calls Try.prog 37 #[.pointer (some ⟨p, 0, none⟩), .int .u8 x, .int .u64 y] w fun e w' => e = .returned .nilIface ∧ WrTo base p t N (done ++ bl ++ (x :: be8 y)) w' ∧ Ch (From base) w w' := by
  have c1 := h.rp.cell 1 _ rfl
  have c2 := h.rp.cell 2 _ rfl
  have hkN := h.kN
  have hn0 := h.n0
  have hn1 := h.n1
  obtain ⟨hy0, hy1⟩ := hy
  have hwr : IntKind.i64.wrap ((N : Int) - k) = (N : Int) - k := IntWalk.i64_in _ (by omega)
  have hd : decide ((N : Int) - k < 9) = false := decide_eq_false (by omega)
  go_enter Try.func37, Try.ntmps37
  go_wp2_with fail
  go_quiet (fail)
  clear hwr hd
  go_wp2_with fail
  have hh := h.drewN nq
  have hc0 : Ch (From base) w (w.drewN nq) := (Ch.refl _ w).drewN nq
  generalize w.drewN nq = W at hh hc0 ⊢
  clear c1 c2
  have c1 := hh.rp.cell 1 _ rfl
  have c2 := hh.rp.cell 2 _ rfl
  obtain ⟨A', ka, ka', hcut⟩ := Cut.ahead_l 23 5 Try.underlying23 size_u8 (some ⟨g, 0, none⟩) N N k k rfl .i64 (by omega)
  obtain rfl : A' = some ⟨g, 0 + k, none⟩ := hcut.at_ g 0 rfl (by omega)
  rw [Nat.zero_add] at ka ka'
  refine wp_region_still_tail 11 (by kernel_rfl) (by kernel_rfl) ?_
  simp only [List.take_succ_cons, List.take_zero, List.drop_succ_cons, List.drop_zero]
  change wpStill _ _ (World.drew _) _ _ _
  repeat still_step
  refine wpStill_nil ?_
  change wpList _ _ _ _ _ (World.drew _)
  go_wp2_with (first | (go_at_call 51; refine (prefixu64_calls g k (N - k) (N - k) x y W.drew (by omega) ⟨hy0, hy1⟩ (hh.drew.isCell 9 (by omega)).1 (hh.drew.isCell 9 (by omega)).2).mono ?_; rintro e w2 ⟨rfl, hw2⟩; obtain ⟨w3, hw3, hch3, d1, d2, f2, hlast, hchl⟩ := hh.drew.laid (x :: be8 y) (by simp [be8]; omega); obtain rfl : w2 = w3 := (by rw [hw2, hw3]; rfl); clear hw2 hw3 c1 c2 ka ka' hcut))
  go_ret
  rw [show ((k + (x :: be8 y).length : Nat) : Int) = (k : Int) + 9 by rw [show (x :: be8 y).length = 9 from rfl]; omega] at hlast hchl
  exact ⟨rfl, ⟨g, _, vB, _, done, hlast, by simp⟩, hc0.drew.trans hchl (fun _ h => h) (fun _ h => .inl h)⟩
set_option maxRecDepth 100000 in
set_option maxHeartbeats 400000 in
theorem prefix64_full (base p t g N k : Nat) (vB : Value) (bl done : List Int) (x y : Int) (w : World) (h : WrS base p t g N k vB bl done w) (hl : done.length ≤ 1099511627776) (hy : 0 ≤ y ∧ y < 18446744073709551616) (hr : N < k + 9) :
    Calls Try.prog 37 #[.pointer (some ⟨p, 0, none⟩), .int .u8 x, .int .u64 y] w fun e w' => e = .returned .nilIface ∧ WrTo base p t N (done ++ bl ++ (x :: be8 y)) w' ∧ Ch (From base) w w' := by
  have c1 := h.rp.cell 1 _ rfl
  have c2 := h.rp.cell 2 _ rfl
  have hkN := h.kN
  have hn0 := h.n0
  have hn1 := h.n1
  obtain ⟨hy0, hy1⟩ := hy
  have hwr : IntKind.i64.wrap ((N : Int) - k) = (N : Int) - k := IntWalk.i64_in _ (by omega)
  have hd : decide ((N : Int) - k < 9) = true := decide_eq_true (by omega)
  go_enter Try.func37, Try.ntmps37
  go_wp2_with fail
  go_quiet (fail)
  clear hwr hd
  go_wp2_with (first | (go_at_call 50; refine (flush_any base p t g N k vB bl done _ (h.drewN _) hl).mono ?_; rintro e W ⟨rfl, ⟨vB1, hh⟩, hch1⟩))
  have hc0 : Ch (From base) w W := ((Ch.refl _ w).drewN nq).trans hch1 (fun _ h => h) (fun _ h => .inl h)
  clear c1 c2
  have c1 := hh.rp.cell 1 _ rfl
  have c2 := hh.rp.cell 2 _ rfl
  have c2' : W.cell? ⟨p, 2, none⟩ = some (.int .i64 0) := c2
  obtain ⟨A', ka, ka', hcut⟩ := Cut.ahead_l 23 5 Try.underlying23 size_u8 (some ⟨g, 0, none⟩) N N 0 0 rfl .i64 (by omega)
  obtain rfl : A' = some ⟨g, 0 + 0, none⟩ := hcut.at_ g 0 rfl (by omega)
  rw [Nat.zero_add] at ka ka'
  refine wp_region_still_tail 11 (by kernel_rfl) (by kernel_rfl) ?_
  simp only [List.take_succ_cons, List.take_zero, List.drop_succ_cons, List.drop_zero]
  change wpStill _ _ (World.drew _) _ _ _
  repeat still_step
  refine wpStill_nil ?_
  change wpList _ _ _ _ _ (World.drew _)
  go_wp2_with (first | (go_at_call 51; refine (prefixu64_calls g 0 (N - 0) (N - 0) x y W.drew (by omega) ⟨hy0, hy1⟩ (hh.drew.isCell 9 (by omega)).1 (hh.drew.isCell 9 (by omega)).2).mono ?_; rintro e w2 ⟨rfl, hw2⟩; obtain ⟨w3, hw3, hch3, d1, d2, f2, hlast, hchl⟩ := hh.drew.laid (x :: be8 y) (by simp [be8]; omega); obtain rfl : w2 = w3 := (by rw [hw2, hw3]; rfl); clear hw2 hw3 c1 c2 ka ka' hcut))
  go_ret
  rw [show ((0 + (x :: be8 y).length : Nat) : Int) = 9 from rfl] at hlast hchl
  exact ⟨rfl, ⟨g, _, vB1, _, done ++ bl, hlast, by simp⟩, hc0.drew.trans hchl (fun _ h => h) (fun _ h => .inl h)⟩
theorem prefix64_calls (base p t N : Nat) (out : List Int) (x y : Int) (w : World) (h : WrTo base p t N out w) (hl : out.length ≤ 1099511627776) (hy : 0 ≤ y ∧ y < 18446744073709551616) :
    Calls Try.prog 37 #[.pointer (some ⟨p, 0, none⟩), .int .u8 x, .int .u64 y] w fun e w' => e = .returned .nilIface ∧ WrTo base p t N (out ++ (x :: be8 y)) w' ∧ Ch (From base) w w' := by
  obtain ⟨g, k, vB, bl, done, h, rfl⟩ := h
  rw [List.length_append] at hl
  by_cases hr : k + 9 ≤ N
  · exact prefix64_room base p t g N k vB bl done x y w h (by omega) hy hr
  · exact prefix64_full base p t g N k vB bl done x y w h (by omega) hy (by omega)
set_option maxRecDepth 100000 in
set_option maxHeartbeats 400000 in
theorem prefix32_room (base p t g N k : Nat) (vB : Value) (bl done : List Int) (x y : Int) (w : World) (h : WrS base p t g N k vB bl done w) (hl : done.length ≤ 1099511627776) (hy : 0 ≤ y ∧ y < 4294967296) (hr : k + 5 ≤ N) :
    Calls Try.prog 45 #[.pointer (some ⟨p, 0, none⟩), .int .u8 x, .int .u32 y] w fun e w' => e = .returned .nilIface ∧ WrTo base p t N (done ++ bl ++ (x :: be4 y)) w' ∧ Ch (From base) w w' := by
  have c1 := h.rp.cell 1 _ rfl
  have c2 := h.rp.cell 2 _ rfl
  have hkN := h.kN
  have hn0 := h.n0
  have hn1 := h.n1
  obtain ⟨hy0, hy1⟩ := hy
  have hwr : IntKind.i64.wrap ((N : Int) - k) = (N : Int) - k := IntWalk.i64_in _ (by omega)
  have hd : decide ((N : Int) - k < 5) = false := decide_eq_false (by omega)
  go_enter Try.func45, Try.ntmps45
  go_wp2_with fail
  go_quiet (fail)
  clear hwr hd
  go_wp2_with fail
  have hh := h.drewN nq
  have hc0 : Ch (From base) w (w.drewN nq) := (Ch.refl _ w).drewN nq
  generalize w.drewN nq = W at hh hc0 ⊢
  clear c1 c2
  have c1 := hh.rp.cell 1 _ rfl
  have c2 := hh.rp.cell 2 _ rfl
  obtain ⟨A', ka, ka', hcut⟩ := Cut.ahead_l 23 5 Try.underlying23 size_u8 (some ⟨g, 0, none⟩) N N k k rfl .i64 (by omega)
  obtain rfl : A' = some ⟨g, 0 + k, none⟩ := hcut.at_ g 0 rfl (by omega)
  rw [Nat.zero_add] at ka ka'
  refine wp_region_still_tail 11 (by kernel_rfl) (by kernel_rfl) ?_
  simp only [List.take_succ_cons, List.take_zero, List.drop_succ_cons, List.drop_zero]
  change wpStill _ _ (World.drew _) _ _ _
  repeat still_step
  refine wpStill_nil ?_
  change wpList _ _ _ _ _ (World.drew _)
  go_wp2_with (first | (go_at_call 54; refine (prefixu32_calls g k (N - k) (N - k) x y W.drew (by omega) ⟨hy0, hy1⟩ (hh.drew.isCell 5 (by omega)).1 (hh.drew.isCell 5 (by omega)).2).mono ?_; rintro e w2 ⟨rfl, hw2⟩; obtain ⟨w3, hw3, hch3, d1, d2, f2, hlast, hchl⟩ := hh.drew.laid (x :: be4 y) (by simp [be4]; omega); obtain rfl : w2 = w3 := (by rw [hw2, hw3]; rfl); clear hw2 hw3 c1 c2 ka ka' hcut))
  go_ret
  rw [show ((k + (x :: be4 y).length : Nat) : Int) = (k : Int) + 5 by rw [show (x :: be4 y).length = 5 from rfl]; omega] at hlast hchl
  exact ⟨rfl, ⟨g, _, vB, _, done, hlast, by simp⟩, hc0.drew.trans hchl (fun _ h => h) (fun _ h => .inl h)⟩
set_option maxRecDepth 100000 in
set_option maxHeartbeats 400000 in
theorem prefix32_full (base p t g N k : Nat) (vB : Value) (bl done : List Int) (x y : Int) (w : World) (h : WrS base p t g N k vB bl done w) (hl : done.length ≤ 1099511627776) (hy : 0 ≤ y ∧ y < 4294967296) (hr : N < k + 5) :
    Calls Try.prog 45 #[.pointer (some ⟨p, 0, none⟩), .int .u8 x, .int .u32 y] w fun e w' => e = .returned .nilIface ∧ WrTo base p t N (done ++ bl ++ (x :: be4 y)) w' ∧ Ch (From base) w w' := by
  have c1 := h.rp.cell 1 _ rfl
  have c2 := h.rp.cell 2 _ rfl
  have hkN := h.kN
  have hn0 := h.n0
  have hn1 := h.n1
  obtain ⟨hy0, hy1⟩ := hy
  have hwr : IntKind.i64.wrap ((N : Int) - k) = (N : Int) - k := IntWalk.i64_in _ (by omega)
  have hd : decide ((N : Int) - k < 5) = true := decide_eq_true (by omega)
  go_enter Try.func45, Try.ntmps45
  go_wp2_with fail
  go_quiet (fail)
  clear hwr hd
  go_wp2_with (first | (go_at_call 50; refine (flush_any base p t g N k vB bl done _ (h.drewN _) hl).mono ?_; rintro e W ⟨rfl, ⟨vB1, hh⟩, hch1⟩))
  have hc0 : Ch (From base) w W := ((Ch.refl _ w).drewN nq).trans hch1 (fun _ h => h) (fun _ h => .inl h)
  clear c1 c2
  have c1 := hh.rp.cell 1 _ rfl
  have c2 := hh.rp.cell 2 _ rfl
  have c2' : W.cell? ⟨p, 2, none⟩ = some (.int .i64 0) := c2
  obtain ⟨A', ka, ka', hcut⟩ := Cut.ahead_l 23 5 Try.underlying23 size_u8 (some ⟨g, 0, none⟩) N N 0 0 rfl .i64 (by omega)
  obtain rfl : A' = some ⟨g, 0 + 0, none⟩ := hcut.at_ g 0 rfl (by omega)
  rw [Nat.zero_add] at ka ka'
  refine wp_region_still_tail 11 (by kernel_rfl) (by kernel_rfl) ?_
  simp only [List.take_succ_cons, List.take_zero, List.drop_succ_cons, List.drop_zero]
  change wpStill _ _ (World.drew _) _ _ _
  repeat still_step
  refine wpStill_nil ?_
  change wpList _ _ _ _ _ (World.drew _)
  go_wp2_with (first | (go_at_call 54; refine (prefixu32_calls g 0 (N - 0) (N - 0) x y W.drew (by omega) ⟨hy0, hy1⟩ (hh.drew.isCell 5 (by omega)).1 (hh.drew.isCell 5 (by omega)).2).mono ?_; rintro e w2 ⟨rfl, hw2⟩; obtain ⟨w3, hw3, hch3, d1, d2, f2, hlast, hchl⟩ := hh.drew.laid (x :: be4 y) (by simp [be4]; omega); obtain rfl : w2 = w3 := (by rw [hw2, hw3]; rfl); clear hw2 hw3 c1 c2 ka ka' hcut))
  go_ret
  rw [show ((0 + (x :: be4 y).length : Nat) : Int) = 5 from rfl] at hlast hchl
  exact ⟨rfl, ⟨g, _, vB1, _, done ++ bl, hlast, by simp⟩, hc0.drew.trans hchl (fun _ h => h) (fun _ h => .inl h)⟩
theorem prefix32_calls (base p t N : Nat) (out : List Int) (x y : Int) (w : World) (h : WrTo base p t N out w) (hl : out.length ≤ 1099511627776) (hy : 0 ≤ y ∧ y < 4294967296) :
    Calls Try.prog 45 #[.pointer (some ⟨p, 0, none⟩), .int .u8 x, .int .u32 y] w fun e w' => e = .returned .nilIface ∧ WrTo base p t N (out ++ (x :: be4 y)) w' ∧ Ch (From base) w w' := by
  obtain ⟨g, k, vB, bl, done, h, rfl⟩ := h
  rw [List.length_append] at hl
  by_cases hr : k + 5 ≤ N
  · exact prefix32_room base p t g N k vB bl done x y w h (by omega) hy hr
  · exact prefix32_full base p t g N k vB bl done x y w h (by omega) hy (by omega)
set_option maxRecDepth 100000 in
set_option maxHeartbeats 400000 in
theorem prefix16_room (base p t g N k : Nat) (vB : Value) (bl done : List Int) (x y : Int) (w : World) (h : WrS base p t g N k vB bl done w) (hl : done.length ≤ 1099511627776) (hy : 0 ≤ y ∧ y < 65536) (hr : k + 3 ≤ N) :
    Calls Try.prog 44 #[.pointer (some ⟨p, 0, none⟩), .int .u8 x, .int .u16 y] w fun e w' => e = .returned .nilIface ∧ WrTo base p t N (done ++ bl ++ (x :: be2 y)) w' ∧ Ch (From base) w w' := by
  have c1 := h.rp.cell 1 _ rfl
  have c2 := h.rp.cell 2 _ rfl
  have hkN := h.kN
  have hn0 := h.n0
  have hn1 := h.n1
  obtain ⟨hy0, hy1⟩ := hy
  have hwr : IntKind.i64.wrap ((N : Int) - k) = (N : Int) - k := IntWalk.i64_in _ (by omega)
  have hd : decide ((N : Int) - k < 3) = false := decide_eq_false (by omega)
  go_enter Try.func44, Try.ntmps44
  go_wp2_with fail
  go_quiet (fail)
  clear hwr hd
  go_wp2_with fail
  have hh := h.drewN nq
  have hc0 : Ch (From base) w (w.drewN nq) := (Ch.refl _ w).drewN nq
  generalize w.drewN nq = W at hh hc0 ⊢
  clear c1 c2
  have c1 := hh.rp.cell 1 _ rfl
  have c2 := hh.rp.cell 2 _ rfl
  obtain ⟨A', ka, ka', hcut⟩ := Cut.ahead_l 23 5 Try.underlying23 size_u8 (some ⟨g, 0, none⟩) N N k k rfl .i64 (by omega)
  obtain rfl : A' = some ⟨g, 0 + k, none⟩ := hcut.at_ g 0 rfl (by omega)
  rw [Nat.zero_add] at ka ka'
  refine wp_region_still_tail 11 (by kernel_rfl) (by kernel_rfl) ?_
  simp only [List.take_succ_cons, List.take_zero, List.drop_succ_cons, List.drop_zero]
  change wpStill _ _ (World.drew _) _ _ _
  repeat still_step
  refine wpStill_nil ?_
  change wpList _ _ _ _ _ (World.drew _)
  go_wp2_with (first | (go_at_call 53; refine (prefixu16_calls g k (N - k) (N - k) x y W.drew (by omega) ⟨hy0, hy1⟩ (hh.drew.isCell 3 (by omega)).1 (hh.drew.isCell 3 (by omega)).2).mono ?_; rintro e w2 ⟨rfl, hw2⟩; obtain ⟨w3, hw3, hch3, d1, d2, f2, hlast, hchl⟩ := hh.drew.laid (x :: be2 y) (by simp [be2]; omega); obtain rfl : w2 = w3 := (by rw [hw2, hw3]; rfl); clear hw2 hw3 c1 c2 ka ka' hcut))
  go_ret
  rw [show ((k + (x :: be2 y).length : Nat) : Int) = (k : Int) + 3 by rw [show (x :: be2 y).length = 3 from rfl]; omega] at hlast hchl
  exact ⟨rfl, ⟨g, _, vB, _, done, hlast, by simp⟩, hc0.drew.trans hchl (fun _ h => h) (fun _ h => .inl h)⟩
set_option maxRecDepth 100000 in
set_option maxHeartbeats 400000 in
theorem prefix16_full (base p t g N k : Nat) (vB : Value) (bl done : List Int) (x y : Int) (w : World) (h : WrS base p t g N k vB bl done w) (hl : done.length ≤ 1099511627776) (hy : 0 ≤ y ∧ y < 65536) (hr : N < k + 3) :
    Calls Try.prog 44 #[.pointer (some ⟨p, 0, none⟩), .int .u8 x, .int .u16 y] w fun e w' => e = .returned .nilIface ∧ WrTo base p t N (done ++ bl ++ (x :: be2 y)) w' ∧ Ch (From base) w w' := by
  have c1 := h.rp.cell 1 _ rfl
  have c2 := h.rp.cell 2 _ rfl
  have hkN := h.kN
  have hn0 := h.n0
  have hn1 := h.n1
  obtain ⟨hy0, hy1⟩ := hy
  have hwr : IntKind.i64.wrap ((N : Int) - k) = (N : Int) - k := IntWalk.i64_in _ (by omega)
  have hd : decide ((N : Int) - k < 3) = true := decide_eq_true (by omega)
  go_enter Try.func44, Try.ntmps44
  go_wp2_with fail
  go_quiet (fail)
  clear hwr hd
  go_wp2_with (first | (go_at_call 50; refine (flush_any base p t g N k vB bl done _ (h.drewN _) hl).mono ?_; rintro e W ⟨rfl, ⟨vB1, hh⟩, hch1⟩))
  have hc0 : Ch (From base) w W := ((Ch.refl _ w).drewN nq).trans hch1 (fun _ h => h) (fun _ h => .inl h)
  clear c1 c2
  have c1 := hh.rp.cell 1 _ rfl
  have c2 := hh.rp.cell 2 _ rfl
  have c2' : W.cell? ⟨p, 2, none⟩ = some (.int .i64 0) := c2
  obtain ⟨A', ka, ka', hcut⟩ := Cut.ahead_l 23 5 Try.underlying23 size_u8 (some ⟨g, 0, none⟩) N N 0 0 rfl .i64 (by omega)
  obtain rfl : A' = some ⟨g, 0 + 0, none⟩ := hcut.at_ g 0 rfl (by omega)
  rw [Nat.zero_add] at ka ka'
  refine wp_region_still_tail 11 (by kernel_rfl) (by kernel_rfl) ?_
  simp only [List.take_succ_cons, List.take_zero, List.drop_succ_cons, List.drop_zero]
  change wpStill _ _ (World.drew _) _ _ _
  repeat still_step
  refine wpStill_nil ?_
  change wpList _ _ _ _ _ (World.drew _)
  go_wp2_with (first | (go_at_call 53; refine (prefixu16_calls g 0 (N - 0) (N - 0) x y W.drew (by omega) ⟨hy0, hy1⟩ (hh.drew.isCell 3 (by omega)).1 (hh.drew.isCell 3 (by omega)).2).mono ?_; rintro e w2 ⟨rfl, hw2⟩; obtain ⟨w3, hw3, hch3, d1, d2, f2, hlast, hchl⟩ := hh.drew.laid (x :: be2 y) (by simp [be2]; omega); obtain rfl : w2 = w3 := (by rw [hw2, hw3]; rfl); clear hw2 hw3 c1 c2 ka ka' hcut))
  go_ret
  rw [show ((0 + (x :: be2 y).length : Nat) : Int) = 3 from rfl] at hlast hchl
  exact ⟨rfl, ⟨g, _, vB1, _, done ++ bl, hlast, by simp⟩, hc0.drew.trans hchl (fun _ h => h) (fun _ h => .inl h)⟩
theorem prefix16_calls (base p t N : Nat) (out : List Int) (x y : Int) (w : World) (h : WrTo base p t N out w) (hl : out.length ≤ 1099511627776) (hy : 0 ≤ y ∧ y < 65536) :
    Calls Try.prog 44 #[.pointer (some ⟨p, 0, none⟩), .int .u8 x, .int .u16 y] w fun e w' => e = .returned .nilIface ∧ WrTo base p t N (out ++ (x :: be2 y)) w' ∧ Ch (From base) w w' := by
  obtain ⟨g, k, vB, bl, done, h, rfl⟩ := h
  rw [List.length_append] at hl
  by_cases hr : k + 3 ≤ N
  · exact prefix16_room base p t g N k vB bl done x y w h (by omega) hy hr
  · exact prefix16_full base p t g N k vB bl done x y w h (by omega) hy (by omega)
set_option maxRecDepth 100000 in
set_option maxHeartbeats 400000 in
theorem prefix8_room (base p t g N k : Nat) (vB : Value) (bl done : List Int) (x y : Int) (w : World) (h : WrS base p t g N k vB bl done w) (hl : done.length ≤ 1099511627776) (hy : 0 ≤ y ∧ y < 256) (hr : k + 2 ≤ N) :
    Calls Try.prog 56 #[.pointer (some ⟨p, 0, none⟩), .int .u8 x, .int .u8 y] w fun e w' => e = .returned .nilIface ∧ WrTo base p t N (done ++ bl ++ (x :: [y])) w' ∧ Ch (From base) w w' := by
  have c1 := h.rp.cell 1 _ rfl
  have c2 := h.rp.cell 2 _ rfl
  have hkN := h.kN
  have hn0 := h.n0
  have hn1 := h.n1
  obtain ⟨hy0, hy1⟩ := hy
  have hwr : IntKind.i64.wrap ((N : Int) - k) = (N : Int) - k := IntWalk.i64_in _ (by omega)
  have hd : decide ((N : Int) - k < 2) = false := decide_eq_false (by omega)
  go_enter Try.func56, Try.ntmps56
  go_wp2_with fail
  go_quiet (fail)
  clear hwr hd
  go_wp2_with fail
  have hh := h.drewN nq
  have hc0 : Ch (From base) w (w.drewN nq) := (Ch.refl _ w).drewN nq
  generalize w.drewN nq = W at hh hc0 ⊢
  clear c1 c2
  have c1 := hh.rp.cell 1 _ rfl
  have c2 := hh.rp.cell 2 _ rfl
  obtain ⟨A', ka, ka', hcut⟩ := Cut.ahead_l 23 5 Try.underlying23 size_u8 (some ⟨g, 0, none⟩) N N k k rfl .i64 (by omega)
  obtain rfl : A' = some ⟨g, 0 + k, none⟩ := hcut.at_ g 0 rfl (by omega)
  rw [Nat.zero_add] at ka ka'
  refine wp_region_still_tail 11 (by kernel_rfl) (by kernel_rfl) ?_
  simp only [List.take_succ_cons, List.take_zero, List.drop_succ_cons, List.drop_zero]
  change wpStill _ _ (World.drew _) _ _ _
  repeat still_step
  refine wpStill_nil ?_
  change wpList _ _ _ _ _ (World.drew _)
  go_wp2_with (first | (go_at_call 58; refine (prefixu8_calls g k (N - k) (N - k) x y W.drew (by omega) ⟨hy0, hy1⟩ (hh.drew.isCell 2 (by omega)).1 (hh.drew.isCell 2 (by omega)).2).mono ?_; rintro e w2 ⟨rfl, hw2⟩; obtain ⟨w3, hw3, hch3, d1, d2, f2, hlast, hchl⟩ := hh.drew.laid (x :: [y]) (by simp; omega); obtain rfl : w2 = w3 := (by rw [hw2, hw3]; rfl); clear hw2 hw3 c1 c2 ka ka' hcut))
  go_ret
  rw [show ((k + (x :: [y]).length : Nat) : Int) = (k : Int) + 2 by rw [show (x :: [y]).length = 2 from rfl]; omega] at hlast hchl
  exact ⟨rfl, ⟨g, _, vB, _, done, hlast, by simp⟩, hc0.drew.trans hchl (fun _ h => h) (fun _ h => .inl h)⟩
set_option maxRecDepth 100000 in
set_option maxHeartbeats 400000 in
theorem prefix8_full (base p t g N k : Nat) (vB : Value) (bl done : List Int) (x y : Int) (w : World) (h : WrS base p t g N k vB bl done w) (hl : done.length ≤ 1099511627776) (hy : 0 ≤ y ∧ y < 256) (hr : N < k + 2) :
    Calls Try.prog 56 #[.pointer (some ⟨p, 0, none⟩), .int .u8 x, .int .u8 y] w fun e w' => e = .returned .nilIface ∧ WrTo base p t N (done ++ bl ++ (x :: [y])) w' ∧ Ch (From base) w w' := by
  have c1 := h.rp.cell 1 _ rfl
  have c2 := h.rp.cell 2 _ rfl
  have hkN := h.kN
  have hn0 := h.n0
  have hn1 := h.n1
  obtain ⟨hy0, hy1⟩ := hy
  have hwr : IntKind.i64.wrap ((N : Int) - k) = (N : Int) - k := IntWalk.i64_in _ (by omega)
  have hd : decide ((N : Int) - k < 2) = true := decide_eq_true (by omega)
  go_enter Try.func56, Try.ntmps56
  go_wp2_with fail
  go_quiet (fail)
  clear hwr hd
  go_wp2_with (first | (go_at_call 50; refine (flush_any base p t g N k vB bl done _ (h.drewN _) hl).mono ?_; rintro e W ⟨rfl, ⟨vB1, hh⟩, hch1⟩))
  have hc0 : Ch (From base) w W := ((Ch.refl _ w).drewN nq).trans hch1 (fun _ h => h) (fun _ h => .inl h)
  clear c1 c2
  have c1 := hh.rp.cell 1 _ rfl
  have c2 := hh.rp.cell 2 _ rfl
  have c2' : W.cell? ⟨p, 2, none⟩ = some (.int .i64 0) := c2
  obtain ⟨A', ka, ka', hcut⟩ := Cut.ahead_l 23 5 Try.underlying23 size_u8 (some ⟨g, 0, none⟩) N N 0 0 rfl .i64 (by omega)
  obtain rfl : A' = some ⟨g, 0 + 0, none⟩ := hcut.at_ g 0 rfl (by omega)
  rw [Nat.zero_add] at ka ka'
  refine wp_region_still_tail 11 (by kernel_rfl) (by kernel_rfl) ?_
  simp only [List.take_succ_cons, List.take_zero, List.drop_succ_cons, List.drop_zero]
  change wpStill _ _ (World.drew _) _ _ _
  repeat still_step
  refine wpStill_nil ?_
  change wpList _ _ _ _ _ (World.drew _)
  go_wp2_with (first | (go_at_call 58; refine (prefixu8_calls g 0 (N - 0) (N - 0) x y W.drew (by omega) ⟨hy0, hy1⟩ (hh.drew.isCell 2 (by omega)).1 (hh.drew.isCell 2 (by omega)).2).mono ?_; rintro e w2 ⟨rfl, hw2⟩; obtain ⟨w3, hw3, hch3, d1, d2, f2, hlast, hchl⟩ := hh.drew.laid (x :: [y]) (by simp; omega); obtain rfl : w2 = w3 := (by rw [hw2, hw3]; rfl); clear hw2 hw3 c1 c2 ka ka' hcut))
  go_ret
  rw [show ((0 + (x :: [y]).length : Nat) : Int) = 2 from rfl] at hlast hchl
  exact ⟨rfl, ⟨g, _, vB1, _, done ++ bl, hlast, by simp⟩, hc0.drew.trans hchl (fun _ h => h) (fun _ h => .inl h)⟩
theorem prefix8_calls (base p t N : Nat) (out : List Int) (x y : Int) (w : World) (h : WrTo base p t N out w) (hl : out.length ≤ 1099511627776) (hy : 0 ≤ y ∧ y < 256) :
    Calls Try.prog 56 #[.pointer (some ⟨p, 0, none⟩), .int .u8 x, .int .u8 y] w fun e w' => e = .returned .nilIface ∧ WrTo base p t N (out ++ (x :: [y])) w' ∧ Ch (From base) w w' := by
  obtain ⟨g, k, vB, bl, done, h, rfl⟩ := h
  rw [List.length_append] at hl
  by_cases hr : k + 2 ≤ N
  · exact prefix8_room base p t g N k vB bl done x y w h (by omega) hy hr
  · exact prefix8_full base p t g N k vB bl done x y w h (by omega) hy (by omega)
set_option maxRecDepth 100000 in
set_option maxHeartbeats 400000 in
theorem push_room (base p t g N k : Nat) (vB : Value) (bl done : List Int) (x : Int) (w : World) (h : WrS base p t g N k vB bl done w) (hl : done.length ≤ 1099511627776) (hr : k + 1 ≤ N) :
    Calls Try.prog 42 #[.pointer (some ⟨p, 0, none⟩), .int .u8 x] w fun e w' => e = .returned .nilIface ∧ WrTo base p t N (done ++ bl ++ [x]) w' ∧ Ch (From base) w w' := by
  have c1 := h.rp.cell 1 _ rfl
  have c2 := h.rp.cell 2 _ rfl
  have hkN := h.kN
  have hn0 := h.n0
  have hn1 := h.n1
  have hd : ((k : Int) == (N : Int)) = false := by simp; omega
  go_enter Try.func42, Try.ntmps42
  go_wp2_with fail
  go_quiet (fail)
  clear hd
  go_wp2_with fail
  have hh := h.drewN nq
  have hc0 : Ch (From base) w (w.drewN nq) := (Ch.refl _ w).drewN nq
  generalize w.drewN nq = W at hh hc0 ⊢
  clear c1 c2
  have c1 := hh.rp.cell 1 _ rfl
  have c2 := hh.rp.cell 2 _ rfl
  obtain ⟨cur, g1, g2, g3⟩ := hh.drew.rg
  have hb0 : (0 : Int) ≤ (k : Int) := by omega
  have hb1 : (k : Int) < (N : Int) := by omega
  refine wp_region_still_tail 10 (by kernel_rfl) (by kernel_rfl) ?_
  simp only [List.take_succ_cons, List.take_zero, List.drop_succ_cons, List.drop_zero]
  change wpStill _ _ (World.drew _) _ _ _
  repeat still_step
  refine wpStill_nil ?_
  change wpList _ _ _ _ _ (World.drew _)
  go_wp2_with (first | ((with_reducible refine gate (.store 5 _ _) rfl ?_); refine wp_store rfl rfl 5 _ _ rfl g k 5 cur (.int .u8 x) rfl rfl [.int .u8 x] rfl size_u8 (by simp [Value.oneCell']) g1 (by simp; omega) ?_; intro w2 r1 r2; obtain ⟨d1, d2, f2, hlast, hchl⟩ := hh.drew.laid' [x] (by simp; omega) cur g2 g3 w2 r1 r2; clear c1 c2))
  go_ret
  exact ⟨rfl, ⟨g, _, vB, _, done, hlast, by simp⟩, hc0.drew.trans hchl (fun _ h => h) (fun _ h => .inl h)⟩
set_option maxRecDepth 100000 in
set_option maxHeartbeats 400000 in
theorem push_full (base p t g N k : Nat) (vB : Value) (bl done : List Int) (x : Int) (w : World) (h : WrS base p t g N k vB bl done w) (hl : done.length ≤ 1099511627776) (hr : k = N) :
    Calls Try.prog 42 #[.pointer (some ⟨p, 0, none⟩), .int .u8 x] w fun e w' => e = .returned .nilIface ∧ WrTo base p t N (done ++ bl ++ [x]) w' ∧ Ch (From base) w w' := by
  subst hr
  have c1 := h.rp.cell 1 _ rfl
  have c2 := h.rp.cell 2 _ rfl
  have hkN := h.kN
  have hn0 := h.n0
  have hn1 := h.n1
  go_enter Try.func42, Try.ntmps42
  go_wp2_with fail
  go_quiet (fail)
  go_wp2_with (first | (go_at_call 50; refine (flush_any base p t g k k vB bl done _ (h.drewN _) hl).mono ?_; rintro e W ⟨rfl, ⟨vB1, hh⟩, hch1⟩))
  have hc0 : Ch (From base) w W := ((Ch.refl _ w).drewN nq).trans hch1 (fun _ h => h) (fun _ h => .inl h)
  clear c1 c2
  have c1 := hh.rp.cell 1 _ rfl
  have c2 := hh.rp.cell 2 _ rfl
  have c2' : W.cell? ⟨p, 2, none⟩ = some (.int .i64 0) := c2
  obtain ⟨cur, g1, g2, g3⟩ := hh.drew.rg
  have hb1 : (0 : Int) < (k : Int) := by omega
  have hb2 : 0 < k := by omega
  refine wp_region_still_tail 10 (by kernel_rfl) (by kernel_rfl) ?_
  simp only [List.take_succ_cons, List.take_zero, List.drop_succ_cons, List.drop_zero]
  change wpStill _ _ (World.drew _) _ _ _
  repeat still_step
  refine wpStill_nil ?_
  change wpList _ _ _ _ _ (World.drew _)
  go_wp2_with (first | ((with_reducible refine gate (.store 5 _ _) rfl ?_); refine wp_store rfl rfl 5 _ _ rfl g 0 5 cur (.int .u8 x) rfl rfl [.int .u8 x] rfl size_u8 (by simp [Value.oneCell']) g1 (by simp; omega) ?_; intro w2 r1 r2; obtain ⟨d1, d2, f2, hlast, hchl⟩ := hh.drew.laid' [x] (by simp; omega) cur g2 g3 w2 r1 r2; clear c1 c2))
  go_ret
  exact ⟨rfl, ⟨g, _, vB1, _, done ++ bl, hlast, by simp⟩, hc0.drew.trans hchl (fun _ h => h) (fun _ h => .inl h)⟩
theorem push_calls (base p t N : Nat) (out : List Int) (x : Int) (w : World) (h : WrTo base p t N out w) (hl : out.length ≤ 1099511627776) :
    Calls Try.prog 42 #[.pointer (some ⟨p, 0, none⟩), .int .u8 x] w fun e w' => e = .returned .nilIface ∧ WrTo base p t N (out ++ [x]) w' ∧ Ch (From base) w w' := by
  obtain ⟨g, k, vB, bl, done, h, rfl⟩ := h
  rw [List.length_append] at hl
  by_cases hr : k + 1 ≤ N
  · exact push_room base p t g N k vB bl done x w h (by omega) hr
  · exact push_full base p t g N k vB bl done x w h (by omega) (by have := h.kN; omega)

end Go.Proofs.Ytdpgbekcjegooaa
