/- The walk of the reference's elements of arrays. The walk of the reference's forms of arrays. The walk of the reference's writer of values of AMQP, whole: by the tree of the value. No condition. -/
import Derived.Test.YtbdgkikipekmlaaDoorPco
import Derived.Test.YtbdgkikipekmlaaDoorBas
namespace Go.Proofs.YtbdgkikipekmlaaDoor
set_option linter.unusedVariables false
set_option linter.unusedSimpArgs false
open Go.RowKit

def shL : List (Int × Value) := [(4, .int .i64 82), (5, .int .i64 83), (8, .int .i64 84), (9, .int .i64 85), (18, .int .i64 160), (19, .int .i64 161), (20, .int .i64 163)]
theorem run_look {P : Program} {w : World} (t kt et : TypeId) (q : IntKind) (ht : P.underlying t = some (.map kt et)) (hkt : P.underlying kt = some (.int q)) (z : Value) (hz : ∀ w : World, (zeroValue et).run P w = .ok z w)
    (m : Nat) (k : Int) (kvs : List (Int × Value)) (hM : IMap q w m kvs) (v : Value) (hv : (look kvs k).getD z = v) : (Instr.lookup t (.map (some m)) (.int q k) false).run P w = .ok v w := by
  obtain ⟨es, clk, hb, hf⟩ := hM
  obtain ⟨r, hr, hr2⟩ := hf k
  cases r with
  | none =>
    have hl : look kvs k = none := hr2.symm
    rw [hl] at hv
    simp [Instr.lookup, run_underlying ht, MapKept.run_getObj_map hb, MapKept.run_checkKey hkt (k := .int q k) rfl, MapKept.run_findKey hkt hr, hz, Result.andThen]
    exact hv
  | some y =>
    have hl : look kvs k = some y.2 := hr2.symm
    rw [hl] at hv
    simp [Instr.lookup, run_underlying ht, MapKept.run_getObj_map hb, MapKept.run_checkKey hkt (k := .int q k) rfl, MapKept.run_findKey hkt hr, Result.andThen]
    exact hv
/-- The forms of all elements of an array. -/
def ElD (m : Nat) (K : Fin m → Va) (sc cd : Int) (c : Int) (d : List Int) : Prop :=
  (c = sc ∨ c = cd) ∧ c ≠ 0 ∧ ∃ es : Nat → List Int, (∀ i : Fin m, (Wr (K i)).pc c (es i.val)) ∧ d = cat es m
theorem size_sv : (Tryd.prog.info? 23).map (·.size) = some 1 := by kernel_rfl
abbrev PZ : List Value := [.int .i64 0, .slice none 0 0]
set_option maxRecDepth 100000 in
set_option maxHeartbeats 8000000 in
theorem elements_calls (w0 : World) (pf : Nat) (hpf : w0.heap.size ≤ pf) (kd sc cd : Int) (A : Option Addr) (m cap : Nat) (K : Fin m → Va) (w : World) (hF : Fm w pf) (hsc : Hid ((look shL kd).getD (.int .i64 0) = .int .i64 sc)) (hcd : Hid ((look cdL kd).getD (.int .i64 0) = .int .i64 cd)) (hcd0 : cd ≠ 0)
    (hk : ∀ i : Fin m, ∃ b o cs', A = some ⟨b, o, none⟩ ∧ cs'.length = 6 ∧ (∀ j, j < 6 → w0.cell? ⟨b, o + (i.val * 6 + j), none⟩ = cs'[j]?) ∧ VaP w0 (K i) cs') (hw : Ch (Fro w0.heap.size) w0 w) (hm : m ≤ 1000) (hcn : kcV K m ≤ 2000)
    (hlen : ∀ (i : Nat) (h : i < m) (c : Int) (d : List Int), (Wr (K ⟨i, h⟩)).pc c d → d.length ≤ cntV (K ⟨i, h⟩) * 131100)
    (ih : ∀ (i : Nat) (h : i < m) (v0 v1 v2 v3 v4 v5 : Value) (w : World), VaP w0 (K ⟨i, h⟩) [v0, v1, v2, v3, v4, v5] → Ch (Fro w0.heap.size) w0 w → Fm w pf → Calls Tryd.prog 69 #[.pointer (some ⟨pf, 0, none⟩), .agg #[v0, v1, v2, v3, v4, .slice none 0 0]] w (PcF (Wr (K ⟨i, h⟩)).pc cd pf w)) :
    Calls Tryd.prog 106 #[.pointer (some ⟨pf, 0, none⟩), .int .i64 kd, .slice A m cap] w (PcF (ElD m K sc cd) cd pf w) := by
  have HCN := hid (And.intro hcn (And.intro hlen hcd0))
  have HK := hid hk
  have IH := hid ih
  have hpl := hF.lt
  clear hcn hlen ih hk hcd0
  go_enter Tryd.func106, Tryd.ntmps106
  go_wp2_with (first | ((with_reducible refine gate (.makeMap 164 none) rfl ?_); refine wp_makeMap rfl _ rfl .i64 ?_; intro wm m_1 hm_1 HM HC) | ((with_reducible refine gate (.insert 164 _ _ _) rfl ?_); refine wp_insert rfl rfl 164 3 3 _ _ _ rfl .i64 Tryd.underlying164 Tryd.underlying3 _ _ _ _ rfl rfl rfl HM (by simp [look]) HC hm_1 ?_; clear HM HC; intro wm HM HC))
  have HM' : IMap .i64 wm m_1 shL := HM
  clear HM
  have k1 := run_look (w := wm.drew) (P := Tryd.prog) 164 3 3 .i64 Tryd.underlying164 Tryd.underlying3 (.int .i64 0) zero_int m_1 kd shL (HM'.keep (Ch.refl No wm).drew (fun h => h)) (.int .i64 sc) hsc.out
  go_region_law (first | (go_simp; go_at_call 93; refine (coded_calls kd cd _ hcd).mono ?_; rintro e wa ⟨rfl, hca⟩; have k2 := run_look (w := wa) (P := Tryd.prog) 164 3 3 .i64 Tryd.underlying164 Tryd.underlying3 (.int .i64 0) zero_int m_1 kd shL ((HM'.keep (Ch.refl No wm).drew (fun h => h)).keep hca (fun h => h)) (.int .i64 sc) hsc.out))
  all_goals
    clear k1 k2
    have CA : Ch No w wa := (HC.drew).no_no hca
    obtain ⟨R, hR⟩ : ∃ R, wa.heap.size = R := ⟨_, rfl⟩
    have hRow := Row.alloc wa [.int .i64 sc, .int .i64 cd] 3
    rw [hR] at hRow
    obtain ⟨w1, hw1⟩ : ∃ w1, wa.alloc (.cells #[.int .i64 sc, .int .i64 cd] 3) = w1 := ⟨_, rfl⟩
    have C1 : Ch No w w1 := by rw [← hw1]; exact CA.alloc _
    have hpR : pf < R := by rw [← hR]; exact Nat.lt_of_lt_of_le hpl CA.size
    have hwR : w.heap.size ≤ R := by rw [← hR]; exact CA.size
    rw [show wa.alloc (.cells [.int .i64 sc, .int .i64 cd].toArray 3) = w1 from hw1] at hRow
    have HRW := hid (And.intro hR hw1)
    rw [hR]
    rw [hw1]
    clear hR hw1 HM' HC
    go_wp2_with fail
    simp only [List.getElem_toArray, List.getElem_cons_succ, List.getElem_cons_zero]
    go_simp
    go_loopg [8, 27] 2 (fun kk s8 s27 wr => ∃ (i : Nat) (xs : List Pce), kk + i = 2 ∧ s27 = .int .i64 i ∧ xs.length ≤ i ∧ PMay (ElD m K sc cd) w wr s8 xs ∧ Row wr R 3 [.int .i64 sc, .int .i64 cd] ∧ Fm wr pf ∧ Ch (fun b => b = pf) w wr ∧ Hid (i = 2 → ∃ x ∈ xs, x.1 = cd))
    case atStart => exact ⟨0, [], by omega, rfl, by simp, PMay.nil _ _ _, hRow, hF.keep0 C1, Ch.of_no C1, hid (by omega)⟩
    case round =>
      rename World => wA
      obtain ⟨i, xs, hki, rfl, hxl, hmay, hrR, hFA, hchA, HPOS⟩ := hrel
      obtain ⟨A8, c8, rfl⟩ := hmay.slice
      by_cases hi : i < 2
      · obtain ⟨cx, hcx, hcx1, hcx2⟩ : ∃ cx : Int, wA.cell? ⟨R, i, none⟩ = some (.int .i64 cx) ∧ (cx = sc ∨ cx = cd) ∧ (i = 1 → cx = cd) := by
          obtain rfl | rfl : i = 0 ∨ i = 1 := by omega
          · exact ⟨sc, hrR.cell 0 _ rfl, .inl rfl, by omega⟩
          · exact ⟨cd, hrR.cell 1 _ rfl, .inr rfl, fun _ => rfl⟩
        have HCX := hid (And.intro hcx1 hcx2)
        have hi' : (i : Int) < 2 := by omega
        have hi0 : (0 : Int) ≤ i := by omega
        have hnR := hrR.lt
        have HMAY := hid hmay
        clear hcx1 hcx2 hmay
        go_wp2_with fail
        go_loopg [11, 12, 35] m (fun kk s11 s12 s35 wj => ∃ (j : Nat) (ds : Nat → List Int) (o5 : List Int) (ball : Bool), kk + j = m ∧ s35 = .int .i64 j ∧ s12 = .bool ball ∧ o5.length ≤ kcV K j * 131100 ∧ Ow 5 Go.Proofs.YtbdgkikipekmlaaDoor.u8 wj s11 o5 ∧ Fr wA s11 ∧ Hid (ball = true → cx ≠ 0 ∧ o5 = cat ds j ∧ ∀ t (h : t < m), t < j → (Wr (K ⟨t, h⟩)).pc cx (ds t)) ∧ Hid (cx = cd → ball = true) ∧ Fm wj pf ∧ Ch (fun b => b = pf) wA wj)
        case atStart => exact ⟨0, fun _ => [], [], _, by omega, rfl, rfl, by simp [kcV], Ow.nil _ _ _, Fr.nil _ _ _, hid (fun h => ⟨by simpa using h, rfl, fun t _ ht => by omega⟩), hid (fun h => by have := HCN.out.2.2; simp [h, this]), hFA, Ch.refl _ _⟩
        case round =>
          rename World => wB
          obtain ⟨j, ds, o5, ball, hkj, rfl, rfl, hol, HO, hfo, HALL, HFULL, hFB, hchB⟩ := hrel
          obtain ⟨A5, c5, rfl, hc5, _⟩ := HO.slice
          by_cases hj : j < m
          · have hwB := (hw.trans hchA (fun _ h => h) (fun k hk => .inl (by subst hk; exact hpf))).trans hchB (fun _ h => h) (fun k hk => .inl (by subst hk; exact hpf))
            obtain ⟨b1, o1, u0, u1, u2, u3, u4, u5, rfl, htk, a0, a1, a2, a3, a4, a5⟩ := kid_at HK.out hwB j hj
            have hj' : (j : Int) < m := by omega
            have hj0 : (0 : Int) ≤ j := by omega
            have hks := kcV_succ K j hj
            have hkl := kcV_le K (j + 1) m (by omega)
            have hcn := HCN.out.1
            have HKS := hid hks
            have hol2 : o5.length ≤ 262200000 := by omega
            have HCK : Hid (cntV (K ⟨j, hj⟩) ≤ 2000) := hid (by omega)
            clear hks hkl hcn
            go_wp2_with (first | ((with_reducible refine gate (.store 25 (.tmp 14) _) rfl ?_); refine wp_store rfl rfl 25 _ _ rfl wB.heap.size 0 25 VZ' (.agg #[u0, u1, u2, u3, u4, u5]) rfl rfl [u0, u1, u2, u3, u4, u5] rfl size_va htk.one (Row.alloc wB VZ' 25) (by simp) ?_; intro w2 hrow2 hch2) | ((with_reducible refine gate (.store 23 (.tmp 39) _) rfl ?_); refine wp_store rfl rfl 23 _ _ rfl wB.heap.size 5 25 [u0, u1, u2, u3, u4, u5] (.slice none 0 0) rfl rfl [.slice none 0 0] rfl size_sv (by simp [Value.oneCell']) (by simpa using hrow2) (by simp) ?_; intro w3 hrow3 hch3; have q0 : w3.cell? ⟨wB.heap.size, 0, none⟩ = some u0 := hrow3.cell 0 _ rfl; have q1 : w3.cell? ⟨wB.heap.size, 1, none⟩ = some u1 := hrow3.cell 1 _ rfl; have q2 : w3.cell? ⟨wB.heap.size, 2, none⟩ = some u2 := hrow3.cell 2 _ rfl; have q3 : w3.cell? ⟨wB.heap.size, 3, none⟩ = some u3 := hrow3.cell 3 _ rfl; have q4 : w3.cell? ⟨wB.heap.size, 4, none⟩ = some u4 := hrow3.cell 4 _ rfl; have q5 : w3.cell? ⟨wB.heap.size, 5, none⟩ = some (.slice none 0 0) := hrow3.cell 5 _ rfl))
            have C3 : Ch No wB w3 := (((Ch.refl No wB).alloc _).freshg hch2 (Nat.le_refl _)).freshg hch3 (Nat.le_refl _)
            refine (IH.out j hj u0 u1 u2 u3 u4 u5 w3 htk (hwB.then_no C3) (hFB.keep0 C3)).mono ?_
            rintro e w4 ⟨v4, ps, rfl, hmay4, hpl4, ⟨x0, hx0, hx0e⟩, hF4, hch4⟩
            obtain ⟨A4, c4, rfl⟩ := hmay4.slice
            have HO4 := (HO.keep0 C3).keep hch4 (fun b hb h => by have := hfo b hb; have h9 : b = pf := h; have := hFA.lt; omega)
            have C4 : Ch (fun b => b = pf) wA w4 := (hchB.then_no C3).trans hch4 (fun _ h => h) (fun _ h => .inl h)
            have hlt5 : ∀ b, Blk (.slice A5 o5.length c5) b → b < w3.heap.size := fun b hb => Nat.lt_of_lt_of_le (HO.blk_lt b hb) C3.size
            have hp3 : pf < w3.heap.size := Nat.lt_of_lt_of_le hFB.lt C3.size
            have HX0 := hid (And.intro hx0 hx0e)
            obtain ⟨M, hM⟩ : ∃ M, ps.length = M := ⟨_, rfl⟩
            have HM4 := hid (And.intro hmay4 (And.intro HO4 hM))
            have hpl5 : M ≤ 4 := by rw [← hM]; exact hpl4
            rw [hM]
            clear hmay4 HO4 hM hpl4 hx0 hx0e a0 a1 a2 a3 a4 a5 q0 q1 q2 q3 q4 q5
            go_wp2_with fail
            go_loopg [11, 15, 44] M (fun kk s11 s15 s44 wk => ∃ (k : Nat) (fd : Bool) (o6 : List Int), kk + k = M ∧ s44 = .int .i64 k ∧ s15 = .bool fd ∧ o6.length ≤ o5.length + cntV (K ⟨j, hj⟩) * 131100 ∧ Ow 5 Go.Proofs.YtbdgkikipekmlaaDoor.u8 wk s11 o6 ∧ Fr wA s11 ∧ Hid (fd = true → ∃ d, o6 = o5 ++ d ∧ (Wr (K ⟨j, hj⟩)).pc cx d) ∧ Hid (fd = false → o6 = o5 ∧ s11 = .slice A5 o5.length c5 ∧ ∀ t (h : t < ps.length), t < k → ps[t].1 ≠ cx) ∧ Hid (PMay (Wr (K ⟨j, hj⟩)).pc w3 wk (.slice A4 M c4) ps) ∧ Fm wk pf ∧ Ch (fun b => b = pf) wA wk)
            case atStart => exact ⟨0, false, o5, by omega, rfl, rfl, by omega, HM4.out.2.1, hfo, hid (fun h => by cases h), hid (fun _ => ⟨rfl, rfl, fun t _ h => by omega⟩), hid (by have h9 := HM4.out.1; rw [HM4.out.2.2] at h9; exact h9), hF4, C4⟩
            case round =>
              rename World => wC
              obtain ⟨k, fd, o6, hkk, rfl, rfl, hol6, HO6, hfo6, HY, HN, HMP, hFC, hchC⟩ := hrel
              obtain ⟨A6, c6, rfl, hc6, _⟩ := HO6.slice
              have hol7 : o6.length ≤ 600000000 := by have := HCK.out; omega
              by_cases hk : k < M
              · have hkp : k < ps.length := by rw [HM4.out.2.2]; exact hk
                obtain ⟨gb, dd, rfl, g0, g1, hPd, hBy, hFrd⟩ := HMP.out.get k hkp
                have HLd := hid (HCN.out.2.1 j hj _ _ hPd)
                obtain ⟨⟨yc, yA, yn, yk⟩, hy⟩ : ∃ y, ps[k] = y := ⟨_, rfl⟩
                rw [hy] at g0 g1 hPd hBy hFrd
                replace g1 : wC.cell? ⟨gb, k * 2 + 1, none⟩ = some (.slice yA yn yk) := g1
                replace g0 : wC.cell? ⟨gb, k * 2, none⟩ = some (.int .i64 yc) := g0
                have hdl : dd.length ≤ 262200000 := by have := HLd.out; have := HCK.out; omega
                have hbl0 : ∀ ad, yA = some ad → ad.block < wC.heap.size := fun ad had => by
                  obtain ⟨Ay, cy, he, _, _, h3⟩ := hBy
                  replace he : Value.slice yA yn yk = .slice Ay dd.length cy := he
                  injection he with he1 he2 he3
                  rcases h3 with h3 | ⟨b9, o9, cur, mt, h3, h4⟩
                  · rw [← he1, had] at h3; cases h3
                  · rw [← he1, had] at h3
                    injection h3 with h3
                    subst h3
                    exact (Array.getElem?_eq_some_iff.1 h4).1
                have NBY := hid hbl0
                clear hbl0
                obtain ⟨Ay, cy, he, hdc, hrd, _⟩ := hBy
                replace he : Value.slice yA yn yk = .slice Ay dd.length cy := he
                injection he with he1 he2 he3
                subst he1; subst he2; subst he3
                have HPD := hid (And.intro hPd (And.intro hy hFrd))
                have hki' : (k : Int) < M := by omega
                have hki0 : (0 : Int) ≤ k := by omega
                clear hPd hy hFrd HLd
                have hrun3 := fun (w5 : World) (hr5 : Row w5 wC.heap.size 116 [.int .i64 yc, .slice yA dd.length yk]) => And.intro (hr5.cell 0 _ rfl) (hr5.cell 1 _ rfl)
                have HR3 := hid hrun3
                clear hrun3
                by_cases hyc : yc = cx
                · have hq1 : (yc == cx) = true := by simp [hyc]
                  have hq2 : decide (yc = cx) = true := decide_eq_true hyc
                  have HYC := hid hyc
                  clear hyc
                  cases fd
                  · go_wp2_with (first | ((with_reducible refine gate (.store 116 (.tmp 17) _) rfl ?_); refine wp_store rfl rfl 116 _ _ rfl wC.heap.size 0 116 PZ (.agg #[.int .i64 yc, .slice yA dd.length yk]) rfl rfl [.int .i64 yc, .slice yA dd.length yk] rfl size_pc (by simp [Value.oneCell']) (Row.alloc wC PZ 116) (by simp) ?_; intro w5 hrow5 hch5; have r0 := (HR3.out w5 hrow5).1; have r1 := (HR3.out w5 hrow5).2) | ((with_reducible refine gate (.call { callee := .builtin .append, args := #[.tmp _, .tmp _], argTypes := #[26, 26] }) rfl ?_); refine wp_append rfl _ _ 26 5 (.int .u8 0) 1 rfl Tryd.underlying26 info_u8 rfl (by decide) Go.Proofs.YtbdgkikipekmlaaDoor.u8 (fun _ => rfl) _ o6 dd _ _ _ rfl rfl rfl ((HO6.keep0 ((Ch.refl No wC).alloc _)).keep hch5 (fun b hb h => by have := HO6.blk_lt b hb; have h9 : b = wC.heap.size := h; omega)) ((hrd.keep0 ((Ch.refl No wC).alloc _)).keep hch5 (fun ad had h => by have := NBY.out ad had; have h9 : ad.block = wC.heap.size := h; omega)) (by omega) ?_; intro v7 w7 ho7 hch7 hat7))
                    have C5 : Ch No wC w5 := ((Ch.refl No wC).alloc _).freshg hch5 (Nat.le_refl _)
                    have hsA5 : wA.heap.size ≤ w5.heap.size := Nat.le_trans hchC.size C5.size
                    go_roundg (M - (k + 1))
                    case measure => omega
                    case rel =>
                      obtain ⟨n1, n2, n3⟩ := HN.out (by simp)
                      refine ⟨k + 1, true, o6 ++ dd, by omega, by go_num, rfl, ?_, ho7, hfo6.step hsA5 hat7, hid (fun _ => ⟨dd, by rw [n1], by have h9 := HPD.out.1; rw [HYC.out] at h9; exact h9⟩), hid (fun h => by cases h), hid ((HMP.out.keep0 C5).keep hch7 (fun b hb => hlt5 b (by rw [← n2]; exact hb))), (hFC.keep0 C5).keep hch7 (fun h => by have := hfo6 _ h; have := hFA.lt; omega), (hchC.then_no C5).trans hch7 (fun _ h => h) (fun b hb => .inr (hfo6 b hb))⟩
                      rw [List.length_append, n1]
                      have h9 := HPD.out.1
                      rw [HYC.out] at h9
                      have := HCN.out.2.1 j hj _ _ h9
                      omega
                  · go_wp2_with (first | ((with_reducible refine gate (.store 116 (.tmp 17) _) rfl ?_); refine wp_store rfl rfl 116 _ _ rfl wC.heap.size 0 116 PZ (.agg #[.int .i64 yc, .slice yA dd.length yk]) rfl rfl [.int .i64 yc, .slice yA dd.length yk] rfl size_pc (by simp [Value.oneCell']) (Row.alloc wC PZ 116) (by simp) ?_; intro w5 hrow5 hch5; have r0 := (HR3.out w5 hrow5).1; have r1 := (HR3.out w5 hrow5).2))
                    have C5 : Ch No wC w5 := ((Ch.refl No wC).alloc _).freshg hch5 (Nat.le_refl _)
                    go_roundg (M - (k + 1))
                    case measure => omega
                    case rel =>
                      exact ⟨k + 1, true, o6, by omega, by go_num, rfl, hol6, HO6.keep0 C5, hfo6, hid (fun _ => HY.out (by simp)), hid (fun h => by cases h), hid (HMP.out.keep0 C5), hFC.keep0 C5, hchC.then_no C5⟩
                · have hq1 : (yc == cx) = false := beq_eq_false_iff_ne.2 hyc
                  have hq2 : decide (yc = cx) = false := decide_eq_false hyc
                  have HYC := hid hyc
                  clear hyc
                  go_wp2_with (first | ((with_reducible refine gate (.store 116 (.tmp 17) _) rfl ?_); refine wp_store rfl rfl 116 _ _ rfl wC.heap.size 0 116 PZ (.agg #[.int .i64 yc, .slice yA dd.length yk]) rfl rfl [.int .i64 yc, .slice yA dd.length yk] rfl size_pc (by simp [Value.oneCell']) (Row.alloc wC PZ 116) (by simp) ?_; intro w5 hrow5 hch5; have r0 := (HR3.out w5 hrow5).1; have r1 := (HR3.out w5 hrow5).2))
                  have C5 : Ch No wC w5 := ((Ch.refl No wC).alloc _).freshg hch5 (Nat.le_refl _)
                  go_roundg (M - (k + 1))
                  case measure => omega
                  case rel =>
                    refine ⟨k + 1, fd, o6, by omega, by go_num, rfl, hol6, HO6.keep0 C5, hfo6, HY, hid (fun h => ?_), hid (HMP.out.keep0 C5), hFC.keep0 C5, hchC.then_no C5⟩
                    obtain ⟨n1, n2, n3⟩ := HN.out h
                    refine ⟨n1, n2, fun t ht htk => ?_⟩
                    by_cases h9 : t = k
                    · subst h9
                      rw [HPD.out.2.1]
                      exact HYC.out
                    · exact n3 t ht (by omega)
              · obtain rfl : k = M := by omega
                have hlast : fd = false → cx = cd → False := fun h1 h2 => by
                  obtain ⟨_, _, n3⟩ := HN.out h1
                  obtain ⟨hx0, hx1⟩ := HX0.out
                  obtain ⟨t, ht, hxt⟩ := List.getElem_of_mem hx0
                  exact n3 t ht (by rw [← HM4.out.2.2]; exact ht) (by rw [hxt, hx1, h2])
                have HLAST := hid hlast
                clear hlast
                cases ball <;> cases fd
                all_goals
                  go_wp2_with fail
                  go_roundg (m - (j + 1))
                  case measure => omega
                  case rel =>
                    first
                    | (obtain ⟨d9, h8, h7⟩ := HY.out (by simp)
                       obtain ⟨a1, a2, a3⟩ := HALL.out (by simp)
                       refine ⟨j + 1, fun t => if t = j then d9 else ds t, o6, true, by omega, by go_num, rfl, by rw [HKS.out]; omega, HO6, hfo6, hid (fun _ => ⟨a1, by rw [h8, a2, cat_set], fun t ht htj => ?_⟩), hid (fun _ => rfl), hFC, hchC⟩
                       by_cases h9 : t = j
                       · subst h9
                         simp only [if_pos]
                         exact h7
                       · simp only [if_neg h9]
                         exact a3 t ht (by omega))
                    | exact ⟨j + 1, ds, o6, false, by omega, by go_num, rfl, by rw [HKS.out]; omega, HO6, hfo6, hid (fun h => by cases h), hid (fun h => by first | exact HFULL.out h | exact (HLAST.out (by simp) h).elim), hFC, hchC⟩
          · obtain rfl : j = m := by omega
            have hcn := HCN.out.1
            have hol2 : o5.length ≤ 262200000 := by omega
            have hRB := hrR.keep hchB (fun h => by have h9 : R = pf := h; omega)
            have hnR2 := HRW.out
            cases ball
            · go_wp2_with fail
              go_roundg (2 - (i + 1))
              case measure => omega
              case rel => exact ⟨i + 1, xs, by omega, by go_num, by omega, HMAY.out.keep hchB (fun b hb => by have h9 : b = pf := hb; omega), hRB, hFB, hchA.trans hchB (fun _ h => h) (fun _ h => .inl h), hid (fun h => by have := HFULL.out (HCX.out.2 (by omega)); cases this)⟩
            · obtain ⟨a1, a2, a3⟩ := HALL.out (by simp)
              have X1 := (HMAY.out.keep hchB (fun b hb => by have h9 : b = pf := hb; omega)).keep0 ((Ch.refl No wB).alloc (.cells (pc ((cx, A5, o5.length, c5) : Pce)).toArray 116))
              have X0 := PMay.one (w0 := w) (w := wB) (P := ElD j K sc cd) (d := o5) (cx, A5, o5.length, c5) ⟨HCX.out.1, a1, ds, fun t => a3 t.val t.isLt t.isLt, a2⟩ HO.by (hfo.weak hchA.size) (Nat.le_trans hchA.size hchB.size)
              have HX := hid (And.intro X1 X0)
              clear X1 X0 a1 a2 a3
              go_wp2_with (first | ((with_reducible refine gate (.call { callee := .builtin .append, args := #[.tmp _, .tmp _], argTypes := #[113, 113] }) rfl ?_); refine wp_appendM rfl _ _ 113 116 _ 2 32 rfl Tryd.underlying113 info_pc rfl (by decide) (by decide) (by decide) (.slice A8 xs.length c8) xs.length (xs.flatMap pc) ([((cx, A5, o5.length, c5) : Pce)].flatMap pc) (some ⟨wB.heap.size, 0, none⟩) 1 1 rfl rfl (pcs_len [((cx, A5, o5.length, c5) : Pce)]) (pcs_one [((cx, A5, o5.length, c5) : Pce)]) HX.out.1.1 HX.out.2.src (by omega) ?_; intro v6 w6 ho6 hch6 hat6))
              have CB : Ch (fun b => b = pf) w wB := hchA.trans hchB (fun _ h => h) (fun _ h => .inl h)
              have M6 := HX.out.1.cat HX.out.2 (Nat.le_trans CB.size (Ch.size ((Ch.refl No wB).alloc (.cells (pc ((cx, A5, o5.length, c5) : Pce)).toArray 116)))) ho6 hch6 hat6
              have R6 := (hRB.keep0 ((Ch.refl No wB).alloc (.cells (pc ((cx, A5, o5.length, c5) : Pce)).toArray 116))).keep hch6 (fun h => (hRB.keep0 ((Ch.refl No wB).alloc (.cells (pc ((cx, A5, o5.length, c5) : Pce)).toArray 116))).apartK HX.out.1.1 (by decide) h)
              have F6 := (hFB.keep0 ((Ch.refl No wB).alloc (.cells (pc ((cx, A5, o5.length, c5) : Pce)).toArray 116))).keep hch6 (fun h => by have := HX.out.1.2.1 _ h; omega)
              go_roundg (2 - (i + 1))
              case measure => omega
              case rel => exact ⟨i + 1, xs ++ [((cx, A5, o5.length, c5) : Pce)], by omega, by go_num, by rw [List.length_append]; simp only [List.length_cons, List.length_nil]; omega, M6, R6, F6, (CB.alloc _).trans hch6 (fun _ h => h) (fun b hb => .inr (HX.out.1.2.1 b hb)), hid (fun h => ⟨((cx, A5, o5.length, c5) : Pce), by simp, HCX.out.2 (by omega)⟩)⟩
      · obtain rfl : i = 2 := by omega
        go_wp2_with fail
        go_ret
        exact ⟨_, xs, rfl, hmay, by omega, HPOS.out (by simp), hFA, hchA⟩

end Go.Proofs.YtbdgkikipekmlaaDoor

namespace Go.Proofs.YtbdgkikipekmlaaDoor
set_option linter.unusedVariables false
set_option linter.unusedSimpArgs false
open Go.RowKit

theorem sh_at (k : Int) (h0 : 0 ≤ k) (h1 : k < 24) : Hid ((look shL k).getD (.int .i64 0) = .int .i64 (shOf k)) := by
  obtain rfl | rfl | rfl | rfl | rfl | rfl | rfl | rfl | rfl | rfl | rfl | rfl | rfl | rfl | rfl | rfl | rfl | rfl | rfl | rfl | rfl | rfl | rfl | rfl : k = 0 ∨ k = 1 ∨ k = 2 ∨ k = 3 ∨ k = 4 ∨ k = 5 ∨ k = 6 ∨ k = 7 ∨ k = 8 ∨ k = 9 ∨ k = 10 ∨ k = 11 ∨ k = 12 ∨ k = 13 ∨ k = 14 ∨ k = 15 ∨ k = 16 ∨ k = 17 ∨ k = 18 ∨ k = 19 ∨ k = 20 ∨ k = 21 ∨ k = 22 ∨ k = 23 := by omega
  all_goals exact hid (by simp [look, shL, shOf, shI])
theorem cd_at (k : Int) (h0 : 0 ≤ k) (h1 : k < 24) : Hid ((look cdL k).getD (.int .i64 0) = .int .i64 (cdOf k)) ∧ cdOf k ≠ 0 := by
  obtain rfl | rfl | rfl | rfl | rfl | rfl | rfl | rfl | rfl | rfl | rfl | rfl | rfl | rfl | rfl | rfl | rfl | rfl | rfl | rfl | rfl | rfl | rfl | rfl : k = 0 ∨ k = 1 ∨ k = 2 ∨ k = 3 ∨ k = 4 ∨ k = 5 ∨ k = 6 ∨ k = 7 ∨ k = 8 ∨ k = 9 ∨ k = 10 ∨ k = 11 ∨ k = 12 ∨ k = 13 ∨ k = 14 ∨ k = 15 ∨ k = 16 ∨ k = 17 ∨ k = 18 ∨ k = 19 ∨ k = 20 ∨ k = 21 ∨ k = 22 ∨ k = 23 := by omega
  all_goals exact ⟨hid (by simp [look, cdL, cdOf, cdI]), by simp [cdOf, cdI]⟩
theorem VaP.kids {w0 : World} {k n o : Int} {s : ByteArray} {m d : Nat} {K : Fin m → Va} {D : Fin d → Va} {A : Option Addr} {cap : Nat} {v0 v1 v2 v4 v5 : Value} (h : VaP w0 (.mk k n s m K o d D) [v0, v1, v2, .slice A m cap, v4, v5]) :
    ∀ i : Fin m, ∃ b o cs', A = some ⟨b, o, none⟩ ∧ cs'.length = 6 ∧ (∀ j, j < 6 → w0.cell? ⟨b, o + (i.val * 6 + j), none⟩ = cs'[j]?) ∧ VaP w0 (K i) cs' := by
  obtain ⟨A', cap', B', capB', h1, _, _, _, _, _, _, _, _, hk, _⟩ := h
  simp only [List.cons.injEq, Value.slice.injEq, and_true, true_and] at h1
  obtain ⟨_, _, _, ⟨rfl, rfl⟩, _⟩ := h1
  exact hk
theorem kid_lt {w0 : World} {A : Option Addr} {m : Nat} {K : Fin m → Va} (h : ∀ i : Fin m, ∃ b o cs', A = some ⟨b, o, none⟩ ∧ cs'.length = 6 ∧ (∀ j, j < 6 → w0.cell? ⟨b, o + (i.val * 6 + j), none⟩ = cs'[j]?) ∧ VaP w0 (K i) cs') (hm : 0 < m) {b o : Nat} (hA : A = some ⟨b, o, none⟩) : b < w0.heap.size := by
  obtain ⟨b', o', cs', h1, h2, h3, _⟩ := h ⟨0, hm⟩
  rw [hA] at h1
  injection h1 with h1
  injection h1 with e1 e2
  subst e1; subst e2
  have h4 := h3 0 (by omega)
  rw [List.getElem?_eq_getElem (by omega)] at h4
  exact World.block_lt_of_cell? _ _ h4
abbrev P23 (m : Nat) (K : Fin m → Va) (o : Int) (c : Int) (b : List Int) : Prop := ∃ (kd code : Int) (es : Nat → List Int) (pre : List Int), (m = 0 → kd = o ∧ pre = []) ∧ (∀ h : 0 < m, kd = (K ⟨0, h⟩).kind ∧ (Wr (K ⟨0, h⟩)).ds pre) ∧ (code = shOf kd ∨ code = cdOf kd) ∧ code ≠ 0 ∧ (∀ i : Fin m, (Wr (K i)).pc code (es i.val)) ∧ LenD 224 240 (pre ++ code % 256 :: cat es m) m c b
/-- What is asked of the elements of an array. -/
structure ArH (w0 : World) (pf m : Nat) (K : Fin m → Va) (kd o : Int) : Prop where
  hm : m ≤ 1000
  cn : kcV K m ≤ 2000
  k0 : 0 ≤ kd
  k1 : kd < 24
  no : m = 0 → kd = o
  kk : ∀ h : 0 < m, (K ⟨0, h⟩).kind = kd
  ln : ∀ (i : Nat) (h : i < m) (c : Int) (d : List Int), (Wr (K ⟨i, h⟩)).pc c d → d.length ≤ cntV (K ⟨i, h⟩) * 131100
  ih : ∀ (i : Nat) (h : i < m) (v0 v1 v2 v3 v4 v5 : Value) (w : World), VaP w0 (K ⟨i, h⟩) [v0, v1, v2, v3, v4, v5] → Ch (Fro w0.heap.size) w0 w → Fm w pf → Calls Tryd.prog 69 #[.pointer (some ⟨pf, 0, none⟩), .agg #[v0, v1, v2, v3, v4, .slice none 0 0]] w (PcF (Wr (K ⟨i, h⟩)).pc (cdOf kd) pf w)
  dn : ∀ h : 0 < m, (K ⟨0, h⟩).descs ≤ 1
  dl : ∀ (h : 0 < m) (b : List Int), (Wr (K ⟨0, h⟩)).ds b → b.length ≤ 262200001
  hd : ∀ (h : 0 < m) (k' n' : Int) (s' : ByteArray) (m' : Nat) (K' : Fin m' → Va) (o' : Int) (d' : Nat) (D' : Fin d' → Va), K ⟨0, h⟩ = .mk k' n' s' m' K' o' d' D' → ∀ (h' : 0 < d') (v0 v1 v2 v3 v4 v5 : Value) (w : World), VaP w0 (D' ⟨0, h'⟩) [v0, v1, v2, v3, v4, v5] → Ch (Fro w0.heap.size) w0 w → Fm w pf → Calls Tryd.prog 44 #[.agg #[v0, v1, v2, v3, v4, v5], .pointer (some ⟨pf, 0, none⟩)] w (PvF (D' ⟨0, h'⟩) pf w)
set_option maxRecDepth 100000 in
set_option maxHeartbeats 8000000 in
theorem array_calls (w0 : World) (pf : Nat) (hpf : w0.heap.size ≤ pf) (n o : Int) (s : ByteArray) (m d : Nat) (K : Fin m → Va) (D : Fin d → Va) (A : Option Addr) (cap : Nat) (v4x v5 : Value) (w : World) (hF : Fm w pf) (ht : VaP w0 (.mk 23 n s m K o d D) [.int .i64 23, .int .u64 n, .string s, .slice A m cap, .int .i64 o, v4x]) (hw : Ch (Fro w0.heap.size) w0 w) (kd : Int) (H : ArH w0 pf m K kd o) :
    Calls Tryd.prog 95 #[.pointer (some ⟨pf, 0, none⟩), .agg #[.int .i64 23, .int .u64 n, .string s, .slice A m cap, .int .i64 o, v5]] w (PcF (P23 m K o) 240 pf w) := by
  have hB := Row.alloc w [.int .i64 23, .int .u64 n, .string s, .slice A m cap, .int .i64 o, v5] 25
  have hpl := hF.lt
  have C1 : Ch No w (w.alloc (.cells #[.int .i64 23, .int .u64 n, .string s, .slice A m cap, .int .i64 o, v5] 25)) := (Ch.refl No w).alloc _
  obtain ⟨hcd, hcd0⟩ := cd_at kd H.k0 H.k1
  have hk := ht.kids
  have HEL := hid (fun (W : World) (hF' : Fm W pf) (hw' : Ch (Fro w0.heap.size) w0 W) => elements_calls w0 pf hpf kd (shOf kd) (cdOf kd) A m cap K W hF' (sh_at kd H.k0 H.k1) hcd hcd0 hk hw' H.hm H.cn H.ln H.ih)
  have HK := hid hk
  have HH := hid H
  clear hk hcd hcd0 H
  have p0 := hB.cell 0 _ rfl
  have p1 := hB.cell 1 _ rfl
  have p2 := hB.cell 2 _ rfl
  have p3 := hB.cell 3 _ rfl
  have p4 := hB.cell 4 _ rfl
  have p5 := hB.cell 5 _ rfl
  rcases Nat.eq_zero_or_pos m with hz | hz
  · have hkd := HH.out.no hz
    subst hz
    subst hkd
    go_enter Tryd.func95, Tryd.ntmps95
    go_wp2_with fail
    refine (HEL.out _ (hF.keep0 C1) (hw.then_no C1)).mono ?_
    rintro e w2 ⟨vl, xs, rfl, hmay, hxl, ⟨x0, hx0, _⟩, hF2, hch2⟩
    have hxp : 0 < xs.length := by cases xs with | nil => cases hx0 | cons a b => simp
    have CW2 : Ch (fun b => b = pf) w w2 := (Ch.of_no C1).trans hch2 (fun _ h => h) (fun _ h => .inl h)
    have hB2 := hB.keep hch2 (fun h => by have h9 : w.heap.size = pf := h; omega)
    obtain ⟨Al, cl, rfl⟩ := hmay.slice
    go_wp2_with fail
    refine (pick_calls pf xs.length w2 hF2 (by omega)).mono ?_
    rintro e w3 ⟨q, hq, rfl, hF3, hch3⟩
    have hqx : q < xs.length := by omega
    have hB3 := hB2.keep hch3 (fun h => by have h9 : w.heap.size = pf := h; omega)
    have CW3 : Ch (fun b => b = pf) w w3 := CW2.trans hch3 (fun _ h => h) (fun _ h => .inl h)
    have hpS : pf < (w.alloc (.cells #[.int .i64 23, .int .u64 n, .string s, .slice A 0 cap, .int .i64 kd, v5] 25)).heap.size := (hF.keep0 C1).lt
    have hmay3 := hmay.keep hch3 (fun b hb => by have h9 : b = pf := hb; omega)
    obtain ⟨gb, dd, rfl, hg0, hg1, hPd, hBy, hFrd⟩ := hmay3.get q hqx
    obtain ⟨⟨code, Ac, nc, cc⟩, hxq⟩ : ∃ y, xs[q] = y := ⟨_, rfl⟩
    rw [hxq] at hg0 hg1 hPd hBy hFrd
    replace hg1 : w3.cell? ⟨gb, q * 2 + 1, none⟩ = some (.slice Ac nc cc) := hg1
    replace hg0 : w3.cell? ⟨gb, q * 2, none⟩ = some (.int .i64 code) := hg0
    obtain ⟨Ac', cc', he, hdc, hrd, _⟩ := hBy
    replace he : Value.slice Ac nc cc = .slice Ac' dd.length cc' := he
    injection he with he1 he2 he3
    subst he1; subst he2; subst he3
    have hqi : (q : Int) < xs.length := by omega
    have hqi0 : (0 : Int) ≤ q := by omega
    have hdl : dd.length ≤ 262200000 := by
      obtain ⟨_, _, es, hes, rfl⟩ := hPd
      have h9 := cat_le es (fun i => if h : i < 0 then cntV (K ⟨i, h⟩) * 131100 else 0) 0 (fun i hi => by simp only [dif_pos hi]; exact HH.out.ln i hi _ _ (hes ⟨i, hi⟩))
      rw [psum_mul K 131100 0 (Nat.le_refl _)] at h9
      have := HH.out.cn
      omega
    have HPD := hid hPd
    obtain ⟨M, hM⟩ : ∃ M, xs.length = M := ⟨_, rfl⟩
    rw [hM] at hqi ⊢
    clear hM hxl hq hPd hmay hmay3 hx0
    have hsw3 := CW3.size
    obtain ⟨cb, hcb⟩ : ∃ cb, code % 256 = cb := ⟨_, rfl⟩
    have hcw : IntKind.u8.wrap code = cb := by rw [← hcb]; simp [IntKind.wrap, IntKind.bits, IntKind.signed]
    have HCB := hid hcb
    clear hcb
    go_wp2_with (first | ((with_reducible refine gate (.store 116 (.tmp 7) _) rfl ?_); refine wp_store rfl rfl 116 _ _ rfl w3.heap.size 0 116 PZ (.agg #[.int .i64 code, .slice Ac dd.length cc]) rfl rfl [.int .i64 code, .slice Ac dd.length cc] rfl size_pc (by simp [Value.oneCell']) (Row.alloc w3 PZ 116) (by simp) ?_; intro w4 hrow4 hch4; have r0 : w4.cell? ⟨w3.heap.size, 0, none⟩ = some (.int .i64 code) := hrow4.cell 0 _ rfl; have r1 : w4.cell? ⟨w3.heap.size, 1, none⟩ = some (.slice Ac dd.length cc) := hrow4.cell 1 _ rfl; have AL5 := (Ch.refl No w4).alloc (.cells #[.int .u8 cb] 5); have r2 := AL5.cell0 r1; have C43 : Ch No w3 w4 := ((Ch.refl No w3).alloc _).freshg hch4 (Nat.le_refl _); have hlit := Ow.lit 5 Go.Proofs.YtbdgkikipekmlaaDoor.u8 w4 [cb] (by simp [maxLen]); have hrd5 := (hrd.keep0 C43).keep0 AL5) | ((with_reducible refine gate (.call { callee := .builtin .append, args := #[.tmp _, .tmp _], argTypes := #[26, 26] }) rfl ?_); refine wp_append rfl _ _ 26 5 (.int .u8 0) 1 rfl Tryd.underlying26 info_u8 rfl (by decide) Go.Proofs.YtbdgkikipekmlaaDoor.u8 (fun _ => rfl) (.slice (some ⟨w4.heap.size, 0, none⟩) 1 1) [cb] dd _ _ _ rfl rfl rfl hlit hrd5 (by simp; omega) ?_; intro v8 w8 ho8 hch8 hat8; obtain ⟨ZZ, hZZ⟩ : ∃ ZZ, [cb] ++ dd = ZZ := ⟨_, rfl⟩; rw [hZZ] at ho8; have HZL : Hid (ZZ.length = 1 + dd.length) := hid (by rw [← hZZ]; simp; omega); have HZZ := hid hZZ; clear hZZ; obtain ⟨A8, c8, rfl, _, _⟩ := ho8.slice; have hB8 := ((hB3.keep0 C43).keep0 AL5).keep hch8 (fun h => by have h9 := Blk_slice.1 h; have := hB3.lt; have := C43.size; omega); have z0 := hB8.cell 0 _ rfl; have z1 := hB8.cell 1 _ rfl; have z2 := hB8.cell 2 _ rfl; have z3 := hB8.cell 3 _ rfl; have z4 := hB8.cell 4 _ rfl; have z5 := hB8.cell 5 _ rfl))
    have CW5 : Ch (fun b => b = pf) w (w4.alloc (.cells #[.int .u8 cb] 5)) := (CW3.then_no C43).then_no AL5
    have hfo8 : Fr w (.slice A8 ZZ.length c8) := fun b hb => (hat8 b hb).elim (fun h => by have := Blk_slice.1 h; have := CW3.size; have := C43.size; omega) (fun h => Nat.le_trans CW5.size h)
    have CW8 : Ch (fun b => b = pf) w w8 := CW5.trans hch8 (fun _ h => h) (fun b hb => .inr (by have := Blk_slice.1 hb; have := CW3.size; have := C43.size; omega))
    have hF8 : Fm w8 pf := ((hF3.keep0 C43).keep0 AL5).keep hch8 (fun h => by have := Blk_slice.1 h; have := CW3.size; have := C43.size; omega)
    have htriv := trivial
    have hmm : (0 : Nat) ≤ 1000 := HH.out.hm
    have hlen := hid (fun W (h : Rd Go.Proofs.YtbdgkikipekmlaaDoor.u8 W A8 ZZ) => lengthed_yes 224 240 (0 : Nat) A8 c8 ZZ W h (by have := HZL.out; have := hdl; omega) (by omega) (by omega))
    refine (hlen.out _ ho8.rd).mono ?_
    rintro e w9 ⟨v9, ys, rfl, hmay9, hyl, hyx, hch9⟩
    go_wp2_with fail
    go_ret
    refine ⟨v9, ys, rfl, (hmay9.mono (fun c b h => ?_)).weak (Nat.le_trans CW8.size (Nat.le_refl _)), by omega, hyx, hF8.keep0 hch9, CW8.then_no hch9⟩
    obtain ⟨k1, k2, es, hes, hdd⟩ := HPD.out
    rw [← HZZ.out] at h
    exact ⟨kd, code, es, [], fun _ => ⟨rfl, rfl⟩, fun h => absurd h (by omega), k1, k2, hes, by rw [HCB.out]; rw [hdd] at h; simpa using h⟩
  · obtain ⟨b1, o1, u0, u1, u2, u3, u4, u5, rfl, htk, a0, a1, a2, a3, a4, a5⟩ := kid_at (w := w) HK.out hw 0 hz
    have hb1 : b1 ≠ pf := by have := kid_lt HK.out hz rfl; omega
    have hz1 : decide ((0 : Int) < m) = true := decide_eq_true (by omega)
    have hz2 : (0 : Int) < m := by omega
    simp only [Nat.zero_mul, Nat.add_zero] at a0 a1 a2 a3 a4 a5
    obtain ⟨kt, hkt⟩ : ∃ kt, K ⟨0, hz⟩ = kt := ⟨_, rfl⟩
    obtain ⟨k', n', s', m', K', o', d', D'⟩ := kt
    rw [hkt] at htk
    have htk' := htk
    obtain ⟨A', cap', B', capB', he, _, _, _, _, _, _, hdc, hdm, _⟩ := htk'
    simp only [List.cons.injEq, and_true] at he
    obtain ⟨rfl, rfl, rfl, rfl, rfl, rfl⟩ := he
    have hkk : kd = k' := by have h9 := HH.out.kk hz; rw [hkt] at h9; exact h9.symm
    subst hkk
    have HKT := hid hkt
    have hd1 : d' ≤ 1 := by have h9 := HH.out.dn hz; rw [hkt] at h9; exact h9
    have q0 := C1.cell0 a0
    have HTK := hid htk
    have HD := hid (HH.out.hd hz kd n' s' m' K' o' d' D' hkt)
    clear hkt htk
    obtain rfl | rfl : d' = 0 ∨ d' = 1 := by omega
    · go_enter Tryd.func95, Tryd.ntmps95
      go_wp2_with fail
      refine (HEL.out _ (hF.keep0 C1) (hw.then_no C1)).mono ?_
      rintro e w2 ⟨vl, xs, rfl, hmay, hxl, ⟨x0, hx0, _⟩, hF2, hch2⟩
      have hxp : 0 < xs.length := by cases xs with | nil => cases hx0 | cons a b => simp
      have CW2 : Ch (fun b => b = pf) w w2 := (Ch.of_no C1).trans hch2 (fun _ h => h) (fun _ h => .inl h)
      have hB2 := hB.keep hch2 (fun h => by have h9 : w.heap.size = pf := h; omega)
      obtain ⟨Al, cl, rfl⟩ := hmay.slice
      go_wp2_with fail
      refine (pick_calls pf xs.length w2 hF2 (by omega)).mono ?_
      rintro e w3 ⟨q, hq, rfl, hF3, hch3⟩
      have hqx : q < xs.length := by omega
      have hB3 := hB2.keep hch3 (fun h => by have h9 : w.heap.size = pf := h; omega)
      have CW3 : Ch (fun b => b = pf) w w3 := CW2.trans hch3 (fun _ h => h) (fun _ h => .inl h)
      have hpS : pf < (w.alloc (.cells #[.int .i64 23, .int .u64 n, .string s, .slice (some ⟨b1, o1, none⟩) m cap, .int .i64 o, v5] 25)).heap.size := (hF.keep0 C1).lt
      have hmay3 := hmay.keep hch3 (fun b hb => by have h9 : b = pf := hb; omega)
      obtain ⟨gb, dd, rfl, hg0, hg1, hPd, hBy, hFrd⟩ := hmay3.get q hqx
      obtain ⟨⟨code, Ac, nc, cc⟩, hxq⟩ : ∃ y, xs[q] = y := ⟨_, rfl⟩
      rw [hxq] at hg0 hg1 hPd hBy hFrd
      replace hg1 : w3.cell? ⟨gb, q * 2 + 1, none⟩ = some (.slice Ac nc cc) := hg1
      replace hg0 : w3.cell? ⟨gb, q * 2, none⟩ = some (.int .i64 code) := hg0
      obtain ⟨Ac', cc', he, hdc, hrd, _⟩ := hBy
      replace he : Value.slice Ac nc cc = .slice Ac' dd.length cc' := he
      injection he with he1 he2 he3
      subst he1; subst he2; subst he3
      have hqi : (q : Int) < xs.length := by omega
      have hqi0 : (0 : Int) ≤ q := by omega
      have hdl : dd.length ≤ 262200000 := by
        obtain ⟨_, _, es, hes, rfl⟩ := hPd
        have h9 := cat_le es (fun i => if h : i < m then cntV (K ⟨i, h⟩) * 131100 else 0) m (fun i hi => by simp only [dif_pos hi]; exact HH.out.ln i hi _ _ (hes ⟨i, hi⟩))
        rw [psum_mul K 131100 m (Nat.le_refl _)] at h9
        have := HH.out.cn
        omega
      have HPD := hid hPd
      obtain ⟨M, hM⟩ : ∃ M, xs.length = M := ⟨_, rfl⟩
      rw [hM] at hqi ⊢
      clear hM hxl hq hPd hmay hmay3 hx0
      have hsw3 := CW3.size
      obtain ⟨cb, hcb⟩ : ∃ cb, code % 256 = cb := ⟨_, rfl⟩
      have hcw : IntKind.u8.wrap code = cb := by rw [← hcb]; simp [IntKind.wrap, IntKind.bits, IntKind.signed]
      have HCB := hid hcb
      clear hcb
      go_wp2_with (first | ((with_reducible refine gate (.store 116 (.tmp 7) _) rfl ?_); refine wp_store rfl rfl 116 _ _ rfl w3.heap.size 0 116 PZ (.agg #[.int .i64 code, .slice Ac dd.length cc]) rfl rfl [.int .i64 code, .slice Ac dd.length cc] rfl size_pc (by simp [Value.oneCell']) (Row.alloc w3 PZ 116) (by simp) ?_; intro w4 hrow4 hch4; have r0 : w4.cell? ⟨w3.heap.size, 0, none⟩ = some (.int .i64 code) := hrow4.cell 0 _ rfl; have r1 : w4.cell? ⟨w3.heap.size, 1, none⟩ = some (.slice Ac dd.length cc) := hrow4.cell 1 _ rfl; have AL5 := (Ch.refl No w4).alloc (.cells #[.int .u8 cb] 5); have r2 := AL5.cell0 r1; have C43 : Ch No w3 w4 := ((Ch.refl No w3).alloc _).freshg hch4 (Nat.le_refl _); have hlit := Ow.lit 5 Go.Proofs.YtbdgkikipekmlaaDoor.u8 w4 [cb] (by simp [maxLen]); have hrd5 := (hrd.keep0 C43).keep0 AL5) | ((with_reducible refine gate (.call { callee := .builtin .append, args := #[.tmp _, .tmp _], argTypes := #[26, 26] }) rfl ?_); refine wp_append rfl _ _ 26 5 (.int .u8 0) 1 rfl Tryd.underlying26 info_u8 rfl (by decide) Go.Proofs.YtbdgkikipekmlaaDoor.u8 (fun _ => rfl) (.slice (some ⟨w4.heap.size, 0, none⟩) 1 1) [cb] dd _ _ _ rfl rfl rfl hlit hrd5 (by simp; omega) ?_; intro v8 w8 ho8 hch8 hat8; obtain ⟨ZZ, hZZ⟩ : ∃ ZZ, [cb] ++ dd = ZZ := ⟨_, rfl⟩; rw [hZZ] at ho8; have HZL : Hid (ZZ.length = 1 + dd.length) := hid (by rw [← hZZ]; simp; omega); have HZZ := hid hZZ; clear hZZ; obtain ⟨A8, c8, rfl, _, _⟩ := ho8.slice; have y5 := Ch.cell ((CW3.then_no C43).then_no AL5) a5 hb1; have x5 := hch8.cell y5 (fun h => by have h9 := Blk_slice.1 h; have h8 := kid_lt HK.out hz rfl; have := CW3.size; have := C43.size; have := hw.size; simp only at h9; omega); have hB8 := ((hB3.keep0 C43).keep0 AL5).keep hch8 (fun h => by have h9 := Blk_slice.1 h; have := hB3.lt; have := C43.size; omega); have z0 := hB8.cell 0 _ rfl; have z1 := hB8.cell 1 _ rfl; have z2 := hB8.cell 2 _ rfl; have z3 := hB8.cell 3 _ rfl; have z4 := hB8.cell 4 _ rfl; have z5 := hB8.cell 5 _ rfl))
      have CW5 : Ch (fun b => b = pf) w (w4.alloc (.cells #[.int .u8 cb] 5)) := (CW3.then_no C43).then_no AL5
      have hfo8 : Fr w (.slice A8 ZZ.length c8) := fun b hb => (hat8 b hb).elim (fun h => by have := Blk_slice.1 h; have := CW3.size; have := C43.size; omega) (fun h => Nat.le_trans CW5.size h)
      have CW8 : Ch (fun b => b = pf) w w8 := CW5.trans hch8 (fun _ h => h) (fun b hb => .inr (by have := Blk_slice.1 hb; have := CW3.size; have := C43.size; omega))
      have hF8 : Fm w8 pf := ((hF3.keep0 C43).keep0 AL5).keep hch8 (fun h => by have := Blk_slice.1 h; have := CW3.size; have := C43.size; omega)
      have htriv := trivial
      have hmm : (m : Nat) ≤ 1000 := HH.out.hm
      have hlen := hid (fun W (h : Rd Go.Proofs.YtbdgkikipekmlaaDoor.u8 W A8 ZZ) => lengthed_yes 224 240 (m : Nat) A8 c8 ZZ W h (by have := HZL.out; have := hdl; omega) (by omega) (by omega))
      refine (hlen.out _ ho8.rd).mono ?_
      rintro e w9 ⟨v9, ys, rfl, hmay9, hyl, hyx, hch9⟩
      go_wp2_with fail
      go_ret
      refine ⟨v9, ys, rfl, (hmay9.mono (fun c b h => ?_)).weak (Nat.le_trans CW8.size (Nat.le_refl _)), by omega, hyx, hF8.keep0 hch9, CW8.then_no hch9⟩
      obtain ⟨k1, k2, es, hes, hdd⟩ := HPD.out
      rw [← HZZ.out] at h
      exact ⟨kd, code, es, [], fun h => absurd h (by omega), fun _ => ⟨by rw [HKT.out]; rfl, by rw [HKT.out]; unfold Wr; exact .inl ⟨rfl, rfl⟩⟩, k1, k2, hes, by rw [HCB.out]; rw [hdd] at h; simpa using h⟩
    · go_enter Tryd.func95, Tryd.ntmps95
      go_wp2_with fail
      refine (HEL.out _ (hF.keep0 C1) (hw.then_no C1)).mono ?_
      rintro e w2 ⟨vl, xs, rfl, hmay, hxl, ⟨x0, hx0, _⟩, hF2, hch2⟩
      have hxp : 0 < xs.length := by cases xs with | nil => cases hx0 | cons a b => simp
      have CW2 : Ch (fun b => b = pf) w w2 := (Ch.of_no C1).trans hch2 (fun _ h => h) (fun _ h => .inl h)
      have hB2 := hB.keep hch2 (fun h => by have h9 : w.heap.size = pf := h; omega)
      obtain ⟨Al, cl, rfl⟩ := hmay.slice
      go_wp2_with fail
      refine (pick_calls pf xs.length w2 hF2 (by omega)).mono ?_
      rintro e w3 ⟨q, hq, rfl, hF3, hch3⟩
      have hqx : q < xs.length := by omega
      have hB3 := hB2.keep hch3 (fun h => by have h9 : w.heap.size = pf := h; omega)
      have CW3 : Ch (fun b => b = pf) w w3 := CW2.trans hch3 (fun _ h => h) (fun _ h => .inl h)
      have hpS : pf < (w.alloc (.cells #[.int .i64 23, .int .u64 n, .string s, .slice (some ⟨b1, o1, none⟩) m cap, .int .i64 o, v5] 25)).heap.size := (hF.keep0 C1).lt
      have hmay3 := hmay.keep hch3 (fun b hb => by have h9 : b = pf := hb; omega)
      obtain ⟨gb, dd, rfl, hg0, hg1, hPd, hBy, hFrd⟩ := hmay3.get q hqx
      obtain ⟨⟨code, Ac, nc, cc⟩, hxq⟩ : ∃ y, xs[q] = y := ⟨_, rfl⟩
      rw [hxq] at hg0 hg1 hPd hBy hFrd
      replace hg1 : w3.cell? ⟨gb, q * 2 + 1, none⟩ = some (.slice Ac nc cc) := hg1
      replace hg0 : w3.cell? ⟨gb, q * 2, none⟩ = some (.int .i64 code) := hg0
      obtain ⟨Ac', cc', he, hdc, hrd, _⟩ := hBy
      replace he : Value.slice Ac nc cc = .slice Ac' dd.length cc' := he
      injection he with he1 he2 he3
      subst he1; subst he2; subst he3
      have hqi : (q : Int) < xs.length := by omega
      have hqi0 : (0 : Int) ≤ q := by omega
      have hdl : dd.length ≤ 262200000 := by
        obtain ⟨_, _, es, hes, rfl⟩ := hPd
        have h9 := cat_le es (fun i => if h : i < m then cntV (K ⟨i, h⟩) * 131100 else 0) m (fun i hi => by simp only [dif_pos hi]; exact HH.out.ln i hi _ _ (hes ⟨i, hi⟩))
        rw [psum_mul K 131100 m (Nat.le_refl _)] at h9
        have := HH.out.cn
        omega
      have HPD := hid hPd
      obtain ⟨M, hM⟩ : ∃ M, xs.length = M := ⟨_, rfl⟩
      rw [hM] at hqi ⊢
      clear hM hxl hq hPd hmay hmay3 hx0
      have hsw3 := CW3.size
      obtain ⟨cb, hcb⟩ : ∃ cb, code % 256 = cb := ⟨_, rfl⟩
      have hcw : IntKind.u8.wrap code = cb := by rw [← hcb]; simp [IntKind.wrap, IntKind.bits, IntKind.signed]
      have HCB := hid hcb
      clear hcb
      go_wp2_with (first | ((with_reducible refine gate (.store 116 (.tmp 7) _) rfl ?_); refine wp_store rfl rfl 116 _ _ rfl w3.heap.size 0 116 PZ (.agg #[.int .i64 code, .slice Ac dd.length cc]) rfl rfl [.int .i64 code, .slice Ac dd.length cc] rfl size_pc (by simp [Value.oneCell']) (Row.alloc w3 PZ 116) (by simp) ?_; intro w4 hrow4 hch4; have r0 : w4.cell? ⟨w3.heap.size, 0, none⟩ = some (.int .i64 code) := hrow4.cell 0 _ rfl; have r1 : w4.cell? ⟨w3.heap.size, 1, none⟩ = some (.slice Ac dd.length cc) := hrow4.cell 1 _ rfl; have AL5 := (Ch.refl No w4).alloc (.cells #[.int .u8 cb] 5); have r2 := AL5.cell0 r1; have C43 : Ch No w3 w4 := ((Ch.refl No w3).alloc _).freshg hch4 (Nat.le_refl _); have hlit := Ow.lit 5 Go.Proofs.YtbdgkikipekmlaaDoor.u8 w4 [cb] (by simp [maxLen]); have hrd5 := (hrd.keep0 C43).keep0 AL5) | ((with_reducible refine gate (.call { callee := .builtin .append, args := #[.tmp _, .tmp _], argTypes := #[26, 26] }) rfl ?_); refine wp_append rfl _ _ 26 5 (.int .u8 0) 1 rfl Tryd.underlying26 info_u8 rfl (by decide) Go.Proofs.YtbdgkikipekmlaaDoor.u8 (fun _ => rfl) (.slice (some ⟨w4.heap.size, 0, none⟩) 1 1) [cb] dd _ _ _ rfl rfl rfl hlit hrd5 (by simp; omega) ?_; intro v8 w8 ho8 hch8 hat8; obtain ⟨ZZ, hZZ⟩ : ∃ ZZ, [cb] ++ dd = ZZ := ⟨_, rfl⟩; rw [hZZ] at ho8; have HZL : Hid (ZZ.length = 1 + dd.length) := hid (by rw [← hZZ]; simp; omega); have HZZ := hid hZZ; clear hZZ; obtain ⟨A8, c8, rfl, _, _⟩ := ho8.slice; have CW5 : Ch (fun b => b = pf) w (w4.alloc (.cells #[.int .u8 cb] 5)) := (CW3.then_no C43).then_no AL5; have hfo8 : Fr w (.slice A8 ZZ.length c8) := fun b hb => (hat8 b hb).elim (fun h => by have := Blk_slice.1 h; have := CW3.size; have := C43.size; omega) (fun h => Nat.le_trans CW5.size h); have CW8 : Ch (fun b => b = pf) w w8 := CW5.trans hch8 (fun _ h => h) (fun b hb => .inr (by have := Blk_slice.1 hb; have := CW3.size; have := C43.size; omega)); have hF8 : Fm w8 pf := ((hF3.keep0 C43).keep0 AL5).keep hch8 (fun h => by have := Blk_slice.1 h; have := CW3.size; have := C43.size; omega); have y5k := Ch.cell ((CW3.then_no C43).then_no AL5) a5 hb1; have x5 := hch8.cell y5k (fun h => by have h9 := Blk_slice.1 h; have h8 := kid_lt HK.out hz rfl; have := CW3.size; have := C43.size; have := hw.size; simp only at h9; omega); have AL9 := (Ch.refl No w8).alloc (.cells #[.int .u8 0] 5); have hw98 : Ch (Fro w0.heap.size) w0 (w8.alloc (.cells #[.int .u8 0] 5)) := (hw.trans CW8 (fun _ h => h) (fun k hk => .inl (by subst hk; exact hpf))).then_no AL9; have g5 := AL9.cell0 x5; obtain ⟨b2, o2, t0, t1, t2, t3, t4, t5, rfl, htd, e0, e1, e2, e3, e4, e5⟩ := HTK.out.desc hw98 0 (by omega); simp only [Nat.zero_mul, Nat.add_zero] at e0 e1 e2 e3 e4 e5; have hB8 := ((hB3.keep0 C43).keep0 AL5).keep hch8 (fun h => by have h9 := Blk_slice.1 h; have := hB3.lt; have := C43.size; omega); have z0 := hB8.cell 0 _ rfl; have z1 := hB8.cell 1 _ rfl; have z2 := hB8.cell 2 _ rfl; have z3 := hB8.cell 3 _ rfl; have z4 := hB8.cell 4 _ rfl; have z5 := hB8.cell 5 _ rfl; have g3 := AL9.cell0 z3))
      have htriv0 := trivial
      have lit9 := Ow.lit 5 Go.Proofs.YtbdgkikipekmlaaDoor.u8 w8 [0] (by simp [maxLen])
      refine (HD.out (by omega) t0 t1 t2 t3 t4 t5 _ htd hw98 (hF8.keep0 AL9)).mono ?_
      rintro e w9 ⟨v9x, xd, rfl, hPx, hlx, hox, hfx, hFx, hchx⟩
      have hxb : xd.length ≤ 262200000 := by
        have h9 := HH.out.dl hz (0 :: xd) (by rw [HKT.out]; unfold Wr; exact .inr ⟨by omega, xd, hPx, rfl⟩)
        rw [List.length_cons] at h9
        omega
      obtain ⟨Ax, cx, rfl, _, _⟩ := hox.slice
      have HPX := hid hPx
      have hlt8 : pf < w8.heap.size := hF8.lt
      have lit9x := lit9.keep hchx (fun b hb h => by have := Blk_slice.1 hb; have h9 : b = pf := h; omega)
      have HO9 := (ho8.keep0 AL9).keep hchx (fun b hb h => by have := hfo8 b hb; have h9 : b = pf := h; omega)
      have hB9 := (hB8.keep0 AL9).keep hchx (fun h => by have h9 : w.heap.size = pf := h; omega)
      have CW9 : Ch (fun b => b = pf) w w9 := (CW8.then_no AL9).trans hchx (fun _ h => h) (fun _ h => .inl h)
      clear hPx hlx lit9
      go_wp2_with (first | ((with_reducible refine gate (.call { callee := .builtin .append, args := #[.tmp 52, .tmp 61], argTypes := #[26, 26] }) rfl ?_); refine wp_append rfl _ _ 26 5 (.int .u8 0) 1 rfl Tryd.underlying26 info_u8 rfl (by decide) Go.Proofs.YtbdgkikipekmlaaDoor.u8 (fun _ => rfl) (.slice (some ⟨w8.heap.size, 0, none⟩) 1 1) [0] xd _ _ _ rfl rfl rfl lit9x hox.rd (by simp; omega) ?_; intro v10 w10 ho10 hch10 hat10; have HO10 := (HO9.keep hch10 (fun b hb h => by have := Blk_slice.1 h; have := ho8.blk_lt b hb; omega)); obtain ⟨YY, hYY⟩ : ∃ YY, ([0] : List Int) ++ xd = YY := ⟨_, rfl⟩; rw [hYY] at ho10; have HYL : Hid (YY.length = 1 + xd.length) := hid (by rw [← hYY]; simp; omega); have HYY := hid hYY; clear hYY; have hyl2 : YY.length ≤ 262200001 := (by have := HYL.out; omega); have hzl2 : ZZ.length ≤ 262200001 := (by have := HZL.out; omega); obtain ⟨A10, c10, rfl, _, _⟩ := ho10.slice) | ((with_reducible refine gate (.call { callee := .builtin .append, args := #[.tmp 62, .tmp 63], argTypes := #[26, 26] }) rfl ?_); refine wp_append rfl _ _ 26 5 (.int .u8 0) 1 rfl Tryd.underlying26 info_u8 rfl (by decide) Go.Proofs.YtbdgkikipekmlaaDoor.u8 (fun _ => rfl) (.slice A10 YY.length c10) YY ZZ _ _ _ rfl rfl rfl ho10 HO10.rd (by omega) ?_; intro v11 w11 ho11 hch11 hat11; obtain ⟨QQ, hQQ⟩ : ∃ QQ, YY ++ ZZ = QQ := ⟨_, rfl⟩; rw [hQQ] at ho11; have HQL : Hid (QQ.length = YY.length + ZZ.length) := hid (by rw [← hQQ]; simp); have HQQ := hid hQQ; clear hQQ; obtain ⟨A11, c11, rfl, _, _⟩ := ho11.slice; have hf10 : Fr w (.slice A10 YY.length c10) := (fun b hb => (hat10 b hb).elim (fun h => by have := Blk_slice.1 h; have := CW8.size; omega) (fun h => Nat.le_trans CW9.size h)); have hB11 := (hB9.keep hch10 (fun h => by have := Blk_slice.1 h; have := hB8.lt; omega)).keep hch11 (fun h => (hat10 _ h).elim (fun h => by have := Blk_slice.1 h; have := hB8.lt; omega) (fun h => by have := hB9.lt; omega)); have y0 := hB11.cell 0 _ rfl; have y1 := hB11.cell 1 _ rfl; have y2 := hB11.cell 2 _ rfl; have y3 := hB11.cell 3 _ rfl; have y4 := hB11.cell 4 _ rfl; have y5 := hB11.cell 5 _ rfl))
      have CW11 : Ch (fun b => b = pf) w w11 := (CW9.trans hch10 (fun _ h => h) (fun b hb => .inr (by have := Blk_slice.1 hb; have := CW8.size; omega))).trans hch11 (fun _ h => h) (fun b hb => .inr (hf10 b hb))
      have hF11 : Fm w11 pf := (hFx.keep hch10 (fun h => by have := Blk_slice.1 h; omega)).keep hch11 (fun h => by have := hf10 _ h; omega)
      have hmm : (m : Nat) ≤ 1000 := HH.out.hm
      have hlen := hid (fun W (h : Rd Go.Proofs.YtbdgkikipekmlaaDoor.u8 W A11 QQ) => lengthed_yes 224 240 (m : Nat) A11 c11 QQ W h (by have := HZL.out; have := hdl; have := HQL.out; omega) (by omega) (by omega))
      refine (hlen.out _ ho11.rd).mono ?_
      rintro e w9 ⟨v9, ys, rfl, hmay9, hyl, hyx, hch9⟩
      go_wp2_with fail
      go_ret
      refine ⟨v9, ys, rfl, (hmay9.mono (fun c b h => ?_)).weak (Nat.le_trans CW11.size (Nat.le_refl _)), by omega, hyx, hF11.keep0 hch9, CW11.then_no hch9⟩
      obtain ⟨k1, k2, es, hes, hdd⟩ := HPD.out
      rw [← HQQ.out, ← HYY.out, ← HZZ.out] at h
      exact ⟨kd, code, es, (0 :: xd), fun h => absurd h (by omega), fun _ => ⟨by rw [HKT.out]; rfl, by rw [HKT.out]; unfold Wr; exact .inr ⟨by omega, xd, HPX.out, rfl⟩⟩, k1, k2, hes, by rw [HCB.out]; rw [hdd] at h; simpa using h⟩

end Go.Proofs.YtbdgkikipekmlaaDoor

namespace Go.Proofs.YtbdgkikipekmlaaDoor
set_option linter.unusedVariables false
set_option linter.unusedSimpArgs false
open Go.RowKit

set_option maxRecDepth 100000 in
set_option maxHeartbeats 2000000 in
theorem pieces_23 (w0 : World) (pf : Nat) (hpf : w0.heap.size ≤ pf) (n o : Int) (s : ByteArray) (m d : Nat) (K : Fin m → Va) (D : Fin d → Va) (A : Option Addr) (cap : Nat) (v4x v5 : Value) (w : World) (hF : Fm w pf) (ht : VaP w0 (.mk 23 n s m K o d D) [.int .i64 23, .int .u64 n, .string s, .slice A m cap, .int .i64 o, v4x]) (hw : Ch (Fro w0.heap.size) w0 w) (kd : Int) (H : ArH w0 pf m K kd o) :
    Calls Tryd.prog 69 #[.pointer (some ⟨pf, 0, none⟩), .agg #[.int .i64 23, .int .u64 n, .string s, .slice A m cap, .int .i64 o, v5]] w (PcF (P23 m K o) 240 pf w) := by
  have hB := Row.alloc w [.int .i64 23, .int .u64 n, .string s, .slice A m cap, .int .i64 o, v5] 25
  have p0 := hB.cell 0 _ rfl
  have p1 := hB.cell 1 _ rfl
  have p2 := hB.cell 2 _ rfl
  have p3 := hB.cell 3 _ rfl
  have p4 := hB.cell 4 _ rfl
  have p5 := hB.cell 5 _ rfl

  have C1 : Ch No w (w.alloc (.cells #[.int .i64 23, .int .u64 n, .string s, .slice A m cap, .int .i64 o, v5] 25)) := (Ch.refl No w).alloc _
  have hN := hid (array_calls w0 pf hpf n o s m d K D A cap v4x v5 _ (hF.keep0 C1) ht (hw.then_no C1) kd H)
  clear H ht hw hF
  go_enter Tryd.func69, Tryd.ntmps69
  go_wp2_with fail
  refine (hN.out).mono ?_
  rintro e w1 ⟨v, xs, rfl, hm, hl, hx, hf, hch⟩
  go_wp2_with fail
  go_ret
  exact ⟨v, xs, rfl, hm.weak C1.size, hl, hx, hf, (Ch.of_no C1).trans hch (fun _ h => h) (fun _ h => .inl h)⟩
theorem PcF.mono {P Q : Int → List Int → Prop} {full : Int} {pf : Nat} {w w' : World} {e : Ending} (h : PcF P full pf w e w') (hq : ∀ c d, P c d → Q c d) : PcF Q full pf w e w' := by
  obtain ⟨v, xs, h1, h2, h3⟩ := h
  exact ⟨v, xs, h1, h2.mono hq, h3⟩
/-- What is told of a value that is written. -/
structure PutH (w0 : World) (pf : Nat) (t : Va) : Prop where
  pc : ∀ (v0 v1 v2 v3 v4 v5 : Value) (B' : Option Addr) (d' c' : Nat) (w : World), VaP w0 t [v0, v1, v2, v3, v4, v5] → Ch (Fro w0.heap.size) w0 w → Fm w pf → Calls Tryd.prog 69 #[.pointer (some ⟨pf, 0, none⟩), .agg #[v0, v1, v2, v3, v4, .slice B' d' c']] w (PcF (Wr t).pc (cdOf t.kind) pf w)
  pv : ∀ (v0 v1 v2 v3 v4 v5 : Value) (w : World), VaP w0 t [v0, v1, v2, v3, v4, v5] → Ch (Fro w0.heap.size) w0 w → Fm w pf → Calls Tryd.prog 44 #[.agg #[v0, v1, v2, v3, v4, v5], .pointer (some ⟨pf, 0, none⟩)] w (PvF t pf w)
  ds : ∀ (k n : Int) (s : ByteArray) (m : Nat) (K : Fin m → Va) (o : Int) (d : Nat) (D : Fin d → Va), t = .mk k n s m K o d D → ∀ (h : 0 < d) (v0 v1 v2 v3 v4 v5 : Value) (w : World), VaP w0 (D ⟨0, h⟩) [v0, v1, v2, v3, v4, v5] → Ch (Fro w0.heap.size) w0 w → Fm w pf → Calls Tryd.prog 44 #[.agg #[v0, v1, v2, v3, v4, v5], .pointer (some ⟨pf, 0, none⟩)] w (PvF (D ⟨0, h⟩) pf w)
theorem kc_one {m : Nat} (K : Fin m → Va) (i : Nat) (h : i < m) : cntV (K ⟨i, h⟩) ≤ kcV K m := by
  have h1 := kcV_succ K i h
  have h2 := kcV_le K (i + 1) m (by omega)
  omega
set_option maxRecDepth 100000 in
set_option maxHeartbeats 2000000 in
theorem put_any (w0 : World) (pf : Nat) (hpf : w0.heap.size ≤ pf) : ∀ (t : Va) (lv : Int), FitV t lv → cntV t ≤ 2000 → PutH w0 pf t := by
  intro t
  induction t with
  | mk k n s m K o d D ihK ihD =>
    intro lv hfit hcn
    have hfit' := hfit
    obtain ⟨_, hk0, hk1, hkm, _, _, hd1, hm, hs, hn0, hn1, hcf, hfd, hfk⟩ := hfit'
    have hct := cnt_mk k n s m K o d D
    have hkc : kcV K m ≤ 2000 := by omega
    have IK : ∀ (i : Nat) (h : i < m), PutH w0 pf (K ⟨i, h⟩) := fun i h => ihK ⟨i, h⟩ (lv - 1) (hfk ⟨i, h⟩) (by have := kc_one K i h; omega)
    have ID : ∀ (i : Nat) (h : i < d), PutH w0 pf (D ⟨i, h⟩) := fun i h => ihD ⟨i, h⟩ (lv - 1) (hfd ⟨i, h⟩).1 (by have := kc_one D i h; omega)
    have hpc : ∀ (v0 v1 v2 v3 v4 v5 : Value) (B' : Option Addr) (d' c' : Nat) (w : World), VaP w0 (.mk k n s m K o d D) [v0, v1, v2, v3, v4, v5] → Ch (Fro w0.heap.size) w0 w → Fm w pf → Calls Tryd.prog 69 #[.pointer (some ⟨pf, 0, none⟩), .agg #[v0, v1, v2, v3, v4, .slice B' d' c']] w (PcF (Wr (.mk k n s m K o d D)).pc (cdOf k) pf w) := by
      intro v0 v1 v2 v3 v4 v5 B' d' c' w ht hw hF
      have ht' := ht
      obtain ⟨A, cap, B, capB, he, _⟩ := ht'
      simp only [List.cons.injEq, and_true] at he
      obtain ⟨rfl, rfl, rfl, rfl, rfl, rfl⟩ := he
      have hcase : k = 0 ∨ k = 1 ∨ k = 14 ∨ k = 17 ∨ k = 18 ∨ k = 19 ∨ k = 20 ∨ (2 ≤ k ∧ k ≤ 16 ∧ k ≠ 14) ∨ k = 21 ∨ k = 22 ∨ k = 23 := by omega
      rcases hcase with rfl | rfl | rfl | rfl | rfl | rfl | rfl | ⟨h2, h16, h14⟩ | rfl | rfl | rfl
      · exact (pieces_0 pf n o s m d' A B' cap c' w hn0 hn1 trivial hs).mono fun e w' h => (PcF.of h hF).mono fun c b h => by unfold Wr; simp [h.1, h.2]
      · exact (pieces_1 pf n o s m d' A B' cap c' w hn0 hn1 (hcf.1 rfl) hs).mono fun e w' h => (PcF.of h hF).mono fun c b h => by unfold Wr; exact .inr (.inl ⟨rfl, h⟩)
      · exact (pieces_14 pf n o s m d' A B' cap c' w).mono fun e w' h => (PcF.of h hF).mono fun c b h => by unfold Wr; exact .inr (.inr (.inl ⟨rfl, h⟩))
      · exact (pieces_17 pf n o s m d' A B' cap c' w).mono fun e w' h => (PcF.of h hF).mono fun c b h => by unfold Wr; exact .inr (.inr (.inr (.inl ⟨rfl, h⟩)))
      · exact (pieces_18 pf n o s m d' A B' cap c' w hn0 hn1 trivial hs).mono fun e w' h => (PcF.of h hF).mono fun c b h => by unfold Wr; exact .inr (.inr (.inr (.inr (.inl ⟨rfl, h⟩))))
      · exact (pieces_19 pf n o s m d' A B' cap c' w hn0 hn1 trivial hs).mono fun e w' h => (PcF.of h hF).mono fun c b h => by unfold Wr; exact .inr (.inr (.inr (.inr (.inr (.inl ⟨rfl, h⟩)))))
      · exact (pieces_20 pf n o s m d' A B' cap c' w hn0 hn1 trivial hs).mono fun e w' h => (PcF.of h hF).mono fun c b h => by unfold Wr; exact .inr (.inr (.inr (.inr (.inr (.inr (.inl ⟨rfl, h⟩))))))
      · exact (pieces_num pf k n o s m d' A B' cap c' w h2 h16 h14 hn0 hn1).mono fun e w' h => (PcF.of h hF).mono fun c b h => by unfold Wr; exact .inr (.inr (.inr (.inr (.inr (.inr (.inr (.inl ⟨h2, h16, h14, h⟩)))))))
      · exact (pieces_21 w0 pf hpf n o s m d K D A cap _ (.slice B' d' c') w hF ht hw hm hkc (fun i h => (IK i h).pv)).mono fun e w' h => h.mono fun c b h => by unfold Wr; exact .inr (.inr (.inr (.inr (.inr (.inr (.inr (.inr (.inl ⟨rfl, h⟩))))))))
      · exact (pieces_22 w0 pf hpf n o s m d K D A cap _ (.slice B' d' c') w hF ht hw hm hkc (fun i h => (IK i h).pv)).mono fun e w' h => h.mono fun c b h => by unfold Wr; exact .inr (.inr (.inr (.inr (.inr (.inr (.inr (.inr (.inr (.inl ⟨rfl, h⟩)))))))))
      · have haf : ArrF o K := hcf.2.2.2.2.2.2.2.2 rfl
        obtain ⟨kd, hkd0, hkd1, hkdo, hkdk⟩ : ∃ kd : Int, 0 ≤ kd ∧ kd < 24 ∧ (m = 0 → kd = o) ∧ (∀ i : Fin m, (K i).kind = kd) := by
          rcases Nat.eq_zero_or_pos m with hz | hz
          · have h9 := haf.1 hz
            exact ⟨o, h9.1, h9.2, fun _ => rfl, fun i => by have := i.isLt; omega⟩
          · have h9 := hfk ⟨0, hz⟩
            refine ⟨(K ⟨0, hz⟩).kind, ?_, ?_, fun h => by omega, fun i => (haf.2 i ⟨0, hz⟩).1⟩
            · revert h9; cases K ⟨0, hz⟩; exact fun h => h.2.1
            · revert h9; cases K ⟨0, hz⟩; exact fun h => h.2.2.1
        have H : ArH w0 pf m K kd o := by
          refine ⟨hm, hkc, hkd0, hkd1, hkdo, fun h => hkdk _, fun i h c b hp => ?_, fun i h v0 v1 v2 v3 v4 v5 W h1 h2 h3 => ?_, fun h => ?_, fun h b hb => ?_, fun h => (IK 0 h).ds⟩
          · have h9 := (wr_len (K ⟨i, h⟩) (lv - 1) (hfk ⟨i, h⟩)).1 c b hp
            have h8 := cnt_parts (K ⟨i, h⟩)
            omega
          · have h9 := (IK i h).pc v0 v1 v2 v3 v4 v5 none 0 0 W h1 h2 h3
            rwa [hkdk ⟨i, h⟩] at h9
          · have h9 := hfk ⟨0, h⟩
            revert h9
            cases K ⟨0, h⟩
            exact fun h => h.2.2.2.2.2.2.1
          · have h9 := (wr_len (K ⟨0, h⟩) (lv - 1) (hfk ⟨0, h⟩)).2.1 b hb
            have h8 := cnt_parts (K ⟨0, h⟩)
            have h7 := kc_one K 0 h
            omega
        exact (pieces_23 w0 pf hpf n o s m d K D A cap _ (.slice B' d' c') w hF ht hw kd H).mono fun e w' h => h.mono fun c b h => by unfold Wr; exact .inr (.inr (.inr (.inr (.inr (.inr (.inr (.inr (.inr (.inr ⟨rfl, h⟩)))))))))
    refine ⟨hpc, fun v0 v1 v2 v3 v4 v5 w ht hw hF => ?_, fun k' n' s' m' K' o' d' D' he h => ?_⟩
    · have ht' := ht
      obtain ⟨A, cap, B, capB, he, _⟩ := ht'
      simp only [List.cons.injEq, and_true] at he
      obtain ⟨rfl, rfl, rfl, rfl, rfl, rfl⟩ := he
      exact putValue_of w0 pf hpf k n s m K o d D _ _ _ _ _ B capB (cdOf k) lv w hF ht hw hfit hcn (fun W h1 h2 => hpc _ _ _ _ _ _ B d capB W ht h1 h2) (fun h => (ID 0 h).pv)
    · injection he with _ _ _ _ _ _ h7 h8
      subst h7
      have h8 := eq_of_heq h8
      subst h8
      exact (ID 0 h).pv
end Go.Proofs.YtbdgkikipekmlaaDoor
