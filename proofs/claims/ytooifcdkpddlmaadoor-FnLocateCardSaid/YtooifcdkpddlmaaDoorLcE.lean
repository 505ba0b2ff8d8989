/- The walk of the reference's entries of a map. No condition. -/
import Derived.Test.YtooifcdkpddlmaaDoorLcA
import Derived.Deep.RegionHeld3
namespace Go.Proofs.YtooifcdkpddlmaaDoor
set_option linter.unusedVariables false
set_option linter.unusedSimpArgs false
open Go.RowKit

def EsTo (pf : Nat) (w : World) (e : Ending) (w' : World) : Prop :=
  ∃ (L : List Ent) (v : Value) (b : Bool), e = .returned (.tuple #[v, .bool b]) ∧ OwK 44 8 w' v L.length (L.flatMap enE) ∧ (∀ e ∈ L, EnR pf w' e ∧ EnP e) ∧ L.length ≤ 1000 ∧ Fr w v ∧ Fm w' pf ∧ Ch (fun b => b = pf) w w'
abbrev ZEN : Value := .agg #[.string ⟨#[]⟩, .slice none 0 0, .int .i64 0, .int .u64 0, .string ⟨#[]⟩, .int .i64 0, .slice none 0 0, .slice none 0 0]
theorem info_en : (Tryd.prog.info? 44).map (fun i => (i.zero, i.size, i.bytes)) = some (some (.agg #[.string ⟨#[]⟩, .slice none 0 0, .int .i64 0, .int .u64 0, .string ⟨#[]⟩, .int .i64 0, .slice none 0 0, .slice none 0 0]), 8, 128) := by kernel_rfl
set_option maxRecDepth 100000 in
set_option maxHeartbeats 4000000 in
theorem entries_no (pf : Nat) (k n x : Int) (s : ByteArray) (A : Option Addr) (m cap : Nat) (w : World) (hk : k ≠ 9) (hF : Fm w pf) :
    Calls Tryd.prog 23 #[.agg #[.int .i64 k, .int .u64 n, .string s, .int .i64 x, .slice A m cap], .pointer (some ⟨pf, 0, none⟩)] w (EsTo pf w) := by
  have e7 : (k == 9) = false := beq_eq_false_iff_ne.2 hk
  have f7 : (k != 9) = true := bne_iff_ne.2 hk
  have g7 : decide (k = 9) = false := decide_eq_false hk
  go_enter Tryd.func23, Tryd.ntmps23
  go_wp2_with fail
  go_ret2
  exact ⟨[], _, _, rfl, OwK.nil _ _ _, fun _ h => absurd h (by simp), by simp, Fr.nil _ _ _, hF.keep0 ((Ch.refl No w).alloc _), Ch.of_no ((Ch.refl No w).alloc _)⟩
set_option maxRecDepth 100000 in
set_option maxHeartbeats 4000000 in
theorem entries_calls (w0 : World) (pf : Nat) (hpf : w0.heap.size ≤ pf) (n x : Int) (s : ByteArray) (m : Nat) (K : Fin m → Pk) (A : Option Addr) (cap : Nat) (w : World) (hF : Fm w pf) (ht : TrP w0 (.mk 9 n s x m K) [.int .i64 9, .int .u64 n, .string s, .int .i64 x, .slice A m cap]) (hw : Ch (Fro w0.heap.size) w0 w) (hfit : FitP (.mk 9 n s x m K) 6) (hcn : cnt (.mk 9 n s x m K) ≤ 2000) :
    Calls Tryd.prog 23 #[.agg #[.int .i64 9, .int .u64 n, .string s, .int .i64 x, .slice A m cap], .pointer (some ⟨pf, 0, none⟩)] w (EsTo pf w) := by
  have hB := Row.alloc w [.int .i64 9, .int .u64 n, .string s, .int .i64 x, .slice A m cap] 35
  have q0 := hB.cell 0 _ rfl
  have q1 := hB.cell 1 _ rfl
  have q2 := hB.cell 2 _ rfl
  have q3 := hB.cell 3 _ rfl
  have q4 := hB.cell 4 _ rfl
  have hpl := hF.lt
  have hm2 : m % 2 = 0 := hfit.2.2.2.2.2.2.2.2.2.2.2.1 rfl
  have hm : m ≤ 2000 := hfit.2.2.2.2.2.2.2.2.2.2.2.2.1
  have hfk : ∀ i : Fin m, FitP (K i) 5 := hfit.2.2.2.2.2.2.2.2.2.2.2.2.2.2
  have hck : ∀ (i : Nat) (h : i < m), cnt (K ⟨i, h⟩) ≤ 2000 := fun i h => by
    have h1 := kc_succ K i h
    have h2 := kc_le K (show i + 1 ≤ m by omega)
    have h3 := cnt_kc 9 n x s m K
    omega
  have HFK := hid hfk
  have HCK := hid hck
  obtain ⟨M, hM⟩ : ∃ M, m = 2 * M := ⟨m / 2, by omega⟩
  have HM := hid hM
  have hMb : M ≤ 1000 := by omega
  clear hfk hck hfit hcn hm2 hM
  go_enter Tryd.func23, Tryd.ntmps23
  go_wp2_with fail
  go_loopg [6, 7] M (fun kk s6 s7 wr => ∃ (i : Nat) (L : List Ent), kk + i = M ∧ s7 = .int .i64 (2 * (i : Int)) ∧ Hid (L.length = i) ∧ OwK 44 8 wr s6 i (L.flatMap enE) ∧ Hid (∀ e ∈ L, EnR pf wr e ∧ EnP e) ∧ Hid (∀ e ∈ L, (∀ ad, e.A1 = some ad → ¬ Blk s6 ad.block) ∧ ∀ ad, e.A2 = some ad → ¬ Blk s6 ad.block) ∧ Hid (¬ Blk s6 w.heap.size) ∧ Fr w s6 ∧ Fm wr pf ∧ Row wr w.heap.size 35 [.int .i64 9, .int .u64 n, .string s, .int .i64 x, .slice A m cap] ∧ Ch (fun b => b = pf) w wr)
  case atStart => exact ⟨0, [], by omega, rfl, hid rfl, OwK.nil _ _ _, hid (fun _ h => absurd h (by simp)), hid (fun _ h => absurd h (by simp)), hid Blk_nil, Fr.nil _ _ _, hF.keep0 ((Ch.refl No w).alloc _), hB, Ch.of_no ((Ch.refl No w).alloc _)⟩
  case round =>
    obtain ⟨i, L, hki, rfl, HLi, HO, HE, HAP, HAPB, hfo, hFr, hBr, hch⟩ := hrel
    obtain ⟨A5, c5, rfl⟩ := HO.slice
    have q0 := hBr.cell 0 _ rfl
    have q1 := hBr.cell 1 _ rfl
    have q2 := hBr.cell 2 _ rfl
    have q3 := hBr.cell 3 _ rfl
    have q4 := hBr.cell 4 _ rfl
    by_cases hi : i < M
    · have hwc := hw.trans hch (fun _ h => h) (fun k hk => .inl (by subst hk; exact hpf))
      obtain ⟨b1, o1, u0, u1, u2, u3, u4, rfl, htk, a0, a1, a2, a3, a4⟩ := ht.kid (w := wr) hwc (2 * i) (by have := HM.out; omega)
      obtain ⟨b2, o2, y0, y1, y2, y3, y4, he2, htv, d0, d1, d2, d3, d4⟩ := ht.kid (w := wr) hwc (2 * i + 1) (by have := HM.out; omega)
      simp only [Option.some.injEq, Addr.mk.injEq, and_true] at he2
      obtain ⟨rfl, rfl⟩ := he2
      obtain ⟨kk, kn, ks, kx, km, kK, hKe⟩ : ∃ kk kn ks kx km kK, K ⟨2 * i, by have := HM.out; omega⟩ = .mk kk kn ks kx km kK := by
        cases K ⟨2 * i, by have := HM.out; omega⟩
        exact ⟨_, _, _, _, _, _, rfl⟩
      have hfk := HFK.out ⟨2 * i, by have := HM.out; omega⟩
      have hck := HCK.out (2 * i) (by have := HM.out; omega)
      rw [hKe] at htk hfk hck
      have HTK : Hid (TrP w0 (.mk kk kn ks kx km kK) [u0, u1, u2, u3, u4] ∧ FitP (.mk kk kn ks kx km kK) 5 ∧ cnt (.mk kk kn ks kx km kK) ≤ 2000) := hid ⟨htk, hfk, hck⟩
      have HTV : Hid (TrP w0 (K ⟨2 * i + 1, by have := HM.out; omega⟩) [y0, y1, y2, y3, y4] ∧ FitP (K ⟨2 * i + 1, by have := HM.out; omega⟩) 5 ∧ cnt (K ⟨2 * i + 1, by have := HM.out; omega⟩) ≤ 2000) := hid ⟨htv, HFK.out _, HCK.out _ _⟩
      clear hfk hck hKe
      have HTVO := hid htv.one
      have HFO := hid hfo
      clear hfo
      have hi' : 2 * (i : Int) + 1 < m := by have := HM.out; omega
      have hi1 : 2 * (i : Int) < m := by have := HM.out; omega
      have hi0 : (0 : Int) ≤ 2 * (i : Int) := by omega
      have ha : ((2 * i : Nat) : Int) = 2 * (i : Int) := by omega
      have ht0 : (2 * (i : Int)).toNat = 2 * i := by omega
      have ht1 : (2 * (i : Int) + 1).toNat = 2 * i + 1 := by omega
      have CW : Ch No wr ((wr.alloc (.cells ZL.toArray 35)).alloc (.cells ZL.toArray 35)).drew := (((Ch.refl No wr).alloc _).alloc _).drew
      have R8 : Row ((wr.alloc (.cells ZL.toArray 35)).alloc (.cells ZL.toArray 35)).drew wr.heap.size 35 ZL := (Row.alloc wr ZL 35).keep0 (((Ch.refl No _).alloc _).drew)
      have R9 : Row ((wr.alloc (.cells ZL.toArray 35)).alloc (.cells ZL.toArray 35)).drew (wr.heap.size + 1) 35 ZL := (Row.alloc2 wr (.cells ZL.toArray 35) ZL 35).keep0 ((Ch.refl No _).drew)
      have A0 := CW.cell0 a0
      have D0 := CW.cell0 d0
      have A1 := CW.cell0 a1
      have D1 := CW.cell0 d1
      have A2 := CW.cell0 a2
      have D2 := CW.cell0 d2
      have A3 := CW.cell0 a3
      have D3 := CW.cell0 d3
      have A4 := CW.cell0 a4
      have D4 := CW.cell0 d4
      have Q4 := CW.cell0 q4
      have hb1 : b1 < wr.heap.size := World.block_lt_of_cell? _ _ a0
      have hwl : w.heap.size < wr.heap.size := World.block_lt_of_cell? _ _ q4
      obtain ⟨WA1, WA2, WA3, WA4, WA, EWA1, EWA2, EWA3, EWA4, EWA5, RWA, CWA⟩ := store5_ahead (P := Tryd.prog) ((wr.alloc (.cells ZL.toArray 35)).alloc (.cells ZL.toArray 35)).drew wr.heap.size 35 _ _ _ _ _ u0 u1 u2 u3 u4 htk.one R8
      obtain ⟨WB1, WB2, WB3, WB4, WB, EWB1, EWB2, EWB3, EWB4, EWB5, RWB, CWB⟩ := store5_ahead (P := Tryd.prog) WA (wr.heap.size + 1) 35 _ _ _ _ _ y0 y1 y2 y3 y4 htv.one (R9.keep CWA (by show ¬ (wr.heap.size + 1) = wr.heap.size; omega))
      have DWA0 := CWA.cell D0 (by show ¬ b1 = wr.heap.size; omega)
      have DWA1 := CWA.cell D1 (by show ¬ b1 = wr.heap.size; omega)
      have DWA2 := CWA.cell D2 (by show ¬ b1 = wr.heap.size; omega)
      have DWA3 := CWA.cell D3 (by show ¬ b1 = wr.heap.size; omega)
      have DWA4 := CWA.cell D4 (by show ¬ b1 = wr.heap.size; omega)
      have QWA4 := CWA.cell Q4 (by show ¬ w.heap.size = wr.heap.size; omega)
      obtain ⟨WC1, WC2, WC3, WC4, WC, EWC1, EWC2, EWC3, EWC4, EWC5, RWC, CWC⟩ := store5_ahead (P := Tryd.prog) ((wr.alloc (.cells ZL.toArray 35)).alloc (.cells ZL.toArray 35)).drew (wr.heap.size + 1) 35 _ _ _ _ _ u0 u1 u2 u3 u4 htk.one R9
      obtain ⟨WD1, WD2, WD3, WD4, WD, EWD1, EWD2, EWD3, EWD4, EWD5, RWD, CWD⟩ := store5_ahead (P := Tryd.prog) WC wr.heap.size 35 _ _ _ _ _ y0 y1 y2 y3 y4 htv.one (R8.keep CWC (by show ¬ wr.heap.size = (wr.heap.size + 1); omega))
      have DWC0 := CWC.cell D0 (by show ¬ b1 = (wr.heap.size + 1); omega)
      have DWC1 := CWC.cell D1 (by show ¬ b1 = (wr.heap.size + 1); omega)
      have DWC2 := CWC.cell D2 (by show ¬ b1 = (wr.heap.size + 1); omega)
      have DWC3 := CWC.cell D3 (by show ¬ b1 = (wr.heap.size + 1); omega)
      have DWC4 := CWC.cell D4 (by show ¬ b1 = (wr.heap.size + 1); omega)
      have QWC4 := CWC.cell Q4 (by show ¬ w.heap.size = (wr.heap.size + 1); omega)
      go_wp2_with fail
      go_region
      · have N8 := RWA.keep CWB (by show ¬ wr.heap.size = wr.heap.size + 1; omega)
        have N9 := RWB
        have CC : Ch No wr WB := (CW.freshg CWA (Nat.le_refl _)).freshg CWB (by omega)
        replace N9 : Row WB (wr.heap.size + 1) 35 [y0, y1, y2, y3, y4] := N9
        obtain ⟨kA, kcap, hke, hkw, _⟩ := id htk
        simp only [List.cons.injEq, and_true] at hke
        obtain ⟨rfl, rfl, rfl, rfl, rfl⟩ := hke
        skip
        have k80 := N8.cell 0 _ rfl
        have k90 := N9.cell 0 _ rfl
        have k81 := N8.cell 1 _ rfl
        have k91 := N9.cell 1 _ rfl
        have k82 := N8.cell 2 _ rfl
        have k92 := N9.cell 2 _ rfl
        have k83 := N8.cell 3 _ rfl
        have k93 := N9.cell 3 _ rfl
        have k84 := N8.cell 4 _ rfl
        have k94 := N9.cell 4 _ rfl
        have hFW := hFr.keep0 CC
        have hwW := hwc.then_no CC
        have hpw : pf < wr.heap.size := hFr.lt
        by_cases k6 : kk = 6
        · subst k6
          go_wp2_with fail
          have e80 := (Ch.refl No WB).drew.cell0 k80
          have e81 := (Ch.refl No WB).drew.cell0 k81
          have e82 := (Ch.refl No WB).drew.cell0 k82
          have e83 := (Ch.refl No WB).drew.cell0 k83
          have e84 := (Ch.refl No WB).drew.cell0 k84
          have e90 := (Ch.refl No WB).drew.cell0 k90
          have e91 := (Ch.refl No WB).drew.cell0 k91
          have e92 := (Ch.refl No WB).drew.cell0 k92
          have e93 := (Ch.refl No WB).drew.cell0 k93
          have e94 := (Ch.refl No WB).drew.cell0 k94
          go_region_held3 (fun wz => wz.cell? ⟨wr.heap.size, 0, none⟩ = some (.int .i64 6) ∧ wz.cell? ⟨wr.heap.size, 1, none⟩ = some (.int .u64 kn) ∧ wz.cell? ⟨wr.heap.size, 2, none⟩ = some (.string ks) ∧ wz.cell? ⟨wr.heap.size, 3, none⟩ = some (.int .i64 kx) ∧ wz.cell? ⟨wr.heap.size, 4, none⟩ = some (.slice kA km kcap) ∧ wz.cell? ⟨(wr.heap.size + 1), 0, none⟩ = some (y0) ∧ wz.cell? ⟨(wr.heap.size + 1), 1, none⟩ = some (y1) ∧ wz.cell? ⟨(wr.heap.size + 1), 2, none⟩ = some (y2) ∧ wz.cell? ⟨(wr.heap.size + 1), 3, none⟩ = some (y3) ∧ wz.cell? ⟨(wr.heap.size + 1), 4, none⟩ = some (y4)) (first | exact ⟨e80, e81, e82, e83, e84, e90, e91, e92, e93, e94⟩ | exact ⟨m80, m81, m82, m83, m84, m90, m91, m92, m93, m94⟩ | exact ⟨n80, n81, n82, n83, n84, n90, n91, n92, n93, n94⟩ | exact ⟨p80, p81, p82, p83, p84, p90, p91, p92, p93, p94⟩ | exact ⟨r80, r81, r82, r83, r84, r90, r91, r92, r93, r94⟩) (first | (refine step_appendM rfl (.tmp 35) (.tmp 46) 39 44 ZEN 8 128 rfl Tryd.underlying39 info_en rfl (by decide) (by decide) (by decide) (.slice A5 i c5) i (L.flatMap enE) (enE ⟨ks, Aa, ca, da, y0, y1, y2, y3, y4, Ab, cb, db⟩) (some ⟨wb.heap.size, 0, none⟩) 1 1 rfl rfl rfl hone (HO3.keep0 ((Ch.refl No wb).alloc _)) (Src.lit wb 44 (enE ⟨ks, Aa, ca, da, y0, y1, y2, y3, y4, Ab, cb, db⟩)) (by omega) ?_; intro v6 w6 ho6 hch6 hat6; have NB6 : ∀ b, Blk (.slice A5 i c5) b → b < wr.heap.size := HO.blk_lt; have r80 := Ch.cell hch6 p80 (fun h => by have := NB6 _ h; simp only at this; omega); have r81 := Ch.cell hch6 p81 (fun h => by have := NB6 _ h; simp only at this; omega); have r82 := Ch.cell hch6 p82 (fun h => by have := NB6 _ h; simp only at this; omega); have r83 := Ch.cell hch6 p83 (fun h => by have := NB6 _ h; simp only at this; omega); have r84 := Ch.cell hch6 p84 (fun h => by have := NB6 _ h; simp only at this; omega); have r90 := Ch.cell hch6 p90 (fun h => by have := NB6 _ h; simp only at this; omega); have r91 := Ch.cell hch6 p91 (fun h => by have := NB6 _ h; simp only at this; omega); have r92 := Ch.cell hch6 p92 (fun h => by have := NB6 _ h; simp only at this; omega); have r93 := Ch.cell hch6 p93 (fun h => by have := NB6 _ h; simp only at this; omega); have r94 := Ch.cell hch6 p94 (fun h => by have := NB6 _ h; simp only at this; omega)) | (go_at_call 27; (fail_if_success (have hz := hPA)); refine (put_any w0 pf hpf _ _ _ _ _ _ (hFW.keep0 (Ch.refl No _).drew) hwW.drew (by first | exact ⟨_, 5, HTK.out⟩ | exact ⟨_, 5, HTV.out⟩)).mono ?_; rintro e wa ⟨va, da, rfl, hPA, hla, hoa, hfa, hFa, hca⟩; have m80 := Ch.cell hca e80 (by show ¬ wr.heap.size = pf; omega); have m81 := Ch.cell hca e81 (by show ¬ wr.heap.size = pf; omega); have m82 := Ch.cell hca e82 (by show ¬ wr.heap.size = pf; omega); have m83 := Ch.cell hca e83 (by show ¬ wr.heap.size = pf; omega); have m84 := Ch.cell hca e84 (by show ¬ wr.heap.size = pf; omega); have m90 := Ch.cell hca e90 (by show ¬ (wr.heap.size + 1) = pf; omega); have m91 := Ch.cell hca e91 (by show ¬ (wr.heap.size + 1) = pf; omega); have m92 := Ch.cell hca e92 (by show ¬ (wr.heap.size + 1) = pf; omega); have m93 := Ch.cell hca e93 (by show ¬ (wr.heap.size + 1) = pf; omega); have m94 := Ch.cell hca e94 (by show ¬ (wr.heap.size + 1) = pf; omega)) | (go_at_call 27; (fail_if_success (have hz := hPB)); refine (put_any w0 pf hpf _ _ _ _ _ _ hFa (hwW.drew.trans hca (fun _ h => h) (fun k hk => .inl (by subst hk; exact hpf))) (by first | exact ⟨_, 5, HTK.out⟩ | exact ⟨_, 5, HTV.out⟩)).mono ?_; rintro e wb ⟨vb, db, rfl, hPB, hlb, hob, hfb, hFb, hcb⟩; have n80 := Ch.cell hcb m80 (by show ¬ wr.heap.size = pf; omega); have n81 := Ch.cell hcb m81 (by show ¬ wr.heap.size = pf; omega); have n82 := Ch.cell hcb m82 (by show ¬ wr.heap.size = pf; omega); have n83 := Ch.cell hcb m83 (by show ¬ wr.heap.size = pf; omega); have n84 := Ch.cell hcb m84 (by show ¬ wr.heap.size = pf; omega); have n90 := Ch.cell hcb m90 (by show ¬ (wr.heap.size + 1) = pf; omega); have n91 := Ch.cell hcb m91 (by show ¬ (wr.heap.size + 1) = pf; omega); have n92 := Ch.cell hcb m92 (by show ¬ (wr.heap.size + 1) = pf; omega); have n93 := Ch.cell hcb m93 (by show ¬ (wr.heap.size + 1) = pf; omega); have n94 := Ch.cell hcb m94 (by show ¬ (wr.heap.size + 1) = pf; omega); obtain ⟨Aa, ca, hva, hca1, _⟩ := hoa.slice; obtain ⟨Ab, cb, hvb, hcb1, _⟩ := hob.slice; subst hva; subst hvb; have hone := enE_one ks Aa ca da y0 y1 y2 y3 y4 Ab cb db HTVO.out; have HO3 := OwK.keep (OwK.keep ((HO.keep0 CC).keep0 (Ch.refl No _).drew) hca (fun b hb h => by have := HFO.out b hb; have h9 : b = pf := h; omega)) hcb (fun b hb h => by have := HFO.out b hb; have h9 : b = pf := h; omega); have CB : Ch (fun b => b = pf) w wb := Ch.trans (Ch.trans (hch.then_no CC).drew hca (fun _ h => h) (fun _ h => .inl h)) hcb (fun _ h => h) (fun _ h => .inl h); have p80 := ((Ch.refl No wb).alloc (.cells (enE ⟨ks, Aa, ca, da, y0, y1, y2, y3, y4, Ab, cb, db⟩).toArray 44)).cell0 n80; have p81 := ((Ch.refl No wb).alloc (.cells (enE ⟨ks, Aa, ca, da, y0, y1, y2, y3, y4, Ab, cb, db⟩).toArray 44)).cell0 n81; have p82 := ((Ch.refl No wb).alloc (.cells (enE ⟨ks, Aa, ca, da, y0, y1, y2, y3, y4, Ab, cb, db⟩).toArray 44)).cell0 n82; have p83 := ((Ch.refl No wb).alloc (.cells (enE ⟨ks, Aa, ca, da, y0, y1, y2, y3, y4, Ab, cb, db⟩).toArray 44)).cell0 n83; have p84 := ((Ch.refl No wb).alloc (.cells (enE ⟨ks, Aa, ca, da, y0, y1, y2, y3, y4, Ab, cb, db⟩).toArray 44)).cell0 n84; have p90 := ((Ch.refl No wb).alloc (.cells (enE ⟨ks, Aa, ca, da, y0, y1, y2, y3, y4, Ab, cb, db⟩).toArray 44)).cell0 n90; have p91 := ((Ch.refl No wb).alloc (.cells (enE ⟨ks, Aa, ca, da, y0, y1, y2, y3, y4, Ab, cb, db⟩).toArray 44)).cell0 n91; have p92 := ((Ch.refl No wb).alloc (.cells (enE ⟨ks, Aa, ca, da, y0, y1, y2, y3, y4, Ab, cb, db⟩).toArray 44)).cell0 n92; have p93 := ((Ch.refl No wb).alloc (.cells (enE ⟨ks, Aa, ca, da, y0, y1, y2, y3, y4, Ab, cb, db⟩).toArray 44)).cell0 n93; have p94 := ((Ch.refl No wb).alloc (.cells (enE ⟨ks, Aa, ca, da, y0, y1, y2, y3, y4, Ab, cb, db⟩).toArray 44)).cell0 n94))
          have GA : ∀ ad, Aa = some ad → wr.heap.size ≤ ad.block ∧ ad.block < wa.heap.size := fun ad h => ⟨Nat.le_trans CC.size (hfa _ (hoa.at_blk ad h).1), (hoa.at_blk ad h).2⟩
          have GB : ∀ ad, Ab = some ad → wr.heap.size ≤ ad.block ∧ ad.block < wb.heap.size := fun ad h => ⟨Nat.le_trans CC.size (Nat.le_trans hca.size (hfb _ (hob.at_blk ad h).1)), (hob.at_blk ad h).2⟩
          have AL := (Ch.refl No wb).alloc (.cells (enE ⟨ks, Aa, ca, da, y0, y1, y2, y3, y4, Ab, cb, db⟩).toArray 44)
          have SA : wb.heap.size < (wb.alloc (.cells (enE ⟨ks, Aa, ca, da, y0, y1, y2, y3, y4, Ab, cb, db⟩).toArray 44)).heap.size := by simp
          have C6 : Ch (fun b => b = pf) w w6 := (CB.alloc _).trans hch6 (fun _ h => h) (fun b hb => .inr (HFO.out b hb))
          have RA : Rd Go.Proofs.YtooifcdkpddlmaaDoor.u8 w6 Aa da := ((hoa.rd.keep hcb (fun ad h hb => by have := (GA ad h).1; have h9 : ad.block = pf := hb; omega)).keep0 AL).keep hch6 (fun ad h hb => by have := (GA ad h).1; have := NB6 _ hb; omega)
          have RB : Rd Go.Proofs.YtooifcdkpddlmaaDoor.u8 w6 Ab db := (hob.rd.keep0 AL).keep hch6 (fun ad h hb => by have := (GB ad h).1; have := NB6 _ hb; omega)
          have hkt := HTK.out
          have hvt := HTV.out
          have ENP : EnP ⟨ks, Aa, ca, da, y0, y1, y2, y3, y4, Ab, cb, db⟩ := ⟨⟨kn, kx, km, kK, hPA _ hkt.1, num_tr w0 _ _ 5 hkt.1 hkt.2.1⟩, ⟨_, 5, by omega, num_tr w0 _ _ 5 hvt.1 hvt.2.1, hvt.2.1, hPB _ hvt.1⟩, hla, hlb⟩
          have hab := hcb.size
          have hcb9 := CB.size
          have hab9 : wr.heap.size ≤ wb.heap.size := Nat.le_trans CC.size (Nat.le_trans hca.size hcb.size)
          have hs6 : wb.heap.size < w6.heap.size := Nat.lt_of_lt_of_le SA hch6.size
          have hat7 : ∀ k, Blk v6 k → Blk (.slice A5 i c5) k ∨ wb.heap.size < k := fun k h => (hat6 k h).imp_right (fun h => Nat.lt_of_lt_of_le SA h)
          have ENR : EnR pf w6 ⟨ks, Aa, ca, da, y0, y1, y2, y3, y4, Ab, cb, db⟩ := ⟨RA, RB, fun ad h e => by have := (GA ad h).1; omega, fun ad h e => by have := (GB ad h).1; omega, fun ad h => by have := (GA ad h).2; omega, fun ad h => by have := (GB ad h).2; omega, hca1, hcb1, hone⟩
          have HOLD : Hid (∀ e ∈ L, EnR pf w6 e) := hid (fun e he => ((((((HE.out e he).1.keep0 CC).keep0 (Ch.refl No _).drew).keep hca).keep hcb).keep0 AL).keepS hch6 (HAP.out e he).1 (HAP.out e he).2)
          have HLT : Hid (∀ e ∈ L, (∀ ad, e.A1 = some ad → ad.block < wr.heap.size) ∧ ∀ ad, e.A2 = some ad → ad.block < wr.heap.size) := hid (fun e he => ⟨(HE.out e he).1.l1, (HE.out e he).1.l2⟩)
          have hWa := hca.size
          have hcs := CC.size
          have hF6 : Fm w6 pf := (hFb.keep0 AL).keep hch6 (fun h => by have := NB6 _ h; have := HFO.out _ h; omega)
          have hB6 : Row w6 w.heap.size 35 [.int .i64 9, .int .u64 n, .string s, .int .i64 x, .slice (some ⟨b1, o1, none⟩) m cap] := (((((hBr.keep0 CC).keep0 (Ch.refl No _).drew).keep hca (fun h => by have h9 : w.heap.size = pf := h; omega)).keep hcb (fun h => by have h9 : w.heap.size = pf := h; omega)).keep0 AL).keep hch6 (fun h => HAPB.out h)
          have hsz6 : w.heap.size ≤ (wb.alloc (.cells (enE ⟨ks, Aa, ca, da, y0, y1, y2, y3, y4, Ab, cb, db⟩).toArray 44)).heap.size := (CB.alloc _).size
          go_wp2_with fail
          go_roundg (gk - 1)
          case measure => omega
          case rel =>
            refine ⟨i + 1, L ++ [⟨ks, Aa, ca, da, y0, y1, y2, y3, y4, Ab, cb, db⟩], by omega, by go_num, hid (by rw [List.length_append, HLi.out]; rfl), by rw [List.flatMap_append]; simpa using ho6, hid (fun e he => ?_), hid (fun e he => ?_), hid (fun h => (hat7 _ h).elim HAPB.out (fun h => by omega)), HFO.out.step hsz6 hat6, hF6, hB6, C6⟩
            · rcases List.mem_append.1 he with he | he
              · exact ⟨HOLD.out e he, (HE.out e he).2⟩
              · obtain rfl : e = ⟨ks, Aa, ca, da, y0, y1, y2, y3, y4, Ab, cb, db⟩ := by simpa using he
                exact ⟨ENR, ENP⟩
            · rcases List.mem_append.1 he with he | he
              · refine ⟨fun ad h hb => ?_, fun ad h hb => ?_⟩
                · rcases hat7 _ hb with hb | hb
                  · exact (HAP.out e he).1 ad h hb
                  · have := (HLT.out e he).1 ad h; omega
                · rcases hat7 _ hb with hb | hb
                  · exact (HAP.out e he).2 ad h hb
                  · have := (HLT.out e he).2 ad h; omega
              · obtain rfl : e = ⟨ks, Aa, ca, da, y0, y1, y2, y3, y4, Ab, cb, db⟩ := by simpa using he
                refine ⟨fun ad h hb => ?_, fun ad h hb => ?_⟩
                · have := GA ad h
                  rcases hat7 _ hb with hb | hb
                  · have := NB6 _ hb; omega
                  · omega
                · have := GB ad h
                  rcases hat7 _ hb with hb | hb
                  · have := NB6 _ hb; omega
                  · omega
        · have e7 : (kk == 6) = false := beq_eq_false_iff_ne.2 k6
          have f7 : (kk != 6) = true := bne_iff_ne.2 k6
          have g7 : decide (kk = 6) = false := decide_eq_false k6
          go_wp2_with fail
          go_ret2
          exact ⟨[], _, _, rfl, OwK.nil _ _ _, fun _ h => absurd h (by simp), by simp, Fr.nil _ _ _, hFW, hch.then_no CC⟩
      · have N8 := RWC.keep CWD (by show ¬ wr.heap.size + 1 = wr.heap.size; omega)
        have N9 := RWD
        have CC : Ch No wr WD := (CW.freshg CWC (by omega)).freshg CWD (Nat.le_refl _)
        replace N9 : Row WD wr.heap.size 35 [y0, y1, y2, y3, y4] := N9
        obtain ⟨kA, kcap, hke, hkw, _⟩ := id htk
        simp only [List.cons.injEq, and_true] at hke
        obtain ⟨rfl, rfl, rfl, rfl, rfl⟩ := hke
        skip
        have k80 := N8.cell 0 _ rfl
        have k90 := N9.cell 0 _ rfl
        have k81 := N8.cell 1 _ rfl
        have k91 := N9.cell 1 _ rfl
        have k82 := N8.cell 2 _ rfl
        have k92 := N9.cell 2 _ rfl
        have k83 := N8.cell 3 _ rfl
        have k93 := N9.cell 3 _ rfl
        have k84 := N8.cell 4 _ rfl
        have k94 := N9.cell 4 _ rfl
        have hFW := hFr.keep0 CC
        have hwW := hwc.then_no CC
        have hpw : pf < wr.heap.size := hFr.lt
        by_cases k6 : kk = 6
        · subst k6
          go_wp2_with fail
          have e80 := (Ch.refl No WD).drew.cell0 k80
          have e81 := (Ch.refl No WD).drew.cell0 k81
          have e82 := (Ch.refl No WD).drew.cell0 k82
          have e83 := (Ch.refl No WD).drew.cell0 k83
          have e84 := (Ch.refl No WD).drew.cell0 k84
          have e90 := (Ch.refl No WD).drew.cell0 k90
          have e91 := (Ch.refl No WD).drew.cell0 k91
          have e92 := (Ch.refl No WD).drew.cell0 k92
          have e93 := (Ch.refl No WD).drew.cell0 k93
          have e94 := (Ch.refl No WD).drew.cell0 k94
          go_region_held3 (fun wz => wz.cell? ⟨(wr.heap.size + 1), 0, none⟩ = some (.int .i64 6) ∧ wz.cell? ⟨(wr.heap.size + 1), 1, none⟩ = some (.int .u64 kn) ∧ wz.cell? ⟨(wr.heap.size + 1), 2, none⟩ = some (.string ks) ∧ wz.cell? ⟨(wr.heap.size + 1), 3, none⟩ = some (.int .i64 kx) ∧ wz.cell? ⟨(wr.heap.size + 1), 4, none⟩ = some (.slice kA km kcap) ∧ wz.cell? ⟨wr.heap.size, 0, none⟩ = some (y0) ∧ wz.cell? ⟨wr.heap.size, 1, none⟩ = some (y1) ∧ wz.cell? ⟨wr.heap.size, 2, none⟩ = some (y2) ∧ wz.cell? ⟨wr.heap.size, 3, none⟩ = some (y3) ∧ wz.cell? ⟨wr.heap.size, 4, none⟩ = some (y4)) (first | exact ⟨e80, e81, e82, e83, e84, e90, e91, e92, e93, e94⟩ | exact ⟨m80, m81, m82, m83, m84, m90, m91, m92, m93, m94⟩ | exact ⟨n80, n81, n82, n83, n84, n90, n91, n92, n93, n94⟩ | exact ⟨p80, p81, p82, p83, p84, p90, p91, p92, p93, p94⟩ | exact ⟨r80, r81, r82, r83, r84, r90, r91, r92, r93, r94⟩) (first | (refine step_appendM rfl (.tmp 35) (.tmp 46) 39 44 ZEN 8 128 rfl Tryd.underlying39 info_en rfl (by decide) (by decide) (by decide) (.slice A5 i c5) i (L.flatMap enE) (enE ⟨ks, Aa, ca, da, y0, y1, y2, y3, y4, Ab, cb, db⟩) (some ⟨wb.heap.size, 0, none⟩) 1 1 rfl rfl rfl hone (HO3.keep0 ((Ch.refl No wb).alloc _)) (Src.lit wb 44 (enE ⟨ks, Aa, ca, da, y0, y1, y2, y3, y4, Ab, cb, db⟩)) (by omega) ?_; intro v6 w6 ho6 hch6 hat6; have NB6 : ∀ b, Blk (.slice A5 i c5) b → b < wr.heap.size := HO.blk_lt; have r80 := Ch.cell hch6 p80 (fun h => by have := NB6 _ h; simp only at this; omega); have r81 := Ch.cell hch6 p81 (fun h => by have := NB6 _ h; simp only at this; omega); have r82 := Ch.cell hch6 p82 (fun h => by have := NB6 _ h; simp only at this; omega); have r83 := Ch.cell hch6 p83 (fun h => by have := NB6 _ h; simp only at this; omega); have r84 := Ch.cell hch6 p84 (fun h => by have := NB6 _ h; simp only at this; omega); have r90 := Ch.cell hch6 p90 (fun h => by have := NB6 _ h; simp only at this; omega); have r91 := Ch.cell hch6 p91 (fun h => by have := NB6 _ h; simp only at this; omega); have r92 := Ch.cell hch6 p92 (fun h => by have := NB6 _ h; simp only at this; omega); have r93 := Ch.cell hch6 p93 (fun h => by have := NB6 _ h; simp only at this; omega); have r94 := Ch.cell hch6 p94 (fun h => by have := NB6 _ h; simp only at this; omega)) | (go_at_call 27; (fail_if_success (have hz := hPA)); refine (put_any w0 pf hpf _ _ _ _ _ _ (hFW.keep0 (Ch.refl No _).drew) hwW.drew (by first | exact ⟨_, 5, HTK.out⟩ | exact ⟨_, 5, HTV.out⟩)).mono ?_; rintro e wa ⟨va, da, rfl, hPA, hla, hoa, hfa, hFa, hca⟩; have m80 := Ch.cell hca e80 (by show ¬ (wr.heap.size + 1) = pf; omega); have m81 := Ch.cell hca e81 (by show ¬ (wr.heap.size + 1) = pf; omega); have m82 := Ch.cell hca e82 (by show ¬ (wr.heap.size + 1) = pf; omega); have m83 := Ch.cell hca e83 (by show ¬ (wr.heap.size + 1) = pf; omega); have m84 := Ch.cell hca e84 (by show ¬ (wr.heap.size + 1) = pf; omega); have m90 := Ch.cell hca e90 (by show ¬ wr.heap.size = pf; omega); have m91 := Ch.cell hca e91 (by show ¬ wr.heap.size = pf; omega); have m92 := Ch.cell hca e92 (by show ¬ wr.heap.size = pf; omega); have m93 := Ch.cell hca e93 (by show ¬ wr.heap.size = pf; omega); have m94 := Ch.cell hca e94 (by show ¬ wr.heap.size = pf; omega)) | (go_at_call 27; (fail_if_success (have hz := hPB)); refine (put_any w0 pf hpf _ _ _ _ _ _ hFa (hwW.drew.trans hca (fun _ h => h) (fun k hk => .inl (by subst hk; exact hpf))) (by first | exact ⟨_, 5, HTK.out⟩ | exact ⟨_, 5, HTV.out⟩)).mono ?_; rintro e wb ⟨vb, db, rfl, hPB, hlb, hob, hfb, hFb, hcb⟩; have n80 := Ch.cell hcb m80 (by show ¬ (wr.heap.size + 1) = pf; omega); have n81 := Ch.cell hcb m81 (by show ¬ (wr.heap.size + 1) = pf; omega); have n82 := Ch.cell hcb m82 (by show ¬ (wr.heap.size + 1) = pf; omega); have n83 := Ch.cell hcb m83 (by show ¬ (wr.heap.size + 1) = pf; omega); have n84 := Ch.cell hcb m84 (by show ¬ (wr.heap.size + 1) = pf; omega); have n90 := Ch.cell hcb m90 (by show ¬ wr.heap.size = pf; omega); have n91 := Ch.cell hcb m91 (by show ¬ wr.heap.size = pf; omega); have n92 := Ch.cell hcb m92 (by show ¬ wr.heap.size = pf; omega); have n93 := Ch.cell hcb m93 (by show ¬ wr.heap.size = pf; omega); have n94 := Ch.cell hcb m94 (by show ¬ wr.heap.size = pf; omega); obtain ⟨Aa, ca, hva, hca1, _⟩ := hoa.slice; obtain ⟨Ab, cb, hvb, hcb1, _⟩ := hob.slice; subst hva; subst hvb; have hone := enE_one ks Aa ca da y0 y1 y2 y3 y4 Ab cb db HTVO.out; have HO3 := OwK.keep (OwK.keep ((HO.keep0 CC).keep0 (Ch.refl No _).drew) hca (fun b hb h => by have := HFO.out b hb; have h9 : b = pf := h; omega)) hcb (fun b hb h => by have := HFO.out b hb; have h9 : b = pf := h; omega); have CB : Ch (fun b => b = pf) w wb := Ch.trans (Ch.trans (hch.then_no CC).drew hca (fun _ h => h) (fun _ h => .inl h)) hcb (fun _ h => h) (fun _ h => .inl h); have p80 := ((Ch.refl No wb).alloc (.cells (enE ⟨ks, Aa, ca, da, y0, y1, y2, y3, y4, Ab, cb, db⟩).toArray 44)).cell0 n80; have p81 := ((Ch.refl No wb).alloc (.cells (enE ⟨ks, Aa, ca, da, y0, y1, y2, y3, y4, Ab, cb, db⟩).toArray 44)).cell0 n81; have p82 := ((Ch.refl No wb).alloc (.cells (enE ⟨ks, Aa, ca, da, y0, y1, y2, y3, y4, Ab, cb, db⟩).toArray 44)).cell0 n82; have p83 := ((Ch.refl No wb).alloc (.cells (enE ⟨ks, Aa, ca, da, y0, y1, y2, y3, y4, Ab, cb, db⟩).toArray 44)).cell0 n83; have p84 := ((Ch.refl No wb).alloc (.cells (enE ⟨ks, Aa, ca, da, y0, y1, y2, y3, y4, Ab, cb, db⟩).toArray 44)).cell0 n84; have p90 := ((Ch.refl No wb).alloc (.cells (enE ⟨ks, Aa, ca, da, y0, y1, y2, y3, y4, Ab, cb, db⟩).toArray 44)).cell0 n90; have p91 := ((Ch.refl No wb).alloc (.cells (enE ⟨ks, Aa, ca, da, y0, y1, y2, y3, y4, Ab, cb, db⟩).toArray 44)).cell0 n91; have p92 := ((Ch.refl No wb).alloc (.cells (enE ⟨ks, Aa, ca, da, y0, y1, y2, y3, y4, Ab, cb, db⟩).toArray 44)).cell0 n92; have p93 := ((Ch.refl No wb).alloc (.cells (enE ⟨ks, Aa, ca, da, y0, y1, y2, y3, y4, Ab, cb, db⟩).toArray 44)).cell0 n93; have p94 := ((Ch.refl No wb).alloc (.cells (enE ⟨ks, Aa, ca, da, y0, y1, y2, y3, y4, Ab, cb, db⟩).toArray 44)).cell0 n94))
          have GA : ∀ ad, Aa = some ad → wr.heap.size ≤ ad.block ∧ ad.block < wa.heap.size := fun ad h => ⟨Nat.le_trans CC.size (hfa _ (hoa.at_blk ad h).1), (hoa.at_blk ad h).2⟩
          have GB : ∀ ad, Ab = some ad → wr.heap.size ≤ ad.block ∧ ad.block < wb.heap.size := fun ad h => ⟨Nat.le_trans CC.size (Nat.le_trans hca.size (hfb _ (hob.at_blk ad h).1)), (hob.at_blk ad h).2⟩
          have AL := (Ch.refl No wb).alloc (.cells (enE ⟨ks, Aa, ca, da, y0, y1, y2, y3, y4, Ab, cb, db⟩).toArray 44)
          have SA : wb.heap.size < (wb.alloc (.cells (enE ⟨ks, Aa, ca, da, y0, y1, y2, y3, y4, Ab, cb, db⟩).toArray 44)).heap.size := by simp
          have C6 : Ch (fun b => b = pf) w w6 := (CB.alloc _).trans hch6 (fun _ h => h) (fun b hb => .inr (HFO.out b hb))
          have RA : Rd Go.Proofs.YtooifcdkpddlmaaDoor.u8 w6 Aa da := ((hoa.rd.keep hcb (fun ad h hb => by have := (GA ad h).1; have h9 : ad.block = pf := hb; omega)).keep0 AL).keep hch6 (fun ad h hb => by have := (GA ad h).1; have := NB6 _ hb; omega)
          have RB : Rd Go.Proofs.YtooifcdkpddlmaaDoor.u8 w6 Ab db := (hob.rd.keep0 AL).keep hch6 (fun ad h hb => by have := (GB ad h).1; have := NB6 _ hb; omega)
          have hkt := HTK.out
          have hvt := HTV.out
          have ENP : EnP ⟨ks, Aa, ca, da, y0, y1, y2, y3, y4, Ab, cb, db⟩ := ⟨⟨kn, kx, km, kK, hPA _ hkt.1, num_tr w0 _ _ 5 hkt.1 hkt.2.1⟩, ⟨_, 5, by omega, num_tr w0 _ _ 5 hvt.1 hvt.2.1, hvt.2.1, hPB _ hvt.1⟩, hla, hlb⟩
          have hab := hcb.size
          have hcb9 := CB.size
          have hab9 : wr.heap.size ≤ wb.heap.size := Nat.le_trans CC.size (Nat.le_trans hca.size hcb.size)
          have hs6 : wb.heap.size < w6.heap.size := Nat.lt_of_lt_of_le SA hch6.size
          have hat7 : ∀ k, Blk v6 k → Blk (.slice A5 i c5) k ∨ wb.heap.size < k := fun k h => (hat6 k h).imp_right (fun h => Nat.lt_of_lt_of_le SA h)
          have ENR : EnR pf w6 ⟨ks, Aa, ca, da, y0, y1, y2, y3, y4, Ab, cb, db⟩ := ⟨RA, RB, fun ad h e => by have := (GA ad h).1; omega, fun ad h e => by have := (GB ad h).1; omega, fun ad h => by have := (GA ad h).2; omega, fun ad h => by have := (GB ad h).2; omega, hca1, hcb1, hone⟩
          have HOLD : Hid (∀ e ∈ L, EnR pf w6 e) := hid (fun e he => ((((((HE.out e he).1.keep0 CC).keep0 (Ch.refl No _).drew).keep hca).keep hcb).keep0 AL).keepS hch6 (HAP.out e he).1 (HAP.out e he).2)
          have HLT : Hid (∀ e ∈ L, (∀ ad, e.A1 = some ad → ad.block < wr.heap.size) ∧ ∀ ad, e.A2 = some ad → ad.block < wr.heap.size) := hid (fun e he => ⟨(HE.out e he).1.l1, (HE.out e he).1.l2⟩)
          have hWa := hca.size
          have hcs := CC.size
          have hF6 : Fm w6 pf := (hFb.keep0 AL).keep hch6 (fun h => by have := NB6 _ h; have := HFO.out _ h; omega)
          have hB6 : Row w6 w.heap.size 35 [.int .i64 9, .int .u64 n, .string s, .int .i64 x, .slice (some ⟨b1, o1, none⟩) m cap] := (((((hBr.keep0 CC).keep0 (Ch.refl No _).drew).keep hca (fun h => by have h9 : w.heap.size = pf := h; omega)).keep hcb (fun h => by have h9 : w.heap.size = pf := h; omega)).keep0 AL).keep hch6 (fun h => HAPB.out h)
          have hsz6 : w.heap.size ≤ (wb.alloc (.cells (enE ⟨ks, Aa, ca, da, y0, y1, y2, y3, y4, Ab, cb, db⟩).toArray 44)).heap.size := (CB.alloc _).size
          go_wp2_with fail
          go_roundg (gk - 1)
          case measure => omega
          case rel =>
            refine ⟨i + 1, L ++ [⟨ks, Aa, ca, da, y0, y1, y2, y3, y4, Ab, cb, db⟩], by omega, by go_num, hid (by rw [List.length_append, HLi.out]; rfl), by rw [List.flatMap_append]; simpa using ho6, hid (fun e he => ?_), hid (fun e he => ?_), hid (fun h => (hat7 _ h).elim HAPB.out (fun h => by omega)), HFO.out.step hsz6 hat6, hF6, hB6, C6⟩
            · rcases List.mem_append.1 he with he | he
              · exact ⟨HOLD.out e he, (HE.out e he).2⟩
              · obtain rfl : e = ⟨ks, Aa, ca, da, y0, y1, y2, y3, y4, Ab, cb, db⟩ := by simpa using he
                exact ⟨ENR, ENP⟩
            · rcases List.mem_append.1 he with he | he
              · refine ⟨fun ad h hb => ?_, fun ad h hb => ?_⟩
                · rcases hat7 _ hb with hb | hb
                  · exact (HAP.out e he).1 ad h hb
                  · have := (HLT.out e he).1 ad h; omega
                · rcases hat7 _ hb with hb | hb
                  · exact (HAP.out e he).2 ad h hb
                  · have := (HLT.out e he).2 ad h; omega
              · obtain rfl : e = ⟨ks, Aa, ca, da, y0, y1, y2, y3, y4, Ab, cb, db⟩ := by simpa using he
                refine ⟨fun ad h hb => ?_, fun ad h hb => ?_⟩
                · have := GA ad h
                  rcases hat7 _ hb with hb | hb
                  · have := NB6 _ hb; omega
                  · omega
                · have := GB ad h
                  rcases hat7 _ hb with hb | hb
                  · have := NB6 _ hb; omega
                  · omega
        · have e7 : (kk == 6) = false := beq_eq_false_iff_ne.2 k6
          have f7 : (kk != 6) = true := bne_iff_ne.2 k6
          have g7 : decide (kk = 6) = false := decide_eq_false k6
          go_wp2_with fail
          go_ret2
          exact ⟨[], _, _, rfl, OwK.nil _ _ _, fun _ h => absurd h (by simp), by simp, Fr.nil _ _ _, hFW, hch.then_no CC⟩
    · obtain rfl : i = M := by omega
      have hi' : decide (2 * (i : Int) + 1 < m) = false := decide_eq_false (by have := HM.out; omega)
      go_wp2_with fail
      go_ret2
      exact ⟨L, _, true, rfl, by rw [HLi.out]; exact HO, HE.out, by rw [HLi.out]; omega, hfo, hFr, hch⟩

end Go.Proofs.YtooifcdkpddlmaaDoor
