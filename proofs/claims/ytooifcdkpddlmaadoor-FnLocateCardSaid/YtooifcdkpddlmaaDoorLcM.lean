/- The walks of the reference's writer of maps, and of the look-up in its entries. No condition. -/
import Derived.Test.YtooifcdkpddlmaaDoorLcE
import Derived.Test.YtooifcdkpddlmaaDoorPutH
import Derived.Deep.RegionHeld3
namespace Go.Proofs.YtooifcdkpddlmaaDoor
set_option linter.unusedVariables false
set_option linter.unusedSimpArgs false
open Go.RowKit

/-- What entries are written as. -/
def flatE (L : List Ent) : List Int := L.flatMap fun e => e.kd ++ e.vd
theorem flatE_len : ∀ L : List Ent, (∀ e ∈ L, EnP e) → (flatE L).length ≤ L.length * 524400000
  | [], _ => by simp [flatE]
  | e :: L, h => by
    have h1 := flatE_len L (fun x hx => h x (List.mem_cons_of_mem _ hx))
    obtain ⟨_, _, h2, h3⟩ := h e (List.mem_cons_self ..)
    have : flatE (e :: L) = (e.kd ++ e.vd) ++ flatE L := by simp [flatE]
    rw [this, List.length_append, List.length_append, List.length_cons]
    omega
theorem flatE_take (L : List Ent) (i : Nat) (hi : i < L.length) : flatE (L.take (i + 1)) = flatE (L.take i) ++ L[i].kd ++ L[i].vd := by
  rw [List.take_succ_eq_append_getElem hi]
  unfold flatE
  rw [List.flatMap_append, List.flatMap_cons, List.flatMap_nil, List.append_nil, List.append_assoc]
theorem bs_ne {a b : ByteArray} (h : a ≠ b) : (a.toList == b.toList) = false := beq_eq_false_iff_ne.2 fun h1 => h (by
  rw [ByteArray.toList_eq, ByteArray.toList_eq] at h1
  exact ByteArray.ext (Array.toList_inj.mp h1))
def MdTo (pf : Nat) (L : List Ent) (w : World) (e : Ending) (w' : World) : Prop :=
  ∃ v hd, e = .returned v ∧ HdB 128 16 [(222, 2), (223, 4)] (L.length : Int) hd ∧ Ow 5 u8 w' v (hd ++ flatE L) ∧ Fr w v ∧ Fm w' pf ∧ Ch (fun b => b = pf) w w'
theorem size_en : (Tryd.prog.info? 44).map (·.size) = some 8 := by kernel_rfl
abbrev ZEL : List Value := [.string ⟨#[]⟩, .slice none 0 0, .int .i64 0, .int .u64 0, .string ⟨#[]⟩, .int .i64 0, .slice none 0 0, .slice none 0 0]
/-- The cells of one entry in a list of them. -/
theorem en_at {w : World} {A : Option Addr} {L : List Ent} (h : RdK enE w A L) (i : Nat) (hi : i < L.length) : ∃ b, A = some ⟨b, 0, none⟩ ∧ ∀ j u, (enE L[i])[j]? = some u → w.cell? ⟨b, i * 8 + j, none⟩ = some u := by
  obtain ⟨b, e, hc⟩ := h (by omega)
  refine ⟨b, e, fun j u hj => hc _ _ ?_⟩
  have hj8 : j < 8 := by
    exact (List.getElem?_eq_some_iff.1 hj).1
  rw [flatK (S := 8) (fun _ => rfl) L i hi j hj8]
  exact hj
/-- The place of the first entry with a key. -/
def PlTo (L : List Ent) (key : ByteArray) (w : World) (e : Ending) (w' : World) : Prop :=
  Ch No w w' ∧ ((∃ (i : Nat) (h : i < L.length), e = .returned (.int .i64 i) ∧ L[i].s = key ∧ ∀ j (hj : j < L.length), j < i → L[j].s ≠ key) ∨ (e = .returned (.int .i64 (-1)) ∧ ∀ j (hj : j < L.length), L[j].s ≠ key))
set_option maxRecDepth 100000 in
set_option maxHeartbeats 2000000 in
theorem place_calls (L : List Ent) (A : Option Addr) (c : Nat) (key : ByteArray) (w : World) (hr : RdK enE w A L) (h1 : ∀ e ∈ L, ∀ q ∈ enE e, q.oneCell' = true) (hl : L.length ≤ 1000) :
    Calls Tryd.prog 13 #[.slice A L.length c, .string key] w (PlTo L key w) := by
  obtain ⟨M, hM⟩ : ∃ M, L.length = M := ⟨_, rfl⟩
  have HM := hid hM
  rw [hM] at hl ⊢
  clear hM
  go_enter Tryd.func13, Tryd.ntmps13
  go_wp2_with fail
  go_loopg [9] M (fun kk s9 wr => ∃ i : Nat, kk + i = M ∧ s9 = .int .i64 i ∧ Hid (∀ j (hj : j < L.length), j < i → L[j].s ≠ key) ∧ Ch No w wr)
  case atStart => exact ⟨0, by omega, rfl, hid (fun j _ h => by omega), Ch.refl _ _⟩
  case round =>
    obtain ⟨i, hki, rfl, HN, hch⟩ := hrel
    by_cases hi : i < M
    · have hiL : i < L.length := by rw [HM.out]; exact hi
      obtain ⟨b, rfl, hc⟩ := en_at (hr.keep0 hch) i hiL
      obtain ⟨⟨es, eA1, ec1, ekd, eu0, eu1, eu2, eu3, eu4, eA2, ec2, evd⟩, he⟩ : ∃ e, L[i] = e := ⟨_, rfl⟩
      have hone := h1 L[i] (List.getElem_mem hiL)
      rw [he] at hc hone
      have HES : Hid (L[i].s = es) := hid (by rw [he])
      have hi' : (i : Int) < M := by omega
      have hi0 : (0 : Int) ≤ i := by omega
      have a0 := hc 0 _ rfl
      have a1 := hc 1 _ rfl
      have a2 := hc 2 _ rfl
      have a3 := hc 3 _ rfl
      have a4 := hc 4 _ rfl
      have a5 := hc 5 _ rfl
      have a6 := hc 6 _ rfl
      have a7 := hc 7 _ rfl
      clear hc
      simp only [Nat.add_zero] at a0
      by_cases hk : es = key
      · subst hk
        go_wp2_with (first | ((with_reducible refine gate (.store 44 (.tmp 6) _) rfl ?_); refine wp_store rfl rfl 44 _ _ rfl wr.heap.size 0 44 ZEL (.agg #[.string es, .slice eA1 ekd.length ec1, eu0, eu1, eu2, eu3, eu4, .slice eA2 evd.length ec2]) rfl rfl (enE ⟨es, eA1, ec1, ekd, eu0, eu1, eu2, eu3, eu4, eA2, ec2, evd⟩) rfl size_en hone (Row.alloc wr ZEL 44) (by simp [enE]) ?_; intro w2 hrow2 hch2; have q0 := hrow2.cell 0 _ rfl; have q1 := hrow2.cell 1 _ rfl; have q2 := hrow2.cell 2 _ rfl; have q3 := hrow2.cell 3 _ rfl; have q4 := hrow2.cell 4 _ rfl; have q5 := hrow2.cell 5 _ rfl; have q6 := hrow2.cell 6 _ rfl; have q7 := hrow2.cell 7 _ rfl))
        go_ret
        exact ⟨(hch.alloc _).freshg hch2 hch.size, .inl ⟨i, hiL, rfl, HES.out, HN.out⟩⟩
      · have hk2 := bs_ne hk
        go_wp2_with (first | ((with_reducible refine gate (.store 44 (.tmp 6) _) rfl ?_); refine wp_store rfl rfl 44 _ _ rfl wr.heap.size 0 44 ZEL (.agg #[.string es, .slice eA1 ekd.length ec1, eu0, eu1, eu2, eu3, eu4, .slice eA2 evd.length ec2]) rfl rfl (enE ⟨es, eA1, ec1, ekd, eu0, eu1, eu2, eu3, eu4, eA2, ec2, evd⟩) rfl size_en hone (Row.alloc wr ZEL 44) (by simp [enE]) ?_; intro w2 hrow2 hch2; have q0 := hrow2.cell 0 _ rfl; have q1 := hrow2.cell 1 _ rfl; have q2 := hrow2.cell 2 _ rfl; have q3 := hrow2.cell 3 _ rfl; have q4 := hrow2.cell 4 _ rfl; have q5 := hrow2.cell 5 _ rfl; have q6 := hrow2.cell 6 _ rfl; have q7 := hrow2.cell 7 _ rfl))
        go_roundg (gk - 1)
        case measure => omega
        case rel =>
          refine ⟨i + 1, by omega, by go_num, hid (fun j hj h => ?_), (hch.alloc _).freshg hch2 hch.size⟩
          by_cases hji : j = i
          · subst hji; rw [HES.out]; exact hk
          · exact HN.out j hj (by omega)
    · obtain rfl : i = M := by omega
      go_wp2_with fail
      go_ret
      exact ⟨hch, .inr ⟨rfl, fun j hj => HN.out j hj (by rw [← HM.out]; exact hj)⟩⟩
set_option maxRecDepth 100000 in
set_option maxHeartbeats 4000000 in
theorem mapData_calls (pf : Nat) (L : List Ent) (A : Option Addr) (c : Nat) (w : World) (hF : Fm w pf) (hr : RdK enE w A L) (hA : ∀ ad, A = some ad → ad.block ≠ pf) (hE : ∀ e ∈ L, EnR pf w e ∧ EnP e) (hl : L.length ≤ 1000) :
    Calls Tryd.prog 24 #[.slice A L.length c, .pointer (some ⟨pf, 0, none⟩)] w (MdTo pf L w) := by
  obtain ⟨M, hM⟩ : ∃ M, L.length = M := ⟨_, rfl⟩
  have HM := hid hM
  have hfl := flatE_len L (fun e he => (hE e he).2)
  rw [hM] at hl hfl ⊢
  have hwm : IntKind.u32.wrap (M : Int) = (M : Int) := by simp [IntKind.wrap, IntKind.bits, IntKind.signed]; omega
  clear hM
  have HFL := hid hfl
  clear hfl
  go_enter Tryd.func24, Tryd.ntmps24
  go_wp2_with fail
  refine (head_9 pf M w hF (by omega) (by omega)).mono ?_
  rintro e w1 ⟨v1, hd, rfl, hhd, ho1, hf1, hF1, hch1⟩
  have hl1 := hhd.len (by simp)
  have hpl := hF.lt
  have HR : Hid (∀ wr, Ch (fun b => b = pf) w wr → RdK enE wr A L) := hid (fun wr h => hr.keep h hA)
  have HE1 : Hid (∀ e ∈ L, EnR pf w e) := hid (fun e he => (hE e he).1)
  have HLT : Hid (∀ e ∈ L, (∀ ad, e.A1 = some ad → ad.block < w.heap.size) ∧ ∀ ad, e.A2 = some ad → ad.block < w.heap.size) := hid (fun e he => ⟨(hE e he).1.l1, (hE e he).1.l2⟩)
  have HEP : Hid (∀ e ∈ L, EnP e) := hid (fun e he => (hE e he).2)
  have HHD := hid hhd
  clear hE hr hhd hA
  go_wp2_with fail
  go_loopg [5, 15] M (fun kk s5 s15 wr => ∃ (i : Nat) (o5 : List Int), kk + i = M ∧ s15 = .int .i64 i ∧ Hid (o5 = hd ++ flatE (L.take i)) ∧ o5.length ≤ 9 + i * 524400000 ∧ Ow 5 Go.Proofs.YtooifcdkpddlmaaDoor.u8 wr s5 o5 ∧ Fr w s5 ∧ Fm wr pf ∧ Ch (fun b => b = pf) w wr)
  case atStart => exact ⟨0, hd, by omega, rfl, hid (by simp [flatE]), by omega, ho1, hf1, hF1, hch1⟩
  case round =>
    obtain ⟨i, o5, hki, rfl, HO5, hol, HO, hfo, hFr, hch⟩ := hrel
    obtain ⟨A5, c5, rfl, _, _⟩ := HO.slice
    by_cases hi : i < M
    · have hiL : i < L.length := by rw [HM.out]; exact hi
      obtain ⟨b, hAb, hc⟩ := en_at (HR.out wr hch) i hiL
      subst hAb
      obtain ⟨⟨es, eA1, ec1, ekd, eu0, eu1, eu2, eu3, eu4, eA2, ec2, evd⟩, he⟩ : ∃ e, L[i] = e := ⟨_, rfl⟩
      have hmem := List.getElem_mem hiL
      rw [he] at hc hmem
      have hone := (HE1.out _ hmem).one
      have hR1 := ((HE1.out _ hmem).keep hch).r1
      have hR2 := ((HE1.out _ hmem).keep hch).r2
      have hP := HEP.out _ hmem
      have hap1 := (HLT.out _ hmem).1
      have hap2 := (HLT.out _ hmem).2
      have hk1 := hP.2.2.1
      have hk2 := hP.2.2.2
      simp only at hR1 hR2 hk1 hk2 hap1 hap2
      have HFT : Hid (flatE (L.take (i + 1)) = flatE (L.take i) ++ ekd ++ evd) := hid (by rw [flatE_take L i hiL, he])
      have hi' : (i : Int) < M := by omega
      have hi0 : (0 : Int) ≤ i := by omega
      have a0 := hc 0 _ rfl
      have a1 := hc 1 _ rfl
      have a2 := hc 2 _ rfl
      have a3 := hc 3 _ rfl
      have a4 := hc 4 _ rfl
      have a5 := hc 5 _ rfl
      have a6 := hc 6 _ rfl
      have a7 := hc 7 _ rfl
      clear hc hP hmem he
      simp only [Nat.add_zero] at a0
      have HAP1 := hid (And.intro hap1 hap2)
      clear hap1 hap2
      go_wp2_with (first | ((with_reducible refine gate (.store 44 (.tmp 7) _) rfl ?_); refine wp_store rfl rfl 44 _ _ rfl wr.heap.size 0 44 ZEL (.agg #[.string es, .slice eA1 ekd.length ec1, eu0, eu1, eu2, eu3, eu4, .slice eA2 evd.length ec2]) rfl rfl (enE ⟨es, eA1, ec1, ekd, eu0, eu1, eu2, eu3, eu4, eA2, ec2, evd⟩) rfl size_en hone (Row.alloc wr ZEL 44) (by simp [enE]) ?_; intro w2 hrow2 hch2; have q0 := hrow2.cell 0 _ rfl; have q1 := hrow2.cell 1 _ rfl; have q2 := hrow2.cell 2 _ rfl; have q3 := hrow2.cell 3 _ rfl; have q4 := hrow2.cell 4 _ rfl; have q5 := hrow2.cell 5 _ rfl; have q6 := hrow2.cell 6 _ rfl; have q7 := hrow2.cell 7 _ rfl))
      have Cw2 : Ch No wr w2 := ((Ch.refl No wr).alloc _).freshg hch2 (Nat.le_refl _)
      have hw2 := hch2.size
      simp only [World.size_alloc] at hw2
      have HO2 := (HO.keep0 Cw2).keep0 (Ch.refl No _).drew
      have hR1' := (hR1.keep0 Cw2).keep0 (Ch.refl No _).drew
      have hR2' := (hR2.keep0 Cw2).keep0 (Ch.refl No _).drew
      have e1 := (Ch.refl No w2).drew.cell0 q1
      have e7 := (Ch.refl No w2).drew.cell0 q7
      have NB5 : ∀ b, Blk (.slice A5 o5.length c5) b → b < wr.heap.size := HO.blk_lt
      have hol2 : o5.length ≤ 524400000009 := by omega
      go_region_held3 (fun wz => wz.cell? ⟨wr.heap.size, 1, none⟩ = some (.slice eA1 ekd.length ec1) ∧ wz.cell? ⟨wr.heap.size, 7, none⟩ = some (.slice eA2 evd.length ec2)) (first | exact ⟨e1, e7⟩ | exact ⟨m1, m7⟩ | exact ⟨n1, n7⟩) (first | (refine step_append rfl (.tmp 19) (.tmp 21) 24 5 (.int .u8 0) 1 rfl Tryd.underlying24 info_u8 rfl (by decide) Go.Proofs.YtooifcdkpddlmaaDoor.u8 (fun _ => rfl) (.slice A5 o5.length c5) o5 ekd _ _ _ rfl rfl rfl HO2 hR1' (by omega) ?_; intro v3 w3 ho3 hch3 hat3; have m1 := Ch.cell hch3 e1 (fun h => by have := NB5 _ h; simp only at this; omega); have m7 := Ch.cell hch3 e7 (fun h => by have := NB5 _ h; simp only at this; omega); have hR3 := hR2'.keep hch3 (fun ad h hb => by have := HAP1.out.2 ad h; have := hfo _ hb; omega); have hat3' : ∀ k, Blk v3 k → Blk (.slice A5 o5.length c5) k ∨ wr.heap.size < k := fun k h => (hat3 k h).imp_right (fun h => Nat.lt_of_lt_of_le (Nat.lt_of_succ_le hw2) h)) | (refine step_append rfl (.tmp 22) (.tmp 24) 24 5 (.int .u8 0) 1 rfl Tryd.underlying24 info_u8 rfl (by decide) Go.Proofs.YtooifcdkpddlmaaDoor.u8 (fun _ => rfl) v3 (o5 ++ ekd) evd _ _ _ rfl rfl rfl ho3 hR3 (by rw [List.length_append]; omega) ?_; intro v4 w4 ho4 hch4 hat4; have n1 := Ch.cell hch4 m1 (fun h => by rcases hat3' _ h with h | h; (have := NB5 _ h; simp only at this; omega); (simp only at h; omega)); have n7 := Ch.cell hch4 m7 (fun h => by rcases hat3' _ h with h | h; (have := NB5 _ h; simp only at this; omega); (simp only at h; omega))))
      all_goals
        have hsw := Nat.le_trans hch.size Cw2.size
        have F3 : Fr w v3 := hfo.step hsw hat3
        have hs4 : w.heap.size ≤ w3.heap.size := Nat.le_trans hsw hch3.size
        have C3 : Ch (fun b => b = pf) w w3 := Ch.trans (hch.then_no Cw2).drew hch3 (fun _ h => h) (fun b hb => .inr (hfo b hb))
        have C4 : Ch (fun b => b = pf) w w4 := C3.trans hch4 (fun _ h => h) (fun b hb => .inr (F3 b hb))
        have hF4 : Fm w4 pf := (((hFr.keep0 Cw2).keep0 (Ch.refl No _).drew).keep hch3 (fun h => by have := hfo _ h; omega)).keep hch4 (fun h => by have := F3 _ h; omega)
        go_wp2_with fail
        go_roundg (gk - 1)
        case measure => omega
        case rel => exact ⟨i + 1, o5 ++ ekd ++ evd, by omega, by go_num, hid (by rw [HFT.out, HO5.out]; simp only [List.append_assoc]), by rw [List.length_append, List.length_append]; omega, ho4, F3.step hs4 hat4, hF4, C4⟩
    · obtain rfl : i = M := by omega
      go_wp2_with fail
      go_ret
      have h5 := HO5.out
      rw [List.take_of_length_le (by rw [HM.out]; exact Nat.le_refl _)] at h5
      subst h5
      exact ⟨_, hd, rfl, by rw [HM.out]; exact HHD.out, HO, hfo, hFr, hch⟩

end Go.Proofs.YtooifcdkpddlmaaDoor
