/- The walk of the reference's reader of AMQP over an array of values of one form. No condition. -/
import Derived.Test.YtckjclkpgdhcoaaDoorAmpS
import Derived.RegionTactic
namespace Go.Proofs.YtckjclkpgdhcoaaDoor
set_option linter.unusedVariables false
set_option linter.unusedSimpArgs false
open Go.RowKit

theorem info_av : (Tryd.prog.info? 30).map (fun i => (i.zero, i.size, i.bytes)) = some (some (.agg #[.int .i64 0, .int .u64 0, .string ⟨#[]⟩, .slice none 0 0, .int .i64 0, .slice none 0 0]), 6, 88) := by kernel_rfl
section
variable {ops : Array Oper} {Q : Exit → Act → World → Prop} {o : Oper} {rest : List Oper} {a : Act} {w : World}
/-- append(v, one Value) at the operation. -/
theorem wp_appendV (hgd : o.guard = none) (s x : Operand) (ho : o.op = .call { callee := .builtin .append, args := #[s, x], argTypes := #[28, 28] })
    (v : Value) (n : Nat) (cells : List Value) (g c : Nat) (y : It) (hs : a.eval s = v) (hx : a.eval x = .slice (some ⟨g, 0, none⟩) 1 c)
    (HO : OwV w v n cells) (HR : Row w g 30 y.c) (hl : n ≤ 2147483648)
    (h : ∀ v1 w1, OwV w1 v1 (n + 1) (cells ++ y.c) → Ch (Blk v) w w1 → (∀ k, Blk v1 k → Blk v k ∨ w.heap.size ≤ k) → wpList Tryd.prog ops Q rest (a.put o.dst v1) w1) :
    wpList Tryd.prog ops Q (o :: rest) a w := by
  obtain ⟨i0, hi, hzz⟩ := Option.map_eq_some_iff.1 info_av
  simp only [Prod.mk.injEq] at hzz
  obtain ⟨hz0, hz1, hz2⟩ := hzz
  have hadd : ∀ j, (⟨g, 0, none⟩ : Addr).add j = ⟨g, j, none⟩ := fun j => by unfold Addr.add; split <;> simp_all
  obtain ⟨v1, w1, hr, h2, h3, _, h5⟩ := run_append_own_at (P := Tryd.prog) w 0 28 o.type 30 i0 _ 6 88 Tryd.underlying28 hi hz0 hz1 hz2 rfl (by omega) v n cells HO ⟨g, 0, none⟩ 1 c y.c rfl
    (fun j u hu => by rw [hadd]; exact HR.cell j u hu)
    (by intro u hu; simp only [It.c, avc, List.mem_cons, List.not_mem_nil, or_false] at hu; rcases hu with rfl | rfl | rfl | rfl | rfl | rfl <;> simp [Value.oneCell']) (by simp only [maxLen]; omega) (by omega) (Nat.zero_le _)
  refine wpList_plain hgd fun K hK => ?_
  unfold Oper.wp execOp
  simp only [ho, resolve, invoke, builtin, Sem.run_bind, Sem.run_pure, Result.andThen_ok, List.map_toArray, List.map_cons, List.map_nil, hs, hx, hr]
  refine hK _ _ (h v1 w1 h2 ⟨h3.os, h3.tape, h3.output, h3.size, fun k hk hn => h3.block k hk (fun he => hn he.symm)⟩ fun k hk => ?_)
  rcases h5 with h5 | h5
  · exact .inl (show v.ownBlock = some k from h5 ▸ hk)
  · have hk' : v1.ownBlock = some k := hk
    rw [h5] at hk'
    injection hk' with hk'
    exact .inr (by omega)
end
theorem Row.keepN {w w' : World} {n g : Nat} {e : TypeId} {cur : List Value} (h : Row w g e cur) (k : Ch No (w.drewN n) w') : Row w' g e cur := Row.keep0 (w := w.drewN n) h k
theorem size_slv : (Tryd.prog.info? 28).map (·.size) = some 1 := by kernel_rfl
/-- How the elements of an array are read, each of S bytes. -/
structure Elem (lv ec : Int) (S : Nat) (E : It → List Int) (q : List It) : Prop where
  len : ∀ x ∈ q, (E x).length = S
  byt : ∀ x ∈ q, Byt (E x)
  take : ∀ x ∈ q, ∀ (r : List Int) (A : Option Addr) (c : Nat) (w : World), Rd u8 w A (E x ++ r) → Byt (E x ++ r) → (E x ++ r).length ≤ c → Calls Tryd.prog 34 #[cons ec, .slice A (E x ++ r).length c, .int .i64 lv] w (AOk w A (E x ++ r) S c (av x.k x.n x.s (.slice none 0 0)))
theorem byt_flatE {E : It → List Int} {q : List It} (h : ∀ x ∈ q, Byt (E x)) : Byt (q.flatMap E) := fun y hy => by
  obtain ⟨x, hx, hy⟩ := List.mem_flatMap.1 hy
  exact h x hx y hy
set_option maxRecDepth 100000 in
set_option maxHeartbeats 4000000 in
theorem within_arr (lv ec : Int) (S : Nat) (E : It → List Int) (q : List It) (sz : Nat) (A : Option Addr) (c : Nat) (hd : List Int) (w : World) (hE : Elem (lv - 1) ec S E q) (hsz : hd.length = sz) (hs0 : 0 < sz) (hs8 : sz ≤ 8) (hcnt : beN hd = q.length) (hbd : Byt hd) (he0 : 0 < ec) (he1 : ec < 256) (hlv : 1 < lv) (hlv1 : lv < 1000) (hq : q.length ≤ 1048576) (hq0 : 0 < q.length) (hlen : (hd ++ ec :: q.flatMap E).length ≤ 1099511627776)
    (hr : Rd u8 w A (hd ++ ec :: q.flatMap E)) (hc : (hd ++ ec :: q.flatMap E).length ≤ c) :
    Calls Tryd.prog 47 #[av 23 0 ⟨#[]⟩ (.slice none 0 0), .int .u64 (hd ++ ec :: q.flatMap E).length, .int .i64 sz, .slice A (hd ++ ec :: q.flatMap E).length c, .int .i64 lv] w (AOkV w A (hd ++ ec :: q.flatMap E) (hd ++ ec :: q.flatMap E).length c 23 0 ⟨#[]⟩ q.length (q.flatMap It.c)) := by
  have hbE : Byt (q.flatMap E) := byt_flatE hE.byt
  obtain ⟨l, hl⟩ : ∃ l, l = hd ++ ec :: q.flatMap E := ⟨_, rfl⟩
  have hbl : Byt l := by rw [hl]; exact hbd.append (Byt.cons (by omega) he1 hbE)
  have hln : l.length = sz + 1 + (q.flatMap E).length := by rw [hl]; simp; omega
  have htk : beN (l.take sz) = q.length := by rw [hl, List.take_left' hsz, hcnt]
  have hdr : l.drop sz = ec :: q.flatMap E := by rw [hl, List.drop_left' hsz]
  rw [← hl] at hr hc hlen ⊢
  have HL := hid hl
  clear hl
  obtain ⟨hk1, hk1'⟩ := Cut.ahead_h 23 5 Tryd.underlying23 size_u8 A l.length c l.length l.length rfl .u64 (by omega)
  obtain ⟨A9, hk2, hk3, hcut9⟩ := Cut.ahead_l 23 5 Tryd.underlying23 size_u8 A l.length c l.length l.length rfl .u64 (Nat.le_refl _)
  have hll : sz < l.length := by omega
  have g1 : decide ((l.length : Int) < sz) = false := decide_eq_false (by omega)
  have hlt : ∀ ad, A = some ad → ad.block < w.heap.size := fun ad had => by
    obtain ⟨b, o, e, hcell⟩ := hr.at_ 0 (by omega)
    rw [e] at had
    injection had with had
    subst had
    exact World.block_lt_of_cell? w _ (hcell)
  have HLN := hid hln
  have HTK := hid htk
  have HDR := hid hdr
  have HBL := hid hbl
  have HLT := hid hlt
  have HE := hid hE
  have HHD := hid hsz
  clear hln htk hdr hbl hlt hE hsz hbE hcnt hbd
  unfold av
  have hR5 : Row (((w.alloc (.cells #[.int .i64 23, .int .u64 0, .string ⟨#[]⟩, .slice none 0 0, .int .i64 0, .slice none 0 0] 30)).alloc AZ).alloc AZ) w.heap.size 30 (avc 23 0 ⟨#[]⟩ (.slice none 0 0)) := ((Row.alloc w _ _).keep0 ((Ch.refl No _).alloc _)).keep0 ((Ch.refl No _).alloc _)
  have hR10 : Row (((w.alloc (.cells #[.int .i64 23, .int .u64 0, .string ⟨#[]⟩, .slice none 0 0, .int .i64 0, .slice none 0 0] 30)).alloc AZ).alloc AZ) (w.heap.size + 1) 30 AZL := by
    have h := (Row.alloc (w.alloc (.cells #[.int .i64 23, .int .u64 0, .string ⟨#[]⟩, .slice none 0 0, .int .i64 0, .slice none 0 0] 30)) AZL 30).keep0 ((Ch.refl No _).alloc AZ)
    simpa [avc] using h
  obtain ⟨R, hRe⟩ : ∃ R, R = q.flatMap E := ⟨_, rfl⟩
  have HRE := hid hRe
  have hrl : l.length - sz = R.length + 1 := by have h1 := HLN.out; rw [← hRe] at h1; omega
  have HRL := hid hrl
  have hq' : ((q.length : Int) == 0) = false := beq_eq_false_iff_ne.2 (by omega)
  have hq2 : decide ((1048576 : Int) < q.length) = false := decide_eq_false (by omega)
  clear hRe hrl
  go_enter Tryd.func47, Tryd.ntmps47
  go_wp2_with fail
  go_quiet (fail)
  go_wp2_with fail
  refine (takeBig_calls A c l sz _ (hr.keep0 (by repeat (first | exact Ch.refl _ _ | assumption | apply Ch.alloc | apply Ch.drew | apply Ch.drewN))) HBL.out hc hs8).mono ?_
  rintro e w1 ⟨HC1, ⟨hx, _⟩ | ⟨_, A1, rfl, hcut1⟩⟩
  · exact absurd hx (by omega)
  rw [HTK.out, HRL.out]
  have C01 : Ch No w w1 := Ch.no_no (by repeat (first | exact Ch.refl _ _ | assumption | apply Ch.alloc | apply Ch.drew | apply Ch.drewN)) HC1

  have rd1 := hcut1.drop (hr.keep0 C01) rfl hc
  rw [HDR.out, ← HRE.out] at rd1
  obtain ⟨bk, off, rfl, _⟩ := rd1.at_ 0 (by simp)
  have HRD1 := hid rd1
  clear rd1
  have m0 := (hR5.keepN HC1).cell 0 _ rfl
  have m1 := ((hR5.keepN HC1).keep0 ((Ch.refl No w1).alloc (.cells #[.slice none 0 0, .int .i64 0] 78))).cell 0 _ rfl
  go_wp2_with fail
  refine (takeCons bk off (c - sz) ec R (lv - 1) _ (HRD1.out.keep0 ((Ch.refl No w1).alloc _)) he0 he1 (by have := HRL.out; omega) (by omega)).mono ?_
  rintro e w2 ⟨HC2, A2, rfl, hcut2⟩
  have HCUT2 := hid hcut2
  clear hcut2
  go_wp2_with ((with_reducible refine gate (.store 78 _ _) rfl ?_); refine wp_store rfl rfl 78 _ _ rfl w1.heap.size 0 78 [.slice none 0 0, .int .i64 0] (cons ec) rfl rfl [.slice none 0 0, .int .i64 ec] rfl size_cons (by simp [Value.oneCell']) ((Row.alloc w1 _ _).keep0 HC2) (by simp) ?_; intro w3 hrow3 hch3; have m3 := (((hR5.keepN HC1).keep0 (((Ch.refl No w1).alloc _).no_no HC2)).keep hch3 (fun h => by have h' : w.heap.size = w1.heap.size := h; have := hR5.lt; have h9 : (w.heap.size : Nat) < w1.heap.size := (hR5.keepN HC1).lt; omega)).cell 0 _ rfl)
  have s0 := hR10.lt
  have s1 : w.heap.size + 1 < w1.heap.size := (hR10.keepN HC1).lt
  have C02 : Ch No w w2 := (C01.alloc _).no_no HC2
  have C03 : Ch No w w3 := C02.freshg hch3 (by omega)
  have P5 : Row w3 w.heap.size 30 (avc 23 0 ⟨#[]⟩ (.slice none 0 0)) := ((hR5.keepN HC1).keep0 (((Ch.refl No w1).alloc _).no_no HC2)).keep hch3 (fun h => by have h' : w.heap.size = w1.heap.size := h; omega)
  have P10 : Row w3 (w.heap.size + 1) 30 AZL := ((hR10.keepN HC1).keep0 (((Ch.refl No w1).alloc _).no_no HC2)).keep hch3 (fun h => by have h' : w.heap.size + 1 = w1.heap.size := h; omega)
  have P18 : Row w3 w1.heap.size 78 [.slice none 0 0, .int .i64 ec] := by simpa using hrow3
  have hbk : bk < w.heap.size := by
    obtain ⟨ad0, h1, h2⟩ := hcut1.same _ rfl
    have h3 := HLT.out ad0 h1
    have h4 : bk = ad0.block := h2
    omega
  have rd3 : Rd u8 w3 A2 R := by
    have h := HCUT2.out.drop (HRD1.out.keep0 (((Ch.refl No w1).alloc _).no_no HC2)) rfl (by have := HRL.out; simp only [List.length_cons]; omega)
    exact h.keep hch3 (fun ad had h9 => by
      obtain ⟨ad0, h1, h2⟩ := HCUT2.out.same _ had
      injection h1 with h1
      subst h1
      have h3 : ad.block = w1.heap.size := h9
      have h4 : ad.block = bk := h2
      omega)
  have ha3 : ∀ ad, A2 = some ad → ad.block < w.heap.size := fun ad had => by
    obtain ⟨ad0, h1, h2⟩ := HCUT2.out.same _ had
    injection h1 with h1
    subst h1
    have h4 : ad.block = bk := h2
    omega
  have b18 := P18.lt
  have hc2 : R.length ≤ c - sz - 1 := by have := HRL.out; omega
  have HP10 := hid P10
  have HP18 := hid P18
  have HC03 := hid C03
  have HS1 := hid s1
  have HB18 := hid b18
  have HCUT9 := hid hcut9
  clear hR5 hR10 HC1 HC2 hch3 hrow3 m0 m1 m3 P10 P18 C01 C02 C03 hcut1 HRD1 hr hk1 hk1' hk2 hk3 hcut9
  have hc2' := HRE.out ▸ hc2
  have rd3' := HRE.out ▸ rd3
  go_loopg [14, 22] q.length (fun kk s14 s22 wr => ∃ (i : Nat) (A' : Option Addr) (c' : Nat) (kv : Value), kk + i = q.length ∧ s22 = .int .u64 i ∧ s14 = .slice A' ((q.drop i).flatMap E).length c' ∧ ((q.drop i).flatMap E).length ≤ c' ∧ Rd Go.Proofs.YtckjclkpgdhcoaaDoor.u8 wr A' ((q.drop i).flatMap E) ∧ (∀ ad, A' = some ad → ad.block < w.heap.size) ∧ Row wr w.heap.size 30 (avc 23 0 ⟨#[]⟩ kv) ∧ OwV wr kv i ((q.take i).flatMap It.c) ∧ (∀ b, Blk kv b → w3.heap.size ≤ b) ∧ Ch (fun b => b = w.heap.size) w3 wr)
  case atStart => exact ⟨0, A2, c - sz - 1, _, by omega, rfl, by rw [HRE.out]; rfl, hc2', rd3', ha3, P5, OwV.nil _, fun b hb => absurd hb Blk_nil, Ch.refl _ _⟩
  case round =>
    obtain ⟨i, A', c', kv, hki, rfl, rfl, hc', hr', hA', hR, hO, hF, hch⟩ := hrel
    clear rd3 rd3' ha3 hc2 hc2' P5
    by_cases hi : i < q.length
    · have hx := List.getElem_mem hi
      have HT := hid (List.take_succ_eq_append_getElem hi)
      have hbx := HE.out.byt _ hx
      have hlx := HE.out.len _ hx
      have htx := HE.out.take _ hx
      have hbr : Byt ((q.drop (i + 1)).flatMap E) := byt_flatE fun y hy => HE.out.byt y (List.mem_of_mem_drop hy)
      rw [List.drop_eq_getElem_cons hi, List.flatMap_cons] at hr' hc' ⊢
      obtain ⟨rest, hre⟩ : ∃ r, r = (q.drop (i + 1)).flatMap E := ⟨_, rfl⟩
      rw [← hre] at hr' hc' hbr ⊢
      have HRT := hid hre
      clear hre
      generalize q[i] = x at hr' hc' hx HT hbx hlx htx ⊢
      have hi' : (i : Int) < q.length := by omega
      have hi0 : (0 : Int) ≤ i := by omega
      obtain ⟨n0, n1, n2, n3, n4, n5⟩ := av_cells hR
      have hR' := hR.keep0 ((Ch.refl No wr).alloc AZ)
      have n0' := hR'.cell 0 _ rfl
      have R18 := HP18.out.keep hch (fun h => by have := HS1.out; have h' : w1.heap.size = w.heap.size := h; omega)
      have R18' := R18.keep0 ((Ch.refl No wr).alloc AZ)
      have p0 := R18'.cell 0 _ rfl
      have p1 := R18'.cell 1 _ rfl
      have hlen4 : (E x ++ rest).length - S = rest.length := by rw [List.length_append, hlx]; omega
      have htk := htx rest A' c' (wr.alloc AZ) (hr'.keep0 ((Ch.refl No wr).alloc AZ)) (hbx.append hbr) hc'
      have HTK := hid htk
      have HL4 := hid hlen4
      have hcx : rest.length ≤ c' - S := by rw [List.length_append, hlx] at hc'; omega
      have HCX := hid hcx
      clear htx htk hlen4 hcx hbx hbr
      obtain ⟨m, hm⟩ : ∃ m, (E x ++ rest).length = m := ⟨_, rfl⟩
      have HM := hid hm
      have HCL := hid hc'
      rw [hm] at HTK ⊢
      clear hm hc'
      go_wp2_with fail
      refine HTK.out.mono ?_
      rintro e w5 ⟨HC5, A4, rfl, hcut4⟩
      rw [HL4.out]
      have HX5 := hid HC5
      have HCUT4 := hid hcut4
      have C5 : Ch No wr w5 := ((Ch.refl No wr).alloc _).no_no HC5
      have b0 : w.heap.size < wr.heap.size := hR.lt
      have HB0 := hid b0
      clear hcut4 HC5 p0 p1 n0' n0 n1 n2 n3 n4 n5
      have Rk := (Row.alloc wr AZL 30).keep0 HX5.out
      have R5 := hR.keep0 C5
      go_wp2_with (first | ((with_reducible refine gate (.store 30 _ _) rfl ?_); refine wp_store rfl rfl 30 _ _ rfl wr.heap.size 0 30 AZL (av x.k x.n x.s (.slice none 0 0)) rfl rfl x.c rfl size_av (by simp [It.c, avc, Value.oneCell']) Rk (by simp [It.c, avc]) ?_; intro w6 hrow6 hch6; have Rx : Row w6 wr.heap.size 30 (avc x.k x.n x.s (.slice none 0 0)) := hrow6; have R6 := R5.keep hch6 (fun h => by have := HB0.out; have h' : w.heap.size = wr.heap.size := h; omega); obtain ⟨z0, z1, z2, z3, z4, z5⟩ := av_cells R6; obtain ⟨y0, y1, y2, y3, y4, y5⟩ := av_cells Rx; have C6 : Ch No wr w6 := C5.freshg hch6 (Nat.le_refl _)) | ((with_reducible refine gate (.call { callee := .builtin .append, args := #[.tmp _, .tmp _], argTypes := #[28, 28] }) rfl ?_); refine wp_appendV rfl _ _ rfl kv i _ w6.heap.size 1 x rfl rfl (hO.keep0 (C6.alloc _)) (Row.alloc w6 x.c _) (by omega) ?_; intro v1 w7 ho7 hch7 hat7; have R7 := (R6.keep0 ((Ch.refl No w6).alloc _)).keep hch7 (fun h => by have := hF _ h; have := HB18.out; have := HS1.out; omega)) | ((with_reducible refine gate (.store 28 _ _) rfl ?_); refine wp_store rfl rfl 28 _ _ rfl w.heap.size 3 30 (avc 23 0 ⟨#[]⟩ kv) v1 rfl rfl [v1] (by obtain ⟨A', c', rfl⟩ := ho7.slice; rfl) size_slv (by obtain ⟨A', c', rfl⟩ := ho7.slice; simp [Value.oneCell']) R7 (by simp [avc]) ?_; intro w8 hrow8 hch8))

      go_roundg (gk - 1)
      case measure => omega
      case rel =>
        have hre := HRT.out
        have hs3 := hch.size
        have hs6 := C6.size
        have hs6' : w6.heap.size < (w6.alloc (.cells x.c.toArray 30)).heap.size := by simp
        have hb0 := HB0.out
        have hb18 := HB18.out
        have hs1 := HS1.out
        have hfr : ∀ b, Blk v1 b → w3.heap.size ≤ b := fun b hb => by
          rcases hat7 b hb with h | h
          · exact hF b h
          · simp only [World.size_alloc] at h
            omega
        have C8 : Ch (fun b => b = w.heap.size ∨ Blk kv b) wr w8 := ((Ch.of_no (C6.alloc _)).trans hch7 (fun _ h => h) (fun x hx => .inl (.inr hx))).trans hch8 (fun _ h => h) (fun x hx => .inl (.inl hx))
        have rd8 := HCUT4.out.drop hr' rfl HCL.out
        rw [List.drop_left' hlx] at rd8
        have ha4 : ∀ ad, A4 = some ad → ad.block < w.heap.size := fun ad had => by
          obtain ⟨ad0, h1, h2⟩ := HCUT4.out.same _ had
          have := hA' ad0 h1
          omega
        refine ⟨i + 1, A4, c' - S, v1, by omega, by go_num, by rw [hre], by rw [← hre]; exact HCX.out, ?_, ha4, hrow8, ?_, hfr, ?_⟩
        · rw [← hre]
          exact rd8.keep C8 (fun ad had h => by
            have h1 := ha4 ad had
            rcases h with h | h
            · omega
            · have := hF _ h
              omega)
        · rw [HT.out, List.flatMap_append]
          have h := ho7.keep hch8 (fun b hb h => by have h9 : b = w.heap.size := h; have := hfr b hb; omega)
          simpa using h
        · exact (((hch.then_no C6).alloc _).trans hch7 (fun _ h => h) (fun x hx => .inr (hF x hx))).trans hch8 (fun _ h => h) (fun x hx => .inl hx)
    · obtain rfl : i = q.length := by omega
      rw [List.drop_length] at hc' ⊢
      rw [List.take_length] at hO
      have R10 := HP10.out.keep hch (fun h => by have h' : w.heap.size + 1 = w.heap.size := h; omega)
      obtain ⟨z0, z1, z2, z3, z4, z5⟩ := av_cells hR
      go_wp2_with ((with_reducible refine gate (.store 30 _ _) rfl ?_); refine wp_store rfl rfl 30 _ _ rfl (w.heap.size + 1) 0 30 AZL (avo 23 0 ⟨#[]⟩ kv 0) rfl rfl (avoc 23 0 ⟨#[]⟩ kv 0) (av_cells_eq hO 23 0 ⟨#[]⟩ 0) size_av (one_kids hO 23 0 ⟨#[]⟩ 0) R10 (by simp [avc, avoc]) ?_; intro w8 hrow8 hch8)

      obtain ⟨d0, d1, d2, d3, d4, d5⟩ := avo_cells (show Row w8 (w.heap.size + 1) 30 (avoc 23 0 ⟨#[]⟩ kv 0) from hrow8)
      have hb18 := HB18.out
      have hs1 := HS1.out
      refine bodyPost_ret (v := .tuple #[avo 23 0 ⟨#[]⟩ kv 0, .slice A9 (l.length - l.length) (c - l.length), .bool true]) ?_ rfl ?_
      · simp [results, Tryd.results47, go_sem, avo, d0, d1, d2, d3, d4, d5]
      refine ⟨(HC03.out.trans hch (fun _ h => h) (fun x hx => .inr (by have h' : x = w.heap.size := hx; omega))).freshg hch8 (by omega), A9, kv, 0, rfl, HCUT9.out, hO.keep hch8 (fun b hb h => ?_), fun b hb => ?_⟩
      · have h' : b = w.heap.size + 1 := h
        have := hF b hb
        omega
      · have := hF b hb
        omega
end Go.Proofs.YtckjclkpgdhcoaaDoor
