/- The walks of the reference's reader of AMQP over an array: one without values; what stands ahead of it. No condition. -/
import Derived.Test.YtckjclkpgdhcoaaDoorAmpK
import Derived.Test.YtckjclkpgdhcoaaDoorAmpL
namespace Go.Proofs.YtckjclkpgdhcoaaDoor
set_option linter.unusedVariables false
set_option linter.unusedSimpArgs false
open Go.RowKit

theorem size_int : (Tryd.prog.info? 3).map (·.size) = some 1 := by kernel_rfl
set_option maxRecDepth 100000 in
set_option maxHeartbeats 4000000 in
theorem within_nil (lv ec kk ss : Int) (sz : Nat) (A : Option Addr) (c : Nat) (hd : List Int) (w : World) (hkind : ∀ w, Calls Tryd.prog 45 #[.int .i64 ec] w fun e w' => e = .returned (.tuple #[.int .i64 kk, .int .i64 ss, .bool true]) ∧ Ch No w w') (hsz : hd.length = sz) (hs0 : 0 < sz) (hs8 : sz ≤ 8) (hcnt : beN hd = 0) (hbd : Byt hd) (he0 : 0 < ec) (he1 : ec < 256) (hlv : 1 < lv) (hlv1 : lv < 1000) (hlen : (hd ++ [ec]).length ≤ 1099511627776)
    (hr : Rd u8 w A (hd ++ [ec])) (hc : (hd ++ [ec]).length ≤ c) :
    Calls Tryd.prog 47 #[av 23 0 ⟨#[]⟩ (.slice none 0 0), .int .u64 (hd ++ [ec]).length, .int .i64 sz, .slice A (hd ++ [ec]).length c, .int .i64 lv] w (AOkV w A (hd ++ [ec]) (hd ++ [ec]).length c 23 0 ⟨#[]⟩ 0 []) := by
  obtain ⟨l, hl⟩ : ∃ l, l = hd ++ [ec] := ⟨_, rfl⟩
  have hbl : Byt l := by rw [hl]; exact hbd.append (Byt.nil.cons (by omega) he1)
  have hln : l.length = sz + 1 := by rw [hl]; simp; omega
  have htk : beN (l.take sz) = 0 := by rw [hl, List.take_left' hsz, hcnt]
  have hdr : l.drop sz = [ec] := by rw [hl, List.drop_left' hsz]
  rw [← hl] at hr hc hlen ⊢
  have HL := hid hl
  clear hl
  obtain ⟨hk1, hk1'⟩ := Cut.ahead_h 23 5 Tryd.underlying23 size_u8 A l.length c l.length l.length rfl .u64 (by omega)
  obtain ⟨A9, hk2, hk3, hcut9⟩ := Cut.ahead_l 23 5 Tryd.underlying23 size_u8 A l.length c l.length l.length rfl .u64 (Nat.le_refl _)
  have hll : sz < l.length := by omega
  have g1 : decide ((l.length : Int) < sz) = false := decide_eq_false (by omega)
  have hlt : ∀ ad, A = some ad → ad.block < w.heap.size := fun ad had => by
    obtain ⟨b, o, e, hcell⟩ := hr.at_ 0 (by omega)
    rw [e] at had
    injection had with had
    subst had
    exact World.block_lt_of_cell? w _ (hcell)
  have HLN := hid hln
  have HTK := hid htk
  have HDR := hid hdr
  have HBL := hid hbl
  have HLT := hid hlt
  have HHD := hid hsz
  clear hln htk hdr hbl hlt hsz hcnt hbd
  unfold av
  have hR5 : Row (((w.alloc (.cells #[.int .i64 23, .int .u64 0, .string ⟨#[]⟩, .slice none 0 0, .int .i64 0, .slice none 0 0] 30)).alloc AZ).alloc AZ) w.heap.size 30 (avc 23 0 ⟨#[]⟩ (.slice none 0 0)) := ((Row.alloc w _ _).keep0 ((Ch.refl No _).alloc _)).keep0 ((Ch.refl No _).alloc _)
  have hR10 : Row (((w.alloc (.cells #[.int .i64 23, .int .u64 0, .string ⟨#[]⟩, .slice none 0 0, .int .i64 0, .slice none 0 0] 30)).alloc AZ).alloc AZ) (w.heap.size + 1) 30 AZL := by
    have h := (Row.alloc (w.alloc (.cells #[.int .i64 23, .int .u64 0, .string ⟨#[]⟩, .slice none 0 0, .int .i64 0, .slice none 0 0] 30)) AZL 30).keep0 ((Ch.refl No _).alloc AZ)
    simpa [avc] using h
  have hrl : l.length - sz = 0 + 1 := by have h1 := HLN.out; omega
  have HRL := hid hrl
  clear hrl
  go_enter Tryd.func47, Tryd.ntmps47
  go_wp2_with fail
  go_quiet (fail)
  go_wp2_with fail
  refine (takeBig_calls A c l sz _ (hr.keep0 (by repeat (first | exact Ch.refl _ _ | assumption | apply Ch.alloc | apply Ch.drew | apply Ch.drewN))) HBL.out hc hs8).mono ?_
  rintro e w1 ⟨HC1, ⟨hx, _⟩ | ⟨_, A1, rfl, hcut1⟩⟩
  · exact absurd hx (by omega)
  rw [HTK.out, HRL.out]
  have C01 : Ch No w w1 := Ch.no_no (by repeat (first | exact Ch.refl _ _ | assumption | apply Ch.alloc | apply Ch.drew | apply Ch.drewN)) HC1

  have rd1 := hcut1.drop (hr.keep0 C01) rfl hc
  rw [HDR.out] at rd1
  obtain ⟨bk, off, rfl, _⟩ := rd1.at_ 0 (by simp)
  have HRD1 := hid rd1
  clear rd1
  have m0 := (hR5.keepN HC1).cell 0 _ rfl
  have m1 := ((hR5.keepN HC1).keep0 ((Ch.refl No w1).alloc (.cells #[.slice none 0 0, .int .i64 0] 78))).cell 0 _ rfl
  go_wp2_with fail
  refine (takeCons bk off (c - sz) ec [] (lv - 1) _ (HRD1.out.keep0 ((Ch.refl No w1).alloc _)) he0 he1 (by have := HRL.out; simp only [List.length_nil]; omega) (by omega)).mono ?_
  rintro e w2 ⟨HC2, A2, rfl, hcut2⟩
  have HCUT2 := hid hcut2
  clear hcut2
  go_wp2_with ((with_reducible refine gate (.store 78 _ _) rfl ?_); refine wp_store rfl rfl 78 _ _ rfl w1.heap.size 0 78 [.slice none 0 0, .int .i64 0] (cons ec) rfl rfl [.slice none 0 0, .int .i64 ec] rfl size_cons (by simp [Value.oneCell']) ((Row.alloc w1 _ _).keep0 HC2) (by simp) ?_; intro w3 hrow3 hch3; have m3 := (((hR5.keepN HC1).keep0 (((Ch.refl No w1).alloc _).no_no HC2)).keep hch3 (fun h => by have h' : w.heap.size = w1.heap.size := h; have := hR5.lt; have h9 : (w.heap.size : Nat) < w1.heap.size := (hR5.keepN HC1).lt; omega)).cell 0 _ rfl; have p1 : w3.cell? ⟨w1.heap.size, 1, none⟩ = some (.int .i64 ec) := (show Row w3 w1.heap.size 78 [.slice none 0 0, .int .i64 ec] from by simpa using hrow3).cell 1 _ rfl)
  have s0 := hR10.lt
  have s1 : w.heap.size + 1 < w1.heap.size := (hR10.keepN HC1).lt
  have C02 : Ch No w w2 := (C01.alloc _).no_no HC2
  have C03 : Ch No w w3 := C02.freshg hch3 (by omega)
  have P5 : Row w3 w.heap.size 30 (avc 23 0 ⟨#[]⟩ (.slice none 0 0)) := ((hR5.keepN HC1).keep0 (((Ch.refl No w1).alloc _).no_no HC2)).keep hch3 (fun h => by have h' : w.heap.size = w1.heap.size := h; omega)
  have P10 : Row w3 (w.heap.size + 1) 30 AZL := ((hR10.keepN HC1).keep0 (((Ch.refl No w1).alloc _).no_no HC2)).keep hch3 (fun h => by have h' : w.heap.size + 1 = w1.heap.size := h; omega)
  have P18 : Row w3 w1.heap.size 78 [.slice none 0 0, .int .i64 ec] := by simpa using hrow3
  refine (hkind _).mono ?_
  rintro e w4 ⟨rfl, HC4⟩
  go_wp2_with (first | ((with_reducible refine gate (.store 3 _ _) rfl ?_); refine wp_store rfl rfl 3 _ _ rfl w.heap.size 4 30 (avc 23 0 ⟨#[]⟩ (.slice none 0 0)) (.int .i64 kk) rfl rfl [.int .i64 kk] rfl size_int (by simp [Value.oneCell']) (P5.keep0 HC4) (by simp [avc]) ?_; intro w5 hrow5 hch5; obtain ⟨z0, z1, z2, z3, z4, z5⟩ := avo_cells (show Row w5 w.heap.size 30 (avoc 23 0 ⟨#[]⟩ (.slice none 0 0) kk) from hrow5)) | ((with_reducible refine gate (.store 30 _ _) rfl ?_); refine wp_store rfl rfl 30 _ _ rfl (w.heap.size + 1) 0 30 AZL (avo 23 0 ⟨#[]⟩ (.slice none 0 0) kk) rfl rfl (avoc 23 0 ⟨#[]⟩ (.slice none 0 0) kk) rfl size_av (by simp [avoc, Value.oneCell']) ((P10.keep0 HC4).keep hch5 (fun h => by have h' : w.heap.size + 1 = w.heap.size := h; omega)) (by simp [avc, avoc]) ?_; intro w8 hrow8 hch8))

  obtain ⟨d0, d1, d2, d3, d4, d5⟩ := avo_cells (show Row w8 (w.heap.size + 1) 30 (avoc 23 0 ⟨#[]⟩ (.slice none 0 0) kk) from hrow8)
  refine bodyPost_ret (v := .tuple #[avo 23 0 ⟨#[]⟩ (.slice none 0 0) kk, .slice A9 (l.length - l.length) (c - l.length), .bool true]) ?_ rfl ?_
  · simp [results, Tryd.results47, go_sem, avo, d0, d1, d2, d3, d4, d5]
  exact ⟨((C03.no_no HC4).freshg hch5 (Nat.le_refl _)).freshg hch8 (by omega), A9, _, kk, rfl, hcut9, OwV.nil _, Fr.nil _ _ _⟩
set_option maxRecDepth 100000 in
set_option maxHeartbeats 2000000 in
theorem takeArr_224 (A : Option Addr) (c m : Nat) (lb l : List Int) (lv : Int) (cells : List Value) (w : World) (hlb : lb.length = 1) (hbl : beN lb = l.length) (hb : Byt (lb ++ l)) (hl : l.length ≤ 1099511627776) (hr : Rd u8 w A (lb ++ l)) (hc : (lb ++ l).length ≤ c)
    (hw : ∀ (A' : Option Addr) (c' : Nat) (w' : World), Rd u8 w' A' l → l.length ≤ c' → Calls Tryd.prog 47 #[av 23 0 ⟨#[]⟩ (.slice none 0 0), .int .u64 l.length, .int .i64 (1 : Nat), .slice A' l.length c', .int .i64 lv] w' (AOkV w' A' l l.length c' 23 0 ⟨#[]⟩ m cells)) :
    Calls Tryd.prog 34 #[cons 224, .slice A (lb ++ l).length c, .int .i64 lv] w (AOkV w A (lb ++ l) (lb ++ l).length c 23 0 ⟨#[]⟩ m cells) := by
  unfold cons
  obtain ⟨L, hL⟩ : ∃ L, L = lb ++ l := ⟨_, rfl⟩
  have hLl : L.length = 1 + l.length := by rw [hL, List.length_append, hlb]
  have htk : beN (L.take 1) = l.length := by rw [hL, List.take_left' hlb, hbl]
  have hdr : L.drop 1 = l := by rw [hL, List.drop_left' hlb]
  rw [← hL] at hr hc hb ⊢
  have HLL := hid hLl
  have HTK := hid htk
  have HDR := hid hdr
  have HW := hid hw
  clear hLl htk hdr hw hL hbl hlb
  have hR0 : Row (((w.alloc (.cells #[.slice none 0 0, .int .i64 224] 78)).alloc AZ).alloc AZ) (w.heap.size + 1) 30 AZL := by
    have h := (Row.alloc (w.alloc (.cells #[.slice none 0 0, .int .i64 224] 78)) AZL 30).keep0 ((Ch.refl No _).alloc AZ)
    simpa [avc] using h
  have hB0 : Row (((w.alloc (.cells #[.slice none 0 0, .int .i64 224] 78)).alloc AZ).alloc AZ) w.heap.size 78 [.slice none 0 0, .int .i64 224] := ((Row.alloc w _ _).keep0 ((Ch.refl No _).alloc _)).keep0 ((Ch.refl No _).alloc _)
  go_enter Tryd.func34, Tryd.ntmps34
  go_wp2_with (go_at_call 45; refine (kindOf_224 _).mono ?_; rintro e w1 ⟨rfl, HC1⟩; have k0 : w1.cell? ⟨w.heap.size, 0, none⟩ = some (.slice none 0 0) := (hB0.keep0 HC1).cell 0 _ rfl; have k1 : w1.cell? ⟨w.heap.size, 1, none⟩ = some (.int .i64 224) := (hB0.keep0 HC1).cell 1 _ rfl)
  have C01 : Ch No w w1 := Ch.no_no (by repeat (first | exact Ch.refl _ _ | assumption | apply Ch.alloc | apply Ch.drew | apply Ch.drewN)) HC1
  refine (takeBig_calls A c L 1 _ (hr.keep0 (C01.alloc _)) hb hc (by omega)).mono ?_
  rintro e w2 ⟨HC2, ⟨hx, _⟩ | ⟨_, A2, rfl, hcut⟩⟩
  · exact absurd hx (by have := HLL.out; omega)
  rw [HTK.out, show L.length - 1 = l.length from by have := HLL.out; omega]
  have C02 : Ch No w w2 := (C01.alloc _).no_no HC2
  have hrow2 : Row w2 w1.heap.size 30 (avc 23 0 ⟨#[]⟩ (.slice none 0 0)) := (Row.alloc w1 (avc 23 0 ⟨#[]⟩ (.slice none 0 0)) 30).keep0 HC2
  obtain ⟨c0, c1, c2, c3, c4, c5⟩ := av_cells hrow2
  have k2 : w2.cell? ⟨w.heap.size, 1, none⟩ = some (.int .i64 224) := (((hB0.keep0 HC1).keep0 ((Ch.refl No _).alloc _)).keep0 HC2).cell 1 _ rfl
  have rd2 := hcut.drop (hr.keep0 C02) rfl hc
  rw [HDR.out] at rd2
  have P6 := ((hR0.keep0 HC1).keep0 ((Ch.refl No w1).alloc (.cells (avc 23 0 ⟨#[]⟩ (.slice none 0 0)).toArray 30))).keep0 HC2
  have s1 := hR0.lt
  have s2 := (hR0.keep0 HC1).lt
  have hc2 : l.length ≤ c - 1 := by have := HLL.out; omega
  go_wp2_with fail
  refine (HW.out A2 (c - 1) w2 rd2 hc2).mono ?_
  rintro e w3 ⟨HC3, A3, kids, of, rfl, hcut3, how, hfr⟩
  unfold avo
  go_wp2_with ((with_reducible refine gate (.store 30 _ _) rfl ?_); refine wp_store rfl rfl 30 _ _ rfl (w.heap.size + 1) 0 30 AZL (avo 23 0 ⟨#[]⟩ kids of) rfl rfl (avoc 23 0 ⟨#[]⟩ kids of) (av_cells_eq how 23 0 ⟨#[]⟩ of) size_av (one_kids how 23 0 ⟨#[]⟩ of) (P6.keep0 HC3) (by simp [avc, avoc]) ?_; intro w4 hrow4 hch4)
  obtain ⟨d0, d1, d2, d3, d4, d5⟩ := avo_cells (show Row w4 (w.heap.size + 1) 30 (avoc 23 0 ⟨#[]⟩ kids of) from hrow4)
  refine bodyPost_ret (v := .tuple #[avo 23 0 ⟨#[]⟩ kids of, .slice A3 (l.length - l.length) (c - 1 - l.length), .bool true]) ?_ rfl ?_
  · simp [results, Tryd.results34, go_sem, avo, d0, d1, d2, d3, d4, d5]
  have hs := C02.size
  have hs3 : w1.heap.size ≤ w2.heap.size := Nat.le_of_lt hrow2.lt
  have e1 : L.length = 1 + l.length := HLL.out
  refine ⟨(C02.no_no HC3).freshg hch4 (by omega), A3, kids, of, ?_, ?_, how.keep hch4 (fun b hb h => ?_), hfr.weak (by omega)⟩
  · rw [Nat.sub_self, Nat.sub_self, e1, Nat.sub_sub]
  · have h := hcut.trans (by rw [e1, Nat.add_sub_cancel_left]; exact hcut3) (by omega)
    rw [← e1] at h
    exact h
  · have h' : b = w.heap.size + 1 := h
    have := hfr b hb
    omega
set_option maxRecDepth 100000 in
set_option maxHeartbeats 2000000 in
theorem takeArr_240 (A : Option Addr) (c m : Nat) (lb l : List Int) (lv : Int) (cells : List Value) (w : World) (hlb : lb.length = 4) (hbl : beN lb = l.length) (hb : Byt (lb ++ l)) (hl : l.length ≤ 1099511627776) (hr : Rd u8 w A (lb ++ l)) (hc : (lb ++ l).length ≤ c)
    (hw : ∀ (A' : Option Addr) (c' : Nat) (w' : World), Rd u8 w' A' l → l.length ≤ c' → Calls Tryd.prog 47 #[av 23 0 ⟨#[]⟩ (.slice none 0 0), .int .u64 l.length, .int .i64 (4 : Nat), .slice A' l.length c', .int .i64 lv] w' (AOkV w' A' l l.length c' 23 0 ⟨#[]⟩ m cells)) :
    Calls Tryd.prog 34 #[cons 240, .slice A (lb ++ l).length c, .int .i64 lv] w (AOkV w A (lb ++ l) (lb ++ l).length c 23 0 ⟨#[]⟩ m cells) := by
  unfold cons
  obtain ⟨L, hL⟩ : ∃ L, L = lb ++ l := ⟨_, rfl⟩
  have hLl : L.length = 4 + l.length := by rw [hL, List.length_append, hlb]
  have htk : beN (L.take 4) = l.length := by rw [hL, List.take_left' hlb, hbl]
  have hdr : L.drop 4 = l := by rw [hL, List.drop_left' hlb]
  rw [← hL] at hr hc hb ⊢
  have HLL := hid hLl
  have HTK := hid htk
  have HDR := hid hdr
  have HW := hid hw
  clear hLl htk hdr hw hL hbl hlb
  have hR0 : Row (((w.alloc (.cells #[.slice none 0 0, .int .i64 240] 78)).alloc AZ).alloc AZ) (w.heap.size + 1) 30 AZL := by
    have h := (Row.alloc (w.alloc (.cells #[.slice none 0 0, .int .i64 240] 78)) AZL 30).keep0 ((Ch.refl No _).alloc AZ)
    simpa [avc] using h
  have hB0 : Row (((w.alloc (.cells #[.slice none 0 0, .int .i64 240] 78)).alloc AZ).alloc AZ) w.heap.size 78 [.slice none 0 0, .int .i64 240] := ((Row.alloc w _ _).keep0 ((Ch.refl No _).alloc _)).keep0 ((Ch.refl No _).alloc _)
  go_enter Tryd.func34, Tryd.ntmps34
  go_wp2_with (go_at_call 45; refine (kindOf_240 _).mono ?_; rintro e w1 ⟨rfl, HC1⟩; have k0 : w1.cell? ⟨w.heap.size, 0, none⟩ = some (.slice none 0 0) := (hB0.keep0 HC1).cell 0 _ rfl; have k1 : w1.cell? ⟨w.heap.size, 1, none⟩ = some (.int .i64 240) := (hB0.keep0 HC1).cell 1 _ rfl)
  have C01 : Ch No w w1 := Ch.no_no (by repeat (first | exact Ch.refl _ _ | assumption | apply Ch.alloc | apply Ch.drew | apply Ch.drewN)) HC1
  refine (takeBig_calls A c L 4 _ (hr.keep0 (C01.alloc _)) hb hc (by omega)).mono ?_
  rintro e w2 ⟨HC2, ⟨hx, _⟩ | ⟨_, A2, rfl, hcut⟩⟩
  · exact absurd hx (by have := HLL.out; omega)
  rw [HTK.out, show L.length - 4 = l.length from by have := HLL.out; omega]
  have C02 : Ch No w w2 := (C01.alloc _).no_no HC2
  have hrow2 : Row w2 w1.heap.size 30 (avc 23 0 ⟨#[]⟩ (.slice none 0 0)) := (Row.alloc w1 (avc 23 0 ⟨#[]⟩ (.slice none 0 0)) 30).keep0 HC2
  obtain ⟨c0, c1, c2, c3, c4, c5⟩ := av_cells hrow2
  have k2 : w2.cell? ⟨w.heap.size, 1, none⟩ = some (.int .i64 240) := (((hB0.keep0 HC1).keep0 ((Ch.refl No _).alloc _)).keep0 HC2).cell 1 _ rfl
  have rd2 := hcut.drop (hr.keep0 C02) rfl hc
  rw [HDR.out] at rd2
  have P6 := ((hR0.keep0 HC1).keep0 ((Ch.refl No w1).alloc (.cells (avc 23 0 ⟨#[]⟩ (.slice none 0 0)).toArray 30))).keep0 HC2
  have s1 := hR0.lt
  have s2 := (hR0.keep0 HC1).lt
  have hc2 : l.length ≤ c - 4 := by have := HLL.out; omega
  go_wp2_with fail
  refine (HW.out A2 (c - 4) w2 rd2 hc2).mono ?_
  rintro e w3 ⟨HC3, A3, kids, of, rfl, hcut3, how, hfr⟩
  unfold avo
  go_wp2_with ((with_reducible refine gate (.store 30 _ _) rfl ?_); refine wp_store rfl rfl 30 _ _ rfl (w.heap.size + 1) 0 30 AZL (avo 23 0 ⟨#[]⟩ kids of) rfl rfl (avoc 23 0 ⟨#[]⟩ kids of) (av_cells_eq how 23 0 ⟨#[]⟩ of) size_av (one_kids how 23 0 ⟨#[]⟩ of) (P6.keep0 HC3) (by simp [avc, avoc]) ?_; intro w4 hrow4 hch4)
  obtain ⟨d0, d1, d2, d3, d4, d5⟩ := avo_cells (show Row w4 (w.heap.size + 1) 30 (avoc 23 0 ⟨#[]⟩ kids of) from hrow4)
  refine bodyPost_ret (v := .tuple #[avo 23 0 ⟨#[]⟩ kids of, .slice A3 (l.length - l.length) (c - 4 - l.length), .bool true]) ?_ rfl ?_
  · simp [results, Tryd.results34, go_sem, avo, d0, d1, d2, d3, d4, d5]
  have hs := C02.size
  have hs3 : w1.heap.size ≤ w2.heap.size := Nat.le_of_lt hrow2.lt
  have e1 : L.length = 4 + l.length := HLL.out
  refine ⟨(C02.no_no HC3).freshg hch4 (by omega), A3, kids, of, ?_, ?_, how.keep hch4 (fun b hb h => ?_), hfr.weak (by omega)⟩
  · rw [Nat.sub_self, Nat.sub_self, e1, Nat.sub_sub]
  · have h := hcut.trans (by rw [e1, Nat.add_sub_cancel_left]; exact hcut3) (by omega)
    rw [← e1] at h
    exact h
  · have h' : b = w.heap.size + 1 := h
    have := hfr b hb
    omega

end Go.Proofs.YtckjclkpgdhcoaaDoor
