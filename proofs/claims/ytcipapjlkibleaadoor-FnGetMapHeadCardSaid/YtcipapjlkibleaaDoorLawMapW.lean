/- The law's walk of MessagePack's reader of heads of maps. No condition. -/
import Derived.Test.YtcipapjlkibleaaDoorLawMap
import Derived.RegionTactic
import Derived.Deep.RegionLaw
namespace Go.Proofs.YtcipapjlkibleaaDoor
set_option linter.unusedVariables false
set_option linter.unusedSimpArgs false
open Go.RowKit

def FmB (st : Int) : Obj := .cells #[.int .u64 st, .bool false] 30
theorem Fm.alloc (w : World) (st : Int) (h0 : 0 ≤ st) (h1 : st < 18446744073709551616) : Fm (w.alloc (.cells #[.int .u64 st, .bool false] 30)) w.heap.size :=
  ⟨st, false, Row.alloc w [.int .u64 st, .bool false] 30, h0, h1⟩
theorem awake_map (w : World) : Calls Tryd.prog 8 #[.slice (some ⟨w.heap.size, 0, none⟩) 1 1] (w.alloc (.cells #[.int .u8 133] 5)) (GmOk 5 [] (w.alloc (.cells #[.int .u8 133] 5))) := by
  have h := readMap_fix (some ⟨w.heap.size, 0, none⟩) 1 133 [] (w.alloc (.cells #[.int .u8 133] 5)) (Ow.lit 5 u8 w [133] (by simp [maxLen])).rd (by simp) (by omega) (by omega)
  exact getMap_ok _ 5 [] _ (by simp) h
set_option maxRecDepth 100000 in
set_option maxHeartbeats 2000000 in
theorem lawMap_else (kind n st : Int) (A : Option Addr) (c : Nat) (l : List Int) (cut : Bool) (w : World) (k8 : kind ≠ 8) (k9 : kind ≠ 9) (k7 : kind ≠ 7) (k6 : kind ≠ 6) (hbig : l.length ≤ 2147483647) :
    Calls Tryd.prog 3 #[.int .i64 kind, .int .u32 n, .int .u64 st, .slice A l.length c, .bool cut] w fun e w' => e = .returned (.bool true) ∧ Ch No w w' := by
  have haw := awake_map w
  obtain ⟨m, hm⟩ : ∃ m, l.length = m := ⟨_, rfl⟩
  rw [hm] at hbig ⊢
  have hd1 : decide ((2147483647 : Int) < m) = false := decide_eq_false (by omega)
  have e8 : (kind == 8) = false := beq_eq_false_iff_ne.2 k8
  have f8 : (kind != 8) = true := bne_iff_ne.2 k8
  have g8 : decide (kind = 8) = false := decide_eq_false k8
  have e9 : (kind == 9) = false := beq_eq_false_iff_ne.2 k9
  have f9 : (kind != 9) = true := bne_iff_ne.2 k9
  have g9 : decide (kind = 9) = false := decide_eq_false k9
  have e7 : (kind == 7) = false := beq_eq_false_iff_ne.2 k7
  have f7 : (kind != 7) = true := bne_iff_ne.2 k7
  have g7 : decide (kind = 7) = false := decide_eq_false k7
  have e6 : (kind == 6) = false := beq_eq_false_iff_ne.2 k6
  have f6 : (kind != 6) = true := bne_iff_ne.2 k6
  have g6 : decide (kind = 6) = false := decide_eq_false k6
  clear hm
  go_enter Tryd.func3, Tryd.ntmps3
  go_wp2_with fail
  refine haw.mono ?_
  rintro e w1 ⟨v1, rfl, _, hch1⟩
  have C1 : Ch No w w1 := ((Ch.refl No w).alloc _).no_no hch1
  go_wp2_with fail
  go_ret
  exact ⟨rfl, C1⟩
set_option maxRecDepth 100000 in
set_option maxHeartbeats 2000000 in
theorem lawMap_long8 (n st : Int) (A : Option Addr) (c : Nat) (l : List Int) (cut : Bool) (w : World) (hl : 100 < l.length) (hbig : l.length ≤ 2147483647) :
    Calls Tryd.prog 3 #[.int .i64 8, .int .u32 n, .int .u64 st, .slice A l.length c, .bool cut] w fun e w' => e = .returned (.bool true) ∧ Ch No w w' := by
  have haw := awake_map w
  obtain ⟨m, hm⟩ : ∃ m, l.length = m := ⟨_, rfl⟩
  rw [hm] at hbig ⊢
  have hd1 : decide ((2147483647 : Int) < m) = false := decide_eq_false (by omega)
  rw [hm] at hl
  have hd2 : decide ((100 : Int) < m) = true := decide_eq_true (by omega)
  clear hm
  go_enter Tryd.func3, Tryd.ntmps3
  go_wp2_with fail
  refine haw.mono ?_
  rintro e w1 ⟨v1, rfl, _, hch1⟩
  have C1 : Ch No w w1 := ((Ch.refl No w).alloc _).no_no hch1
  go_wp2_with fail
  go_ret
  exact ⟨rfl, C1⟩
set_option maxRecDepth 100000 in
set_option maxHeartbeats 2000000 in
theorem lawMap_long9 (n st : Int) (A : Option Addr) (c : Nat) (l : List Int) (cut : Bool) (w : World) (hl : 100 < l.length) (hbig : l.length ≤ 2147483647) :
    Calls Tryd.prog 3 #[.int .i64 9, .int .u32 n, .int .u64 st, .slice A l.length c, .bool cut] w fun e w' => e = .returned (.bool true) ∧ Ch No w w' := by
  have haw := awake_map w
  obtain ⟨m, hm⟩ : ∃ m, l.length = m := ⟨_, rfl⟩
  rw [hm] at hbig ⊢
  have hd1 : decide ((2147483647 : Int) < m) = false := decide_eq_false (by omega)
  rw [hm] at hl
  have hd2 : decide ((100 : Int) < m) = true := decide_eq_true (by omega)
  clear hm
  go_enter Tryd.func3, Tryd.ntmps3
  go_wp2_with fail
  refine haw.mono ?_
  rintro e w1 ⟨v1, rfl, _, hch1⟩
  have C1 : Ch No w w1 := ((Ch.refl No w).alloc _).no_no hch1
  go_wp2_with fail
  go_ret
  exact ⟨rfl, C1⟩
set_option maxRecDepth 100000 in
set_option maxHeartbeats 2000000 in
theorem lawMap_long7 (n st : Int) (A : Option Addr) (c : Nat) (l : List Int) (cut : Bool) (w : World) (hl : 100 < l.length) (hbig : l.length ≤ 2147483647) :
    Calls Tryd.prog 3 #[.int .i64 7, .int .u32 n, .int .u64 st, .slice A l.length c, .bool cut] w fun e w' => e = .returned (.bool true) ∧ Ch No w w' := by
  have haw := awake_map w
  obtain ⟨m, hm⟩ : ∃ m, l.length = m := ⟨_, rfl⟩
  rw [hm] at hbig ⊢
  have hd1 : decide ((2147483647 : Int) < m) = false := decide_eq_false (by omega)
  rw [hm] at hl
  have hd2 : decide ((100 : Int) < m) = true := decide_eq_true (by omega)
  clear hm
  go_enter Tryd.func3, Tryd.ntmps3
  go_wp2_with fail
  refine haw.mono ?_
  rintro e w1 ⟨v1, rfl, _, hch1⟩
  have C1 : Ch No w w1 := ((Ch.refl No w).alloc _).no_no hch1
  go_wp2_with fail
  go_ret
  exact ⟨rfl, C1⟩
set_option maxRecDepth 100000 in
set_option maxHeartbeats 2000000 in
theorem lawMap_long6 (n st : Int) (A : Option Addr) (c : Nat) (l : List Int) (cut : Bool) (w : World) (hl : 100 < l.length) (hbig : l.length ≤ 2147483647) :
    Calls Tryd.prog 3 #[.int .i64 6, .int .u32 n, .int .u64 st, .slice A l.length c, .bool cut] w fun e w' => e = .returned (.bool true) ∧ Ch No w w' := by
  have haw := awake_map w
  obtain ⟨m, hm⟩ : ∃ m, l.length = m := ⟨_, rfl⟩
  rw [hm] at hbig ⊢
  have hd1 : decide ((2147483647 : Int) < m) = false := decide_eq_false (by omega)
  rw [hm] at hl
  have hd2 : decide ((100 : Int) < m) = true := decide_eq_true (by omega)
  clear hm
  go_enter Tryd.func3, Tryd.ntmps3
  go_wp2_with fail
  refine haw.mono ?_
  rintro e w1 ⟨v1, rfl, _, hch1⟩
  have C1 : Ch No w w1 := ((Ch.refl No w).alloc _).no_no hch1
  go_wp2_with fail
  go_ret
  exact ⟨rfl, C1⟩
set_option maxRecDepth 100000 in
set_option maxHeartbeats 2000000 in
theorem lawMap_cut8 (n st : Int) (A : Option Addr) (c : Nat) (l : List Int) (w : World) (hs : Sh w) (hr : Rd u8 w A l) (hb : Byt l) (hl : l.length ≤ 100) (h0 : 0 ≤ n) (h1 : n < 4294967296) (hst0 : 0 ≤ st) (hst1 : st < 18446744073709551616) (hbig : l.length ≤ 2147483647) :
    Calls Tryd.prog 3 #[.int .i64 8, .int .u32 n, .int .u64 st, .slice A l.length c, .bool true] w fun e w' => e = .returned (.bool true) ∧ Ch No w w' := by
  have haw := awake_map w
  obtain ⟨m, hm⟩ : ∃ m, l.length = m := ⟨_, rfl⟩
  rw [hm] at hbig ⊢
  have hd1 : decide ((2147483647 : Int) < m) = false := decide_eq_false (by omega)
  rw [hm] at hl
  have hd2 : decide ((100 : Int) < m) = false := decide_eq_false (by omega)
  go_enter Tryd.func3, Tryd.ntmps3
  go_wp2_with fail
  refine haw.mono ?_
  rintro e w1 ⟨v1, rfl, _, hch1⟩
  have C1 : Ch No w w1 := ((Ch.refl No w).alloc _).no_no hch1
  go_wp2_with fail
  refine (head_8 w1.heap.size n _ (Fm.alloc w1 st hst0 hst1) h0 h1).mono ?_
  rintro e w2 ⟨v2, d, rfl, hd, ho2, hf2, _, hch2⟩
  have C2 : Ch No w w2 := (C1.alloc _).freshg hch2 C1.size
  have hf2' : Fr w v2 := hf2.weak (C1.alloc _).size
  obtain ⟨hl0, hl5⟩ := len_8 hd
  obtain ⟨A2, c2, rfl, hle2, _⟩ := ho2.slice
  obtain ⟨m2, hm2⟩ : ∃ m, d.length = m := ⟨_, rfl⟩
  rw [hm2] at hf2' ho2 hl0 hl5 hle2 ⊢
  have hrf := cut_8 hd h0
  rw [hm2] at hrf
  have hlen : (d.take (m2 - 1)).length = m2 - 1 := by rw [List.length_take]; omega
  have hno := fun W (h : Ch No w2 W) => getMap_refused A2 c2 (d.take (m2 - 1)) W ((ho2.rd.take _).keep0 h) (by omega) ((hs.keep0 C2).keep0 h) hrf
  rw [hlen] at hno
  have hwr : IntKind.i64.wrap ((m2 : Int) - 1) = (m2 : Int) - 1 := by simp [IntKind.wrap, IntKind.bits, IntKind.signed]; omega
  obtain ⟨hj1, hj2⟩ := Cut.ahead_h 24 5 Tryd.underlying24 size_u8 A2 m2 c2 ((m2 : Int) - 1) (m2 - 1) (by omega) .i64 (by omega)
  clear hlen hrf hm2 ho2 hm
  go_wp2_with fail
  refine (hno w2 (Ch.refl _ _)).mono ?_
  rintro e w3 ⟨rfl, hch3⟩
  go_wp2_with fail
  go_ret
  exact ⟨rfl, C2.no_no hch3⟩
set_option maxRecDepth 100000 in
set_option maxHeartbeats 2000000 in
theorem lawMap_all8 (n st : Int) (A : Option Addr) (c : Nat) (l : List Int) (w : World) (hs : Sh w) (hr : Rd u8 w A l) (hb : Byt l) (hl : l.length ≤ 100) (h0 : 0 ≤ n) (h1 : n < 4294967296) (hst0 : 0 ≤ st) (hst1 : st < 18446744073709551616) (hbig : l.length ≤ 2147483647) :
    Calls Tryd.prog 3 #[.int .i64 8, .int .u32 n, .int .u64 st, .slice A l.length c, .bool false] w fun e w' => e = .returned (.bool true) ∧ Ch No w w' := by
  have haw := awake_map w
  obtain ⟨m, hm⟩ : ∃ m, l.length = m := ⟨_, rfl⟩
  rw [hm] at hbig ⊢
  have hd1 : decide ((2147483647 : Int) < m) = false := decide_eq_false (by omega)
  rw [hm] at hl
  have hd2 : decide ((100 : Int) < m) = false := decide_eq_false (by omega)
  go_enter Tryd.func3, Tryd.ntmps3
  go_wp2_with fail
  refine haw.mono ?_
  rintro e w1 ⟨v1, rfl, _, hch1⟩
  have C1 : Ch No w w1 := ((Ch.refl No w).alloc _).no_no hch1
  go_wp2_with fail
  refine (head_8 w1.heap.size n _ (Fm.alloc w1 st hst0 hst1) h0 h1).mono ?_
  rintro e w2 ⟨v2, d, rfl, hd, ho2, hf2, _, hch2⟩
  have C2 : Ch No w w2 := (C1.alloc _).freshg hch2 C1.size
  have hf2' : Fr w v2 := hf2.weak (C1.alloc _).size
  obtain ⟨hl0, hl5⟩ := len_8 hd
  obtain ⟨A2, c2, rfl, hle2, _⟩ := ho2.slice
  obtain ⟨m2, hm2⟩ : ∃ m, d.length = m := ⟨_, rfl⟩
  rw [hm2] at hf2' ho2 hl0 hl5 hle2 ⊢
  go_wp2_with (first | ((with_reducible refine gate (.call { callee := .builtin .append, args := #[.tmp _, .tmp _], argTypes := #[24, 24] }) rfl ?_); refine wp_append rfl _ _ 24 5 (.int .u8 0) 1 rfl Tryd.underlying24 info_u8 rfl (by decide) u8 (fun _ => rfl) _ d l _ _ _ rfl rfl hm ho2 (hr.keep0 C2) (by rw [hm2]; omega) ?_; intro v3 w3 ho3 hch3 hat3; have hL := hid hm; have hD := hid hm2; clear hm hm2; obtain ⟨A3, c3, rfl, hle3, _⟩ := ho3.slice; obtain ⟨m3, hm3⟩ : ∃ m, (d ++ l).length = m := ⟨_, rfl⟩; have hM := hid hm3; rw [hm3]; clear hm3))
  have C3 : Ch No w w3 := C2.fresh hch3 hf2'
  have hno := getMap_refused A3 c3 (d ++ l) w3 ho3.rd hle3 (hs.keep0 C3) (kind_8 hd h0 l)
  rw [hM.out] at hno
  refine hno.mono ?_
  rintro e w4 ⟨rfl, hch4⟩
  go_wp2_with fail
  go_ret
  exact ⟨rfl, C3.no_no hch4⟩
set_option maxRecDepth 100000 in
set_option maxHeartbeats 2000000 in
theorem lawMap_cut9 (n st : Int) (A : Option Addr) (c : Nat) (l : List Int) (w : World) (hs : Sh w) (hr : Rd u8 w A l) (hb : Byt l) (hl : l.length ≤ 100) (h0 : 0 ≤ n) (h1 : n < 4294967296) (hst0 : 0 ≤ st) (hst1 : st < 18446744073709551616) (hbig : l.length ≤ 2147483647) :
    Calls Tryd.prog 3 #[.int .i64 9, .int .u32 n, .int .u64 st, .slice A l.length c, .bool true] w fun e w' => e = .returned (.bool true) ∧ Ch No w w' := by
  have haw := awake_map w
  obtain ⟨m, hm⟩ : ∃ m, l.length = m := ⟨_, rfl⟩
  rw [hm] at hbig ⊢
  have hd1 : decide ((2147483647 : Int) < m) = false := decide_eq_false (by omega)
  rw [hm] at hl
  have hd2 : decide ((100 : Int) < m) = false := decide_eq_false (by omega)
  go_enter Tryd.func3, Tryd.ntmps3
  go_wp2_with fail
  refine haw.mono ?_
  rintro e w1 ⟨v1, rfl, _, hch1⟩
  have C1 : Ch No w w1 := ((Ch.refl No w).alloc _).no_no hch1
  go_wp2_with fail
  refine (head_9 w1.heap.size n _ (Fm.alloc w1 st hst0 hst1) h0 h1).mono ?_
  rintro e w2 ⟨v2, d, rfl, hd, ho2, hf2, _, hch2⟩
  have C2 : Ch No w w2 := (C1.alloc _).freshg hch2 C1.size
  have hf2' : Fr w v2 := hf2.weak (C1.alloc _).size
  obtain ⟨hl0, hl5⟩ := len_9 hd
  obtain ⟨A2, c2, rfl, hle2, _⟩ := ho2.slice
  obtain ⟨m2, hm2⟩ : ∃ m, d.length = m := ⟨_, rfl⟩
  rw [hm2] at hf2' ho2 hl0 hl5 hle2 ⊢
  have hrf := cut_9 hd h0
  rw [hm2] at hrf
  have hlen : (d.take (m2 - 1)).length = m2 - 1 := by rw [List.length_take]; omega
  have hno := fun W (h : Ch No w2 W) => getMap_refused A2 c2 (d.take (m2 - 1)) W ((ho2.rd.take _).keep0 h) (by omega) ((hs.keep0 C2).keep0 h) hrf
  rw [hlen] at hno
  have hwr : IntKind.i64.wrap ((m2 : Int) - 1) = (m2 : Int) - 1 := by simp [IntKind.wrap, IntKind.bits, IntKind.signed]; omega
  obtain ⟨hj1, hj2⟩ := Cut.ahead_h 24 5 Tryd.underlying24 size_u8 A2 m2 c2 ((m2 : Int) - 1) (m2 - 1) (by omega) .i64 (by omega)
  clear hlen hrf hm2 ho2 hm
  go_wp2_with fail
  refine (hno w2 (Ch.refl _ _)).mono ?_
  rintro e w3 ⟨rfl, hch3⟩
  go_wp2_with fail
  go_ret
  exact ⟨rfl, C2.no_no hch3⟩
set_option maxRecDepth 100000 in
set_option maxHeartbeats 2000000 in
theorem lawMap_all9 (n st : Int) (A : Option Addr) (c : Nat) (l : List Int) (w : World) (hs : Sh w) (hr : Rd u8 w A l) (hb : Byt l) (hl : l.length ≤ 100) (h0 : 0 ≤ n) (h1 : n < 4294967296) (hst0 : 0 ≤ st) (hst1 : st < 18446744073709551616) (hbig : l.length ≤ 2147483647) :
    Calls Tryd.prog 3 #[.int .i64 9, .int .u32 n, .int .u64 st, .slice A l.length c, .bool false] w fun e w' => e = .returned (.bool true) ∧ Ch No w w' := by
  have haw := awake_map w
  obtain ⟨m, hm⟩ : ∃ m, l.length = m := ⟨_, rfl⟩
  rw [hm] at hbig ⊢
  have hd1 : decide ((2147483647 : Int) < m) = false := decide_eq_false (by omega)
  rw [hm] at hl
  have hd2 : decide ((100 : Int) < m) = false := decide_eq_false (by omega)
  go_enter Tryd.func3, Tryd.ntmps3
  go_wp2_with fail
  refine haw.mono ?_
  rintro e w1 ⟨v1, rfl, _, hch1⟩
  have C1 : Ch No w w1 := ((Ch.refl No w).alloc _).no_no hch1
  go_wp2_with fail
  refine (head_9 w1.heap.size n _ (Fm.alloc w1 st hst0 hst1) h0 h1).mono ?_
  rintro e w2 ⟨v2, d, rfl, hd, ho2, hf2, _, hch2⟩
  have C2 : Ch No w w2 := (C1.alloc _).freshg hch2 C1.size
  have hf2' : Fr w v2 := hf2.weak (C1.alloc _).size
  obtain ⟨hl0, hl5⟩ := len_9 hd
  obtain ⟨A2, c2, rfl, hle2, _⟩ := ho2.slice
  obtain ⟨m2, hm2⟩ : ∃ m, d.length = m := ⟨_, rfl⟩
  rw [hm2] at hf2' ho2 hl0 hl5 hle2 ⊢
  go_wp2_with (first | ((with_reducible refine gate (.call { callee := .builtin .append, args := #[.tmp _, .tmp _], argTypes := #[24, 24] }) rfl ?_); refine wp_append rfl _ _ 24 5 (.int .u8 0) 1 rfl Tryd.underlying24 info_u8 rfl (by decide) u8 (fun _ => rfl) _ d l _ _ _ rfl rfl hm ho2 (hr.keep0 C2) (by rw [hm2]; omega) ?_; intro v3 w3 ho3 hch3 hat3; have hL := hid hm; have hD := hid hm2; clear hm hm2; obtain ⟨A3, c3, rfl, hle3, _⟩ := ho3.slice; obtain ⟨m3, hm3⟩ : ∃ m, (d ++ l).length = m := ⟨_, rfl⟩; have hM := hid hm3; rw [hm3]; clear hm3))
  have C3 : Ch No w w3 := C2.fresh hch3 hf2'
  have hyes := getMap_head A3 c3 n d l w3 hd hb ho3.rd hle3 h0 h1 (by have := hL.out; omega)
  rw [hM.out] at hyes
  refine hyes.mono ?_
  rintro e w4 ⟨v4, rfl, ho4, hch4⟩
  obtain ⟨A4, c4, rfl, _, _⟩ := ho4.slice
  have hleft := left_calls A4 A c4 c l w4 ho4.rd (hr.keep0 (C3.no_no hch4))
  rw [hL.out] at hleft ⊢
  clear ho4
  go_wp2_with fail
  refine hleft.mono ?_
  rintro e w5 ⟨rfl, hch5⟩
  go_wp2_with fail
  go_ret
  exact ⟨rfl, (C3.no_no hch4).no_no hch5⟩
set_option maxRecDepth 100000 in
set_option maxHeartbeats 2000000 in
theorem lawMap_cut7 (n st : Int) (A : Option Addr) (c : Nat) (l : List Int) (w : World) (hs : Sh w) (hr : Rd u8 w A l) (hb : Byt l) (hl : l.length ≤ 100) (h0 : 0 ≤ n) (h1 : n < 4294967296) (hst0 : 0 ≤ st) (hst1 : st < 18446744073709551616) (hbig : l.length ≤ 2147483647) :
    Calls Tryd.prog 3 #[.int .i64 7, .int .u32 n, .int .u64 st, .slice A l.length c, .bool true] w fun e w' => e = .returned (.bool true) ∧ Ch No w w' := by
  have haw := awake_map w
  obtain ⟨m, hm⟩ : ∃ m, l.length = m := ⟨_, rfl⟩
  rw [hm] at hbig ⊢
  have hd1 : decide ((2147483647 : Int) < m) = false := decide_eq_false (by omega)
  rw [hm] at hl
  have hd2 : decide ((100 : Int) < m) = false := decide_eq_false (by omega)
  go_enter Tryd.func3, Tryd.ntmps3
  go_wp2_with fail
  refine haw.mono ?_
  rintro e w1 ⟨v1, rfl, _, hch1⟩
  have C1 : Ch No w w1 := ((Ch.refl No w).alloc _).no_no hch1
  go_wp2_with fail
  refine (head_7 w1.heap.size n _ (Fm.alloc w1 st hst0 hst1) h0 h1).mono ?_
  rintro e w2 ⟨v2, d, rfl, hd, ho2, hf2, _, hch2⟩
  have C2 : Ch No w w2 := (C1.alloc _).freshg hch2 C1.size
  have hf2' : Fr w v2 := hf2.weak (C1.alloc _).size
  obtain ⟨hl0, hl5⟩ := len_7 hd
  obtain ⟨A2, c2, rfl, hle2, _⟩ := ho2.slice
  obtain ⟨m2, hm2⟩ : ∃ m, d.length = m := ⟨_, rfl⟩
  rw [hm2] at hf2' ho2 hl0 hl5 hle2 ⊢
  have hrf := cut_7 hd h0
  rw [hm2] at hrf
  have hlen : (d.take (m2 - 1)).length = m2 - 1 := by rw [List.length_take]; omega
  have hno := fun W (h : Ch No w2 W) => getMap_refused A2 c2 (d.take (m2 - 1)) W ((ho2.rd.take _).keep0 h) (by omega) ((hs.keep0 C2).keep0 h) hrf
  rw [hlen] at hno
  have hwr : IntKind.i64.wrap ((m2 : Int) - 1) = (m2 : Int) - 1 := by simp [IntKind.wrap, IntKind.bits, IntKind.signed]; omega
  obtain ⟨hj1, hj2⟩ := Cut.ahead_h 24 5 Tryd.underlying24 size_u8 A2 m2 c2 ((m2 : Int) - 1) (m2 - 1) (by omega) .i64 (by omega)
  clear hlen hrf hm2 ho2 hm
  go_wp2_with fail
  refine (hno w2 (Ch.refl _ _)).mono ?_
  rintro e w3 ⟨rfl, hch3⟩
  go_wp2_with fail
  go_ret
  exact ⟨rfl, C2.no_no hch3⟩
set_option maxRecDepth 100000 in
set_option maxHeartbeats 2000000 in
theorem lawMap_all7 (n st : Int) (A : Option Addr) (c : Nat) (l : List Int) (w : World) (hs : Sh w) (hr : Rd u8 w A l) (hb : Byt l) (hl : l.length ≤ 100) (h0 : 0 ≤ n) (h1 : n < 4294967296) (hst0 : 0 ≤ st) (hst1 : st < 18446744073709551616) (hbig : l.length ≤ 2147483647) :
    Calls Tryd.prog 3 #[.int .i64 7, .int .u32 n, .int .u64 st, .slice A l.length c, .bool false] w fun e w' => e = .returned (.bool true) ∧ Ch No w w' := by
  have haw := awake_map w
  obtain ⟨m, hm⟩ : ∃ m, l.length = m := ⟨_, rfl⟩
  rw [hm] at hbig ⊢
  have hd1 : decide ((2147483647 : Int) < m) = false := decide_eq_false (by omega)
  rw [hm] at hl
  have hd2 : decide ((100 : Int) < m) = false := decide_eq_false (by omega)
  go_enter Tryd.func3, Tryd.ntmps3
  go_wp2_with fail
  refine haw.mono ?_
  rintro e w1 ⟨v1, rfl, _, hch1⟩
  have C1 : Ch No w w1 := ((Ch.refl No w).alloc _).no_no hch1
  go_wp2_with fail
  refine (head_7 w1.heap.size n _ (Fm.alloc w1 st hst0 hst1) h0 h1).mono ?_
  rintro e w2 ⟨v2, d, rfl, hd, ho2, hf2, _, hch2⟩
  have C2 : Ch No w w2 := (C1.alloc _).freshg hch2 C1.size
  have hf2' : Fr w v2 := hf2.weak (C1.alloc _).size
  obtain ⟨hl0, hl5⟩ := len_7 hd
  obtain ⟨A2, c2, rfl, hle2, _⟩ := ho2.slice
  obtain ⟨m2, hm2⟩ : ∃ m, d.length = m := ⟨_, rfl⟩
  rw [hm2] at hf2' ho2 hl0 hl5 hle2 ⊢
  go_wp2_with (first | ((with_reducible refine gate (.call { callee := .builtin .append, args := #[.tmp _, .tmp _], argTypes := #[24, 24] }) rfl ?_); refine wp_append rfl _ _ 24 5 (.int .u8 0) 1 rfl Tryd.underlying24 info_u8 rfl (by decide) u8 (fun _ => rfl) _ d l _ _ _ rfl rfl hm ho2 (hr.keep0 C2) (by rw [hm2]; omega) ?_; intro v3 w3 ho3 hch3 hat3; have hL := hid hm; have hD := hid hm2; clear hm hm2; obtain ⟨A3, c3, rfl, hle3, _⟩ := ho3.slice; obtain ⟨m3, hm3⟩ : ∃ m, (d ++ l).length = m := ⟨_, rfl⟩; have hM := hid hm3; rw [hm3]; clear hm3))
  have C3 : Ch No w w3 := C2.fresh hch3 hf2'
  have hno := getMap_refused A3 c3 (d ++ l) w3 ho3.rd hle3 (hs.keep0 C3) (kind_7 hd h0 l)
  rw [hM.out] at hno
  refine hno.mono ?_
  rintro e w4 ⟨rfl, hch4⟩
  go_wp2_with fail
  go_ret
  exact ⟨rfl, C3.no_no hch4⟩
set_option maxRecDepth 100000 in
set_option maxHeartbeats 2000000 in
theorem lawMap_cut6 (n st : Int) (A : Option Addr) (c : Nat) (l : List Int) (w : World) (hs : Sh w) (hr : Rd u8 w A l) (hb : Byt l) (hl : l.length ≤ 100) (h0 : 0 ≤ n) (h1 : n < 4294967296) (hst0 : 0 ≤ st) (hst1 : st < 18446744073709551616) (hbig : l.length ≤ 2147483647) :
    Calls Tryd.prog 3 #[.int .i64 6, .int .u32 n, .int .u64 st, .slice A l.length c, .bool true] w fun e w' => e = .returned (.bool true) ∧ Ch No w w' := by
  have haw := awake_map w
  obtain ⟨m, hm⟩ : ∃ m, l.length = m := ⟨_, rfl⟩
  rw [hm] at hbig ⊢
  have hd1 : decide ((2147483647 : Int) < m) = false := decide_eq_false (by omega)
  rw [hm] at hl
  have hd2 : decide ((100 : Int) < m) = false := decide_eq_false (by omega)
  go_enter Tryd.func3, Tryd.ntmps3
  go_wp2_with fail
  refine haw.mono ?_
  rintro e w1 ⟨v1, rfl, _, hch1⟩
  have C1 : Ch No w w1 := ((Ch.refl No w).alloc _).no_no hch1
  go_wp2_with fail
  refine (head_6 w1.heap.size n _ (Fm.alloc w1 st hst0 hst1) h0 h1).mono ?_
  rintro e w2 ⟨v2, d, rfl, hd, ho2, hf2, _, hch2⟩
  have C2 : Ch No w w2 := (C1.alloc _).freshg hch2 C1.size
  have hf2' : Fr w v2 := hf2.weak (C1.alloc _).size
  obtain ⟨hl0, hl5⟩ := len_6 hd
  obtain ⟨A2, c2, rfl, hle2, _⟩ := ho2.slice
  obtain ⟨m2, hm2⟩ : ∃ m, d.length = m := ⟨_, rfl⟩
  rw [hm2] at hf2' ho2 hl0 hl5 hle2 ⊢
  have hrf := cut_6 hd h0
  rw [hm2] at hrf
  have hlen : (d.take (m2 - 1)).length = m2 - 1 := by rw [List.length_take]; omega
  have hno := fun W (h : Ch No w2 W) => getMap_refused A2 c2 (d.take (m2 - 1)) W ((ho2.rd.take _).keep0 h) (by omega) ((hs.keep0 C2).keep0 h) hrf
  rw [hlen] at hno
  have hwr : IntKind.i64.wrap ((m2 : Int) - 1) = (m2 : Int) - 1 := by simp [IntKind.wrap, IntKind.bits, IntKind.signed]; omega
  obtain ⟨hj1, hj2⟩ := Cut.ahead_h 24 5 Tryd.underlying24 size_u8 A2 m2 c2 ((m2 : Int) - 1) (m2 - 1) (by omega) .i64 (by omega)
  clear hlen hrf hm2 ho2 hm
  go_wp2_with fail
  refine (hno w2 (Ch.refl _ _)).mono ?_
  rintro e w3 ⟨rfl, hch3⟩
  go_wp2_with fail
  go_ret
  exact ⟨rfl, C2.no_no hch3⟩
set_option maxRecDepth 100000 in
set_option maxHeartbeats 2000000 in
theorem lawMap_all6 (n st : Int) (A : Option Addr) (c : Nat) (l : List Int) (w : World) (hs : Sh w) (hr : Rd u8 w A l) (hb : Byt l) (hl : l.length ≤ 100) (h0 : 0 ≤ n) (h1 : n < 4294967296) (hst0 : 0 ≤ st) (hst1 : st < 18446744073709551616) (hbig : l.length ≤ 2147483647) :
    Calls Tryd.prog 3 #[.int .i64 6, .int .u32 n, .int .u64 st, .slice A l.length c, .bool false] w fun e w' => e = .returned (.bool true) ∧ Ch No w w' := by
  have haw := awake_map w
  obtain ⟨m, hm⟩ : ∃ m, l.length = m := ⟨_, rfl⟩
  rw [hm] at hbig ⊢
  have hd1 : decide ((2147483647 : Int) < m) = false := decide_eq_false (by omega)
  rw [hm] at hl
  have hd2 : decide ((100 : Int) < m) = false := decide_eq_false (by omega)
  go_enter Tryd.func3, Tryd.ntmps3
  go_wp2_with fail
  refine haw.mono ?_
  rintro e w1 ⟨v1, rfl, _, hch1⟩
  have C1 : Ch No w w1 := ((Ch.refl No w).alloc _).no_no hch1
  go_wp2_with fail
  refine (head_6 w1.heap.size n _ (Fm.alloc w1 st hst0 hst1) h0 h1).mono ?_
  rintro e w2 ⟨v2, d, rfl, hd, ho2, hf2, _, hch2⟩
  have C2 : Ch No w w2 := (C1.alloc _).freshg hch2 C1.size
  have hf2' : Fr w v2 := hf2.weak (C1.alloc _).size
  obtain ⟨hl0, hl5⟩ := len_6 hd
  obtain ⟨A2, c2, rfl, hle2, _⟩ := ho2.slice
  obtain ⟨m2, hm2⟩ : ∃ m, d.length = m := ⟨_, rfl⟩
  rw [hm2] at hf2' ho2 hl0 hl5 hle2 ⊢
  go_wp2_with (first | ((with_reducible refine gate (.call { callee := .builtin .append, args := #[.tmp _, .tmp _], argTypes := #[24, 24] }) rfl ?_); refine wp_append rfl _ _ 24 5 (.int .u8 0) 1 rfl Tryd.underlying24 info_u8 rfl (by decide) u8 (fun _ => rfl) _ d l _ _ _ rfl rfl hm ho2 (hr.keep0 C2) (by rw [hm2]; omega) ?_; intro v3 w3 ho3 hch3 hat3; have hL := hid hm; have hD := hid hm2; clear hm hm2; obtain ⟨A3, c3, rfl, hle3, _⟩ := ho3.slice; obtain ⟨m3, hm3⟩ : ∃ m, (d ++ l).length = m := ⟨_, rfl⟩; have hM := hid hm3; rw [hm3]; clear hm3))
  have C3 : Ch No w w3 := C2.fresh hch3 hf2'
  have hno := getMap_refused A3 c3 (d ++ l) w3 ho3.rd hle3 (hs.keep0 C3) (kind_6 hd h0 l)
  rw [hM.out] at hno
  refine hno.mono ?_
  rintro e w4 ⟨rfl, hch4⟩
  go_wp2_with fail
  go_ret
  exact ⟨rfl, C3.no_no hch4⟩

theorem lawMap (kind n st : Int) (A : Option Addr) (c : Nat) (l : List Int) (cut : Bool) (w : World) (hs : Sh w) (hr : Rd u8 w A l) (hb : Byt l) (h0 : 0 ≤ n) (h1 : n < 4294967296) (hst0 : 0 ≤ st) (hst1 : st < 18446744073709551616) :
    Calls Tryd.prog 3 #[.int .i64 kind, .int .u32 n, .int .u64 st, .slice A l.length c, .bool cut] w fun e w' => e = .returned (.bool true) ∧ Ch No w w' := by
  by_cases hbig : l.length ≤ 2147483647
  · by_cases k8 : kind = 8
    · subst k8
      by_cases hl : l.length ≤ 100
      · cases cut
        · exact lawMap_all8 n st A c l w hs hr hb hl h0 h1 hst0 hst1 hbig
        · exact lawMap_cut8 n st A c l w hs hr hb hl h0 h1 hst0 hst1 hbig
      · exact lawMap_long8 n st A c l cut w (by omega) hbig
    · by_cases k9 : kind = 9
      · subst k9
        by_cases hl : l.length ≤ 100
        · cases cut
          · exact lawMap_all9 n st A c l w hs hr hb hl h0 h1 hst0 hst1 hbig
          · exact lawMap_cut9 n st A c l w hs hr hb hl h0 h1 hst0 hst1 hbig
        · exact lawMap_long9 n st A c l cut w (by omega) hbig
      · by_cases k7 : kind = 7
        · subst k7
          by_cases hl : l.length ≤ 100
          · cases cut
            · exact lawMap_all7 n st A c l w hs hr hb hl h0 h1 hst0 hst1 hbig
            · exact lawMap_cut7 n st A c l w hs hr hb hl h0 h1 hst0 hst1 hbig
          · exact lawMap_long7 n st A c l cut w (by omega) hbig
        · by_cases k6 : kind = 6
          · subst k6
            by_cases hl : l.length ≤ 100
            · cases cut
              · exact lawMap_all6 n st A c l w hs hr hb hl h0 h1 hst0 hst1 hbig
              · exact lawMap_cut6 n st A c l w hs hr hb hl h0 h1 hst0 hst1 hbig
            · exact lawMap_long6 n st A c l cut w (by omega) hbig
          · exact lawMap_else kind n st A c l cut w k8 k9 k7 k6 hbig
  · obtain ⟨m, hm⟩ : ∃ m, l.length = m := ⟨_, rfl⟩
    rw [hm] at hbig ⊢
    have hd1 : decide ((2147483647 : Int) < m) = true := decide_eq_true (by omega)
    clear hm
    go_enter Tryd.func3, Tryd.ntmps3
    go_wp2
    go_ret
    exact ⟨rfl, Ch.refl _ _⟩
end Go.Proofs.YtcipapjlkibleaaDoor
