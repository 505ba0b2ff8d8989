/- The walks of MessagePack's complex numbers: 8 bytes stored and read. No condition. -/
import Derived.Test.YtkbjnkhkjgomcaaDoorPutA
import Derived.Test.YtkbjnkhkjgomcaaDoorCodec
import Derived.Test.YtkbjnkhkjgomcaaDoorExt
import Derived.Test.YtkbjnkhkjgomcaaDoorNum
import Derived.Lib.EndianBits
import Derived.RegionTactic
import Derived.Deep.QuietTactic
import Derived.StillTailTactics
namespace Go.Proofs.YtkbjnkhkjgomcaaDoor
set_option linter.unusedVariables false
set_option linter.unusedSimpArgs false
open Go.RowKit

theorem stitch {cur : List Value} {l vs : List Int} (h : cur.take l.length = l.map u8) (hl : l.length + vs.length ≤ cur.length) :
    (cur.take l.length ++ vs.map u8 ++ cur.drop (l.length + vs.length)).take (l.length + vs.length) = (l ++ vs).map u8 ∧ (cur.take l.length ++ vs.map u8 ++ cur.drop (l.length + vs.length)).length = cur.length := by
  constructor
  · rw [h, ← List.map_append, List.take_append_of_le_length (by simp), List.take_of_length_le (by simp)]
  · simp
    omega
/-- A number's 8 bytes are stored behind l. -/
def PbTo (g : Nat) (L : Nat) (l bs : List Int) (w : World) (e : Ending) (w' : World) : Prop :=
  ∃ cur', e = .returned (.tuple #[]) ∧ Row w' g 5 cur' ∧ cur'.take (l.length + bs.length) = (l ++ bs).map u8 ∧ cur'.length = L ∧ Ch (fun k => k = g) w w'
set_option maxRecDepth 100000 in
set_option maxHeartbeats 2000000 in
theorem putBe64_calls (g off n c : Nat) (y : Int) (l : List Int) (w : World) (cur : List Value) (hrow : Row w g 5 cur) (htk : cur.take l.length = l.map u8) (hoff : off = l.length) (ho : off + 8 ≤ cur.length) (hn : 8 ≤ n) (hy : 0 ≤ y ∧ y < 18446744073709551616) :
    Calls Tryd.prog 17 #[.agg #[], .slice (some ⟨g, off, none⟩) n c, .int .u64 y] w (PbTo g cur.length l (be8 y) w) := by
  have hrow1 := hrow.keep0 ((Ch.refl No w).alloc (.cells #[] 51))
  have hst := stitch (vs := be8 y) htk (by simp [be8]; omega)
  have hsets := Row.sets ((be8 y).map u8) off _ cur hrow1 (by simpa [be8] using ho)
  rw [List.length_map, hoff] at hsets
  rw [← hoff] at hsets
  obtain ⟨u0, h0⟩ : ∃ u, (w.alloc (.cells #[] 51)).cell? ⟨g, off, none⟩ = some u := ⟨_, hrow1.cell (off) cur[off] (List.getElem?_eq_getElem (by omega))⟩
  have f0 : (w.alloc (.cells #[] 51)).frozen? ⟨g, off, none⟩ = false := hrow1.frozen _
  obtain ⟨u1, h1⟩ : ∃ u, (w.alloc (.cells #[] 51)).cell? ⟨g, off + 1, none⟩ = some u := ⟨_, hrow1.cell (off + 1) cur[off + 1] (List.getElem?_eq_getElem (by omega))⟩
  have f1 : (w.alloc (.cells #[] 51)).frozen? ⟨g, off + 1, none⟩ = false := hrow1.frozen _
  obtain ⟨u2, h2⟩ : ∃ u, (w.alloc (.cells #[] 51)).cell? ⟨g, off + 2, none⟩ = some u := ⟨_, hrow1.cell (off + 2) cur[off + 2] (List.getElem?_eq_getElem (by omega))⟩
  have f2 : (w.alloc (.cells #[] 51)).frozen? ⟨g, off + 2, none⟩ = false := hrow1.frozen _
  obtain ⟨u3, h3⟩ : ∃ u, (w.alloc (.cells #[] 51)).cell? ⟨g, off + 3, none⟩ = some u := ⟨_, hrow1.cell (off + 3) cur[off + 3] (List.getElem?_eq_getElem (by omega))⟩
  have f3 : (w.alloc (.cells #[] 51)).frozen? ⟨g, off + 3, none⟩ = false := hrow1.frozen _
  obtain ⟨u4, h4⟩ : ∃ u, (w.alloc (.cells #[] 51)).cell? ⟨g, off + 4, none⟩ = some u := ⟨_, hrow1.cell (off + 4) cur[off + 4] (List.getElem?_eq_getElem (by omega))⟩
  have f4 : (w.alloc (.cells #[] 51)).frozen? ⟨g, off + 4, none⟩ = false := hrow1.frozen _
  obtain ⟨u5, h5⟩ : ∃ u, (w.alloc (.cells #[] 51)).cell? ⟨g, off + 5, none⟩ = some u := ⟨_, hrow1.cell (off + 5) cur[off + 5] (List.getElem?_eq_getElem (by omega))⟩
  have f5 : (w.alloc (.cells #[] 51)).frozen? ⟨g, off + 5, none⟩ = false := hrow1.frozen _
  obtain ⟨u6, h6⟩ : ∃ u, (w.alloc (.cells #[] 51)).cell? ⟨g, off + 6, none⟩ = some u := ⟨_, hrow1.cell (off + 6) cur[off + 6] (List.getElem?_eq_getElem (by omega))⟩
  have f6 : (w.alloc (.cells #[] 51)).frozen? ⟨g, off + 6, none⟩ = false := hrow1.frozen _
  obtain ⟨u7, h7⟩ : ∃ u, (w.alloc (.cells #[] 51)).cell? ⟨g, off + 7, none⟩ = some u := ⟨_, hrow1.cell (off + 7) cur[off + 7] (List.getElem?_eq_getElem (by omega))⟩
  have f7 : (w.alloc (.cells #[] 51)).frozen? ⟨g, off + 7, none⟩ = false := hrow1.frozen _

  obtain ⟨hy0, hy1⟩ := hy
  have hn7 : (7 : Int) < n := by omega
  have HS := hid (And.intro hsets hst)
  have HO := hid hoff
  clear hrow1 hrow ho hsets hst htk hoff
  go_enter Tryd.func17, Tryd.ntmps17
  go_wp2_with (go_quiet (fail))
  go_end0
  obtain ⟨⟨s1, s2⟩, s3, s4⟩ := HS.out
  obtain rfl := HO.out
  exact ⟨_, rfl, s1, s3, s4, (Ch.of_no ((Ch.refl No w).alloc _)).trans s2 (fun _ h => h) (fun _ h => .inl h)⟩
set_option maxRecDepth 100000 in
set_option maxHeartbeats 2000000 in
theorem be64_calls (A : Option Addr) (c : Nat) (l : List Int) (w : World) (hr : Rd u8 w A l) (hb : Byt l) (hn : 8 ≤ l.length) :
    Calls Tryd.prog 22 #[.agg #[], .slice A l.length c] w fun e w' => e = .returned (.int .u64 (beN (l.take 8))) ∧ Ch No w w' := by
  match l, hn with
  | b0 :: b1 :: b2 :: b3 :: b4 :: b5 :: b6 :: b7 :: r, _ =>
    have hr' := hr.keep0 ((Ch.refl No w).alloc (.cells #[] 51))
    obtain ⟨bk, off, rfl, c0⟩ := hr'.at_ 0 (by simp)
    obtain ⟨bk', off', he, c1⟩ := hr'.at_ 1 (by simp)
    injection he with he
    injection he with he1 he2
    subst he1; subst he2
    obtain ⟨bk', off', he, c2⟩ := hr'.at_ 2 (by simp)
    injection he with he
    injection he with he1 he2
    subst he1; subst he2
    obtain ⟨bk', off', he, c3⟩ := hr'.at_ 3 (by simp)
    injection he with he
    injection he with he1 he2
    subst he1; subst he2
    obtain ⟨bk', off', he, c4⟩ := hr'.at_ 4 (by simp)
    injection he with he
    injection he with he1 he2
    subst he1; subst he2
    obtain ⟨bk', off', he, c5⟩ := hr'.at_ 5 (by simp)
    injection he with he
    injection he with he1 he2
    subst he1; subst he2
    obtain ⟨bk', off', he, c6⟩ := hr'.at_ 6 (by simp)
    injection he with he
    injection he with he1 he2
    subst he1; subst he2
    obtain ⟨bk', off', he, c7⟩ := hr'.at_ 7 (by simp)
    injection he with he
    injection he with he1 he2
    subst he1; subst he2
    simp only [List.getElem_cons_zero, List.getElem_cons_succ, Nat.add_zero] at c0 c1 c2 c3 c4 c5 c6 c7
    replace c0 : World.cell? _ _ = some (.int .u8 b0) := c0
    have h0 := hb b0 (by simp)
    replace c1 : World.cell? _ _ = some (.int .u8 b1) := c1
    have h1 := hb b1 (by simp)
    replace c2 : World.cell? _ _ = some (.int .u8 b2) := c2
    have h2 := hb b2 (by simp)
    replace c3 : World.cell? _ _ = some (.int .u8 b3) := c3
    have h3 := hb b3 (by simp)
    replace c4 : World.cell? _ _ = some (.int .u8 b4) := c4
    have h4 := hb b4 (by simp)
    replace c5 : World.cell? _ _ = some (.int .u8 b5) := c5
    have h5 := hb b5 (by simp)
    replace c6 : World.cell? _ _ = some (.int .u8 b6) := c6
    have h6 := hb b6 (by simp)
    replace c7 : World.cell? _ _ = some (.int .u8 b7) := c7
    have h7 := hb b7 (by simp)
    have hlen : (7 : Int) < ((b0 :: b1 :: b2 :: b3 :: b4 :: b5 :: b6 :: b7 :: r).length : Int) := by simp; omega
    have hwr : ∀ n : Int, 0 ≤ n → n < 2 ^ 64 → IntKind.u64.wrap n = n := fun n h0 h1 => by simp [IntKind.wrap, IntKind.bits, IntKind.signed]; omega
    have hor1 : bits .or .u64 (b7) (b6 * 256) = b6 * 256 + (b7) := by
      rw [bits_join_low .u64 64 (by decide) hwr 8 (b7) (b6 * 256) (by omega) (by omega) (by omega) (by omega) (by omega) (by omega)]
      omega
    have hor2 : bits .or .u64 (b6 * 256 + b7) (b5 * 65536) = b5 * 65536 + (b6 * 256 + b7) := by
      rw [bits_join_low .u64 64 (by decide) hwr 16 (b6 * 256 + b7) (b5 * 65536) (by omega) (by omega) (by omega) (by omega) (by omega) (by omega)]
      omega
    have hor3 : bits .or .u64 (b5 * 65536 + (b6 * 256 + b7)) (b4 * 16777216) = b4 * 16777216 + (b5 * 65536 + (b6 * 256 + b7)) := by
      rw [bits_join_low .u64 64 (by decide) hwr 24 (b5 * 65536 + (b6 * 256 + b7)) (b4 * 16777216) (by omega) (by omega) (by omega) (by omega) (by omega) (by omega)]
      omega
    have hor4 : bits .or .u64 (b4 * 16777216 + (b5 * 65536 + (b6 * 256 + b7))) (b3 * 4294967296) = b3 * 4294967296 + (b4 * 16777216 + (b5 * 65536 + (b6 * 256 + b7))) := by
      rw [bits_join_low .u64 64 (by decide) hwr 32 (b4 * 16777216 + (b5 * 65536 + (b6 * 256 + b7))) (b3 * 4294967296) (by omega) (by omega) (by omega) (by omega) (by omega) (by omega)]
      omega
    have hor5 : bits .or .u64 (b3 * 4294967296 + (b4 * 16777216 + (b5 * 65536 + (b6 * 256 + b7)))) (b2 * 1099511627776) = b2 * 1099511627776 + (b3 * 4294967296 + (b4 * 16777216 + (b5 * 65536 + (b6 * 256 + b7)))) := by
      rw [bits_join_low .u64 64 (by decide) hwr 40 (b3 * 4294967296 + (b4 * 16777216 + (b5 * 65536 + (b6 * 256 + b7)))) (b2 * 1099511627776) (by omega) (by omega) (by omega) (by omega) (by omega) (by omega)]
      omega
    have hor6 : bits .or .u64 (b2 * 1099511627776 + (b3 * 4294967296 + (b4 * 16777216 + (b5 * 65536 + (b6 * 256 + b7))))) (b1 * 281474976710656) = b1 * 281474976710656 + (b2 * 1099511627776 + (b3 * 4294967296 + (b4 * 16777216 + (b5 * 65536 + (b6 * 256 + b7))))) := by
      rw [bits_join_low .u64 64 (by decide) hwr 48 (b2 * 1099511627776 + (b3 * 4294967296 + (b4 * 16777216 + (b5 * 65536 + (b6 * 256 + b7))))) (b1 * 281474976710656) (by omega) (by omega) (by omega) (by omega) (by omega) (by omega)]
      omega
    have hor7 : bits .or .u64 (b1 * 281474976710656 + (b2 * 1099511627776 + (b3 * 4294967296 + (b4 * 16777216 + (b5 * 65536 + (b6 * 256 + b7)))))) (b0 * 72057594037927936) = b0 * 72057594037927936 + (b1 * 281474976710656 + (b2 * 1099511627776 + (b3 * 4294967296 + (b4 * 16777216 + (b5 * 65536 + (b6 * 256 + b7)))))) := by
      rw [bits_join_low .u64 64 (by decide) hwr 56 (b1 * 281474976710656 + (b2 * 1099511627776 + (b3 * 4294967296 + (b4 * 16777216 + (b5 * 65536 + (b6 * 256 + b7)))))) (b0 * 72057594037927936) (by omega) (by omega) (by omega) (by omega) (by omega) (by omega)]
      omega
    have hN : beN ((b0 :: b1 :: b2 :: b3 :: b4 :: b5 :: b6 :: b7 :: r).take 8) = b0 * 72057594037927936 + (b1 * 281474976710656 + (b2 * 1099511627776 + (b3 * 4294967296 + (b4 * 16777216 + (b5 * 65536 + (b6 * 256 + b7)))))) := by simp [beN]; omega

    rw [hN]
    obtain ⟨m, hm⟩ : ∃ m, (b0 :: b1 :: b2 :: b3 :: b4 :: b5 :: b6 :: b7 :: r).length = m := ⟨_, rfl⟩
    rw [hm] at hlen ⊢
    clear hN hm hr' hr hb hwr
    go_enter Tryd.func22, Tryd.ntmps22
    go_wp2_with (go_quiet (fail))
    go_ret
    exact ⟨rfl, ((Ch.refl No w).alloc _).drewN _⟩
def encC (re im : Int) : List Int := [216, 4] ++ be8 re ++ be8 im
set_option maxRecDepth 100000 in
set_option maxHeartbeats 2000000 in
theorem appCx (A : Option Addr) (c : Nat) (l : List Int) (n m : Nat) (w : World) (h : Ow 5 u8 w (.slice A l.length c) l) (hl : l.length ≤ 1099511627776) (hn : (n : Int) < 18446744073709551616) (hm : (m : Int) < 18446744073709551616) :
    Calls Tryd.prog 8 #[.slice A l.length c, .complex .f64 n m] w (AppTo w (.slice A l.length c) l (encC n m)) := by
  have hfb0 := float64bits_run n
  have hfb1 := float64bits_run m
  go_enter Tryd.func8, Tryd.ntmps8
  go_wp2_with fail
  refine (ensure_calls _ _ l _ w h (by omega) (by omega)).mono ?_
  rintro e w1 ⟨g, cur, rfl, hrow, htk, hlen, hmx, hch, hor⟩
  simp only [Int.reduceToNat] at hlen ⊢
  have hs := Row.sets [.int .u8 216, .int .u8 4] l.length w1 cur hrow (by simp; omega)
  have hst := stitch (vs := [216, 4]) htk (by simp; omega)
  obtain ⟨u0, h0⟩ : ∃ u, w1.cell? ⟨g, l.length, none⟩ = some u := ⟨_, hrow.cell (l.length) cur[l.length] (List.getElem?_eq_getElem (by omega))⟩
  have f0 : w1.frozen? ⟨g, l.length, none⟩ = false := hrow.frozen _
  obtain ⟨u1, h1⟩ : ∃ u, w1.cell? ⟨g, l.length + 1, none⟩ = some u := ⟨_, hrow.cell (l.length + 1) cur[l.length + 1] (List.getElem?_eq_getElem (by omega))⟩
  have f1 : w1.frozen? ⟨g, l.length + 1, none⟩ = false := hrow.frozen _
  obtain ⟨A2, hk2, hk2', hcut⟩ := Cut.ahead_l 22 5 Tryd.underlying22 size_u8 (some ⟨g, 0, none⟩) (l.length + 18) cur.length ((l.length : Int) + 2) (l.length + 2) (by omega) .i64 (by omega)
  have hA' := hcut.at_ g 0 rfl (by omega)
  rw [Nat.zero_add] at hA'
  subst hA'
  clear hcut
  rw [show l.length + 18 - (l.length + 2) = 16 by omega] at hk2 hk2'
  obtain ⟨A10, hk10, hk10', hcut⟩ := Cut.ahead_l 22 5 Tryd.underlying22 size_u8 (some ⟨g, 0, none⟩) (l.length + 18) cur.length ((l.length : Int) + 10) (l.length + 10) (by omega) .i64 (by omega)
  have hA' := hcut.at_ g 0 rfl (by omega)
  rw [Nat.zero_add] at hA'
  subst hA'
  clear hcut
  rw [show l.length + 18 - (l.length + 10) = 8 by omega] at hk10 hk10'

  have hw2 : IntKind.i64.wrap ((l.length : Int) + 2) = (l.length : Int) + 2 := by simp [IntKind.wrap, IntKind.bits, IntKind.signed]; omega
  have hw10 : IntKind.i64.wrap ((l.length : Int) + 10) = (l.length : Int) + 10 := by simp [IntKind.wrap, IntKind.bits, IntKind.signed]; omega
  go_wp2_with fail
  go_still_tail 8, (by kernel_rfl)
  change wpList _ _ _ _ _ (World.setCells w1 g l.length [.int .u8 216, .int .u8 4]).drew
  obtain ⟨cur2, hs1, hst3, hst2, hs2⟩ : ∃ cur2, Row (World.setCells w1 g l.length [.int .u8 216, .int .u8 4]) g 5 cur2 ∧ cur2.take (l ++ [216, 4]).length = (l ++ [216, 4]).map u8 ∧ cur2.length = cur.length ∧ Ch (fun k => k = g) w1 (World.setCells w1 g l.length [.int .u8 216, .int .u8 4]) := ⟨_, hs.1, by rw [List.length_append]; exact hst.1, hst.2, hs.2⟩
  clear hs hst
  clear h0 h1 f0 f1
  generalize World.setCells w1 g l.length [.int .u8 216, .int .u8 4] = w2 at hs1 hs2 ⊢
  have hs1' : Row w2.drew g 5 cur2 := hs1
  have hlen2 : l.length + 18 ≤ cur2.length := by omega
  go_wp2_with (first | (go_at_call 17; refine (putBe64_calls g (l.length + 2) 16 _ n (l ++ [216, 4]) w2.drew cur2 hs1' hst3 (by simp) (by omega) (by omega) ⟨by omega, hn⟩).mono ?_; rintro e w3 ⟨cur3, rfl, hrow3, htk3, hlen3, hch3⟩))
  go_still_tail 8, (by kernel_rfl)
  change wpList _ _ _ _ _ w3.drew
  have hrow3' : Row w3.drew g 5 cur3 := hrow3
  have htk3' : cur3.take ((l ++ [216, 4]) ++ be8 n).length = ((l ++ [216, 4]) ++ be8 n).map u8 := by rw [List.length_append]; exact htk3
  go_wp2_with (first | (go_at_call 17; refine (putBe64_calls g (l.length + 10) 8 _ m ((l ++ [216, 4]) ++ be8 n) w3.drew cur3 hrow3' htk3' (by simp [be8]) (by omega) (by omega) ⟨by omega, hm⟩).mono ?_; rintro e w4 ⟨cur4, rfl, hrow4, htk4, hlen4, hch4⟩))
  go_ret
  have hC : Ch (fun k => k = g) w1 w4 := (hs2.trans (b := w2) ⟨hch3.os, hch3.tape, hch3.output, hch3.size, hch3.block⟩ (fun _ h => h) (fun _ h => .inl h)).trans (b := w3) ⟨hch4.os, hch4.tape, hch4.output, hch4.size, hch4.block⟩ (fun _ h => h) (fun _ h => .inl h)
  have he : ((l ++ [216, 4]) ++ be8 n) ++ be8 m = l ++ encC n m := by simp [encC]
  rw [he] at htk4
  have hll : (l ++ encC n m).length = l.length + 18 := by simp [encC, be8]
  have hlx : ((l ++ [216, 4]) ++ be8 n).length + (be8 m).length = l.length + 18 := by simp [be8]
  rw [hlx] at htk4
  have hL : cur.length = cur4.length := by omega
  refine ⟨_, rfl, ?_, ?_, ?_⟩
  · have := hrow4.ow (f := u8) (l := l ++ encC n m) (by rw [hll]; exact htk4) (by rw [hll]; omega) (by omega)
    rw [hll, ← hL] at this
    exact this
  · rcases hor with rfl | hg
    · exact hch.trans hC (fun _ h => h.elim) (fun x hx => .inl (by subst hx; exact Blk_slice.2 rfl))
    · exact hch.trans hC (fun _ h => h.elim) (fun x hx => .inr (by subst hx; exact hg))
  · intro k hk
    have hk' := Blk_slice.1 hk
    subst hk'
    rcases hor with rfl | hg
    · exact .inl (Blk_slice.2 rfl)
    · exact .inr hg
theorem encC_len (re im : Int) : (encC re im).length = 18 := rfl
set_option maxRecDepth 100000 in
set_option maxHeartbeats 2000000 in
theorem putCx (A : Option Addr) (c : Nat) (l : List Int) (re im : Int) (w : World) (hr : Rd u8 w A l) (hl : l.length ≤ 1099511627776) (h0 : 0 ≤ re) (h1 : re < 18446744073709551616) (k0 : 0 ≤ im) (k1 : im < 18446744073709551616) :
    Calls Tryd.prog 4 #[.slice A l.length c, .int .u64 re, .int .u64 im] w fun e w' => ∃ v, e = .returned v ∧ Ow 5 u8 w' v (l ++ encC re im) ∧ Fr w v ∧ Ch No w w' := by
  obtain ⟨n, rfl⟩ := Int.eq_ofNat_of_zero_le h0
  obtain ⟨m, rfl⟩ := Int.eq_ofNat_of_zero_le k0
  have hf0 := float64frombits_run n
  have hf1 := float64frombits_run m
  rw [Int.toNat_natCast] at hf0 hf1
  have hcp := copied_calls A c l w hr (by omega)
  obtain ⟨L, hL⟩ : ∃ L, l.length = L := ⟨_, rfl⟩
  rw [hL] at hcp hl ⊢
  have HL := hid hL
  clear hL
  go_enter Tryd.func4, Tryd.ntmps4
  go_wp2_with fail
  refine hcp.mono ?_
  rintro e w1 ⟨v1, rfl, ho1, hf1', hch1⟩
  go_wp2_with fail
  obtain ⟨A1, c1, rfl, _, _⟩ := ho1.slice
  obtain rfl := HL.out
  refine (appCx A1 c1 l n m w1 ho1 hl (by omega) (by omega)).mono ?_
  rintro e w2 ⟨v2, rfl, ho2, hch2, hat2⟩
  go_wp2_with fail
  go_ret
  exact ⟨v2, rfl, ho2, hf1'.step hch1.size hat2, hch1.fresh hch2 hf1'⟩
end Go.Proofs.YtkbjnkhkjgomcaaDoor
