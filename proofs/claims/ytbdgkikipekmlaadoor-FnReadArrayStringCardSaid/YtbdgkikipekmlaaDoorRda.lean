/- The walks of the Buffer's readers. The walks of the Buffer's Next, Len and Bytes. The walks of the Buffer's readers of numbers. The walks of the readers of AMQP's codes and doubles. The walks of what a reader hands back. The walks of buffer.New and encoding.ReadDouble. No condition. -/
import Derived.Test.YtbdgkikipekmlaaDoorLaid
import Derived.Deep.QuietTactic
import Derived.Test.YtbdgkikipekmlaaDoorBas
import Derived.Lib.EndianBits
import Derived.RegionTactic
import Derived.Deep.RegionHeld3
import Derived.Defers
namespace Go.Proofs.YtbdgkikipekmlaaDoor
set_option linter.unusedVariables false
set_option linter.unusedSimpArgs false
open Go.RowKit

/-- A Buffer at block p that holds the bytes l, i of them read. -/
structure RbS (p : Nat) (A : Option Addr) (c : Nat) (l : List Int) (i : Nat) (w : World) : Prop where
  rp : Row w p 66 [.slice A l.length c, .int .i64 i]
  rd : Rd u8 w A l
  le : i ≤ l.length
  lc : l.length ≤ c
  ap : ∀ ad, A = some ad → ad.block ≠ p
  lb : l.length ≤ 1099511627776
theorem RbS.keep0 {p : Nat} {A : Option Addr} {c : Nat} {l : List Int} {i : Nat} {w w' : World} (h : RbS p A c l i w) (k : Ch No w w') : RbS p A c l i w' :=
  ⟨h.rp.keep0 k, h.rd.keep0 k, h.le, h.lc, h.ap, h.lb⟩
/-- It has been read on. -/
theorem RbS.on {p : Nat} {A : Option Addr} {c : Nat} {l : List Int} {i j : Nat} {w w' : World} (h : RbS p A c l i w) (hr : Row w' p 66 [.slice A l.length c, .int .i64 j]) (k : Ch (fun b => b = p) w w') (hj : j ≤ l.length) : RbS p A c l j w' :=
  ⟨hr, h.rd.keep k h.ap, hj, h.lc, h.ap, h.lb⟩
theorem size_i64 : (Tryd.prog.info? 3).map (·.size) = some 1 := by kernel_rfl
theorem check_calls {p : Nat} {A : Option Addr} {c : Nat} {l : List Int} {i : Nat} {w : World} (h : RbS p A c l i w) (k : Int) (h0 : 0 ≤ k) (h1 : k ≤ 4294967296) :
    Calls Tryd.prog 99 #[.pointer (some ⟨p, 0, none⟩), .int .i64 k] w fun e w' => e = .returned (.bool (decide ((l.length : Int) < i + k))) ∧ Ch No w w' := by
  have c0 := h.rp.cell 0 _ rfl
  have c1 := h.rp.cell 1 _ rfl
  have hb := h.lb
  have hi := h.le
  generalize l.length = N at c0 hb hi ⊢
  go_enter Tryd.func99, Tryd.ntmps99
  go_wp2_with (go_quiet (fail))
  go_ret
  exact ⟨rfl, (Ch.refl _ _).drewN _⟩
set_option maxRecDepth 100000 in
set_option maxHeartbeats 1000000 in
theorem rbyte_ok {p : Nat} {A : Option Addr} {c : Nat} {l : List Int} {i : Nat} {w : World} (h : RbS p A c l i w) (hi : i < l.length) :
    Calls Tryd.prog 89 #[.pointer (some ⟨p, 0, none⟩)] w fun e w' => e = .returned (.tuple #[.int .u8 l[i], .nilIface]) ∧ RbS p A c l (i + 1) w' ∧ Ch (fun b => b = p) w w' := by
  have hck := check_calls h 1 (by omega) (by omega)
  rw [show decide ((l.length : Int) < i + 1) = false from decide_eq_false (by omega)] at hck
  have c0 := h.rp.cell 0 _ rfl
  have c1 := h.rp.cell 1 _ rfl
  obtain ⟨b, o, rfl, hx⟩ := h.rd.at_ i hi
  have hb := h.lb
  have hR := h.rp
  have H := hid h
  obtain ⟨N, hN⟩ : ∃ N, l.length = N := ⟨_, rfl⟩
  have HN := hid hN
  obtain ⟨x, hxe⟩ : ∃ x, l[i] = x := ⟨_, rfl⟩
  rw [hxe] at hx ⊢
  rw [hN] at c0 hb hR hi
  have hiN : (i : Int) < N := by omega
  have hi0 : (0 : Int) ≤ i := by omega
  clear hN hxe h
  go_enter Tryd.func89, Tryd.ntmps89
  go_wp2_with fail
  refine hck.mono ?_
  rintro e w1 ⟨rfl, hch1⟩
  have d0 := hch1.cell0 c0
  have d1 := hch1.cell0 c1
  have dx := hch1.cell0 hx
  have hR1 := hR.keep0 hch1
  go_wp2_with (first | go_quiet (fail) | ((with_reducible refine gate (.store 3 _ _) rfl ?_); refine wp_store rfl rfl 3 _ _ rfl p 1 66 [.slice (some ⟨b, o, none⟩) N c, .int .i64 i] (.int .i64 (i + 1)) rfl rfl [.int .i64 (i + 1)] rfl size_i64 (by simp [Value.oneCell']) (hR1.keep0 ((Ch.refl No w1).drewN _)) (by simp) ?_; intro w2 hrow2 hch2))
  go_ret2
  have hk : Ch (fun b => b = p) w w2 := Ch.no_then (hch1.drewN _) hch2
  refine ⟨rfl, H.out.on ?_ hk (by rw [HN.out]; omega), hk⟩
  rw [HN.out]
  simpa using hrow2
set_option maxRecDepth 100000 in
theorem rbyte_no {p : Nat} {A : Option Addr} {c : Nat} {l : List Int} {i : Nat} {w : World} (h : RbS p A c l i w) (hi : l.length ≤ i) (hE : Eof w) :
    Calls Tryd.prog 89 #[.pointer (some ⟨p, 0, none⟩)] w fun e w' => ∃ T v, e = .returned (.tuple #[.int .u8 0, .iface T v]) ∧ Ch No w w' := by
  have hck := check_calls h 1 (by omega) (by omega)
  rw [show decide ((l.length : Int) < i + 1) = true from decide_eq_true (by omega)] at hck
  obtain ⟨T, v, hv⟩ := hE
  go_enter Tryd.func89, Tryd.ntmps89
  go_wp2_with fail
  refine hck.mono ?_
  rintro e w1 ⟨rfl, hch1⟩
  have hv1 := hch1.cell0 hv
  go_wp2_with (go_quiet (fail))
  go_ret2
  exact ⟨T, v, rfl, hch1.drewN _⟩
end Go.Proofs.YtbdgkikipekmlaaDoor

namespace Go.Proofs.YtbdgkikipekmlaaDoor
set_option linter.unusedVariables false
set_option linter.unusedSimpArgs false
open Go.RowKit
theorem Cut.ahead_lh2 {P : Program} (t e : TypeId) (ht : P.underlying t = some (.slice e)) (hsz : (P.info? e).map (·.size) = some 1) (A : Option Addr) (n c : Nat) (i i' : Int) (L H : Nat) (hi : i = (L : Int)) (hi' : i' = (H : Int)) (k k' : IntKind) (hL : L ≤ H) (hH : H ≤ c) :
    ∃ A', (∀ W : World, (Instr.sliceAt t (.slice A n c) (some (.int k i)) (some (.int k' i')) none).run P W = .ok (.slice A' (H - L) (c - L)) W) ∧ (∀ W : World, (Instr.slice t (.slice A n c) (some (.int k i)) (some (.int k' i')) none).run P W = .ok (.slice A' (H - L) (c - L)) W) ∧ Cut A n c L H A' := by
  subst hi; subst hi'
  obtain ⟨inf, hinf, hs⟩ := Option.map_eq_some_iff.1 hsz
  have hel : P.elem t = e := by simp [Program.elem, ht]
  have hu : P.underlying t = some (.slice (P.elem t)) := by rw [hel]; exact ht
  have h0 : ∀ W : World, (Instr.slice t (.slice A n c) (some (.int k (L : Int))) (some (.int k' (H : Int))) none).run P W = .ok (.slice (if c = L then A else A.map (·.add L)) (H - L) (c - L)) W := fun W => by
    rw [run_slice_lh W t A n c hu k k' (L : Int) (H : Int) (Int.natCast_nonneg _) (by omega) (by omega), hel]
    simp [sizeOf, typeInfo, hinf, hs, sliced, Result.andThen]
  exact ⟨_, fun W => by rw [run_sliceAt_slice W t _ _ _ _ hu, h0], h0, Cut.mk' A n c L H⟩
theorem size_u8' : (Tryd.prog.info? 5).map (·.size) = some 1 := by kernel_rfl
theorem len_calls {p : Nat} {A : Option Addr} {c : Nat} {l : List Int} {i : Nat} {w : World} (h : RbS p A c l i w) :
    Calls Tryd.prog 88 #[.pointer (some ⟨p, 0, none⟩)] w fun e w' => e = .returned (.int .i64 ((l.length : Int) - i)) ∧ Ch No w w' := by
  have c0 := h.rp.cell 0 _ rfl
  have c1 := h.rp.cell 1 _ rfl
  have hb := h.lb
  have hi := h.le
  generalize l.length = N at c0 hb hi ⊢
  go_enter Tryd.func88, Tryd.ntmps88
  go_wp2_with (go_quiet (fail))
  go_ret
  exact ⟨rfl, (Ch.refl _ _).drewN _⟩
/-- What is unread, as a slice. -/
def BsT (x : List Int) (w : World) (e : Ending) (w' : World) : Prop := ∃ A' c', e = .returned (.slice A' x.length c') ∧ Rd u8 w' A' x ∧ x.length ≤ c' ∧ Ch No w w'
set_option maxRecDepth 100000 in
theorem bytes_calls {p : Nat} {A : Option Addr} {c : Nat} {l : List Int} {i : Nat} {w : World} (h : RbS p A c l i w) :
    Calls Tryd.prog 35 #[.pointer (some ⟨p, 0, none⟩)] w (BsT (l.drop i) w) := by
  have c0 := h.rp.cell 0 _ rfl
  have c1 := h.rp.cell 1 _ rfl
  have hb := h.lb
  have hi := h.le
  have hlc := h.lc
  obtain ⟨A2, hk2, hk3, hcut⟩ := Cut.ahead_l 26 5 Tryd.underlying26 size_u8' A l.length c i i rfl .i64 hi
  have hrd := hcut.drop h.rd rfl hlc
  have hdl : (l.drop i).length = l.length - i := List.length_drop
  have HL := hid hdl
  have HR := hid hrd
  clear hrd hdl hcut
  generalize l.drop i = X at HL HR ⊢
  generalize l.length = N at c0 hb hi hk2 hk3 HL hlc
  have HC : Hid (N - i ≤ c - i) := hid (by omega)
  generalize N - i = q at hk2 hk3 HL HC
  generalize c - i = c2 at hk2 hk3 HC
  go_enter Tryd.func35, Tryd.ntmps35
  go_wp2_with (go_quiet (fail))
  go_ret
  obtain rfl := HL.out
  exact ⟨A2, c2, rfl, HR.out.keep0 ((Ch.refl _ _).drewN _), HC.out, (Ch.refl _ _).drewN _⟩
/-- The next bytes, and the Buffer behind them. -/
def NxT (p : Nat) (A : Option Addr) (c : Nat) (l : List Int) (i n : Nat) (w : World) (e : Ending) (w' : World) : Prop := ∃ A' c', e = .returned (.tuple #[.slice A' n c', .bool true]) ∧ Rd u8 w' A' ((l.drop i).take n) ∧ n ≤ c' ∧ RbS p A c l (i + n) w' ∧ Ch (fun b => b = p) w w' ∧ ∀ ad, A' = some ad → ad.block ≠ p
set_option maxRecDepth 100000 in
set_option maxHeartbeats 1000000 in
theorem next_ok {p : Nat} {A : Option Addr} {c : Nat} {l : List Int} {i : Nat} {w : World} (h : RbS p A c l i w) (n : Nat) (hn : i + n ≤ l.length) (hn1 : n ≤ 4294967296) :
    Calls Tryd.prog 82 #[.pointer (some ⟨p, 0, none⟩), .int .i64 n] w (NxT p A c l i n w) := by
  have hck := check_calls h n (by omega) (by omega)
  rw [show decide ((l.length : Int) < i + n) = false from decide_eq_false (by omega)] at hck
  have c0 := h.rp.cell 0 _ rfl
  have c1 := h.rp.cell 1 _ rfl
  have hb := h.lb
  have hlc := h.lc
  have hR := h.rp
  have hap := h.ap
  obtain ⟨A2, hk2, hk3, hcut⟩ := Cut.ahead_lh2 26 5 Tryd.underlying26 size_u8' A l.length c i ((i : Int) + n) i (i + n) rfl (by omega) .i64 .i64 (by omega) (by omega)
  have hrd := hcut.rd u8 w l h.rd rfl hlc hn
  have hA2 : ∀ ad, A2 = some ad → ad.block ≠ p := fun ad e => by
    obtain ⟨ad0, e0, e1⟩ := hcut.same ad e
    rw [e1]
    exact hap ad0 e0
  have HR : Hid (Rd u8 w A2 ((l.drop i).take n)) := hid (by rw [show (l.drop i).take n = (l.take (i + n)).drop i from by rw [List.drop_take]; congr 1; omega]; exact hrd)
  have H := hid h
  obtain ⟨N, hN⟩ : ∃ N, l.length = N := ⟨_, rfl⟩
  have HN := hid hN
  rw [hN] at c0 hb hR hn hk2 hk3 hlc
  rw [show i + n - i = n by omega] at hk2 hk3
  have HC : Hid (n ≤ c - i) := hid (by omega)
  generalize c - i = c2 at hk2 hk3 HC
  have hnN : (i : Int) + n ≤ N := by omega
  have HA2 := hid hA2
  clear hN h hrd hcut hA2 hap
  go_enter Tryd.func82, Tryd.ntmps82
  go_wp2_with fail
  refine hck.mono ?_
  rintro e w1 ⟨rfl, hch1⟩
  have d0 := hch1.cell0 c0
  have d1 := hch1.cell0 c1
  have hR1 := hR.keep0 hch1
  go_wp2_with (first | go_quiet (fail) | ((with_reducible refine gate (.store 3 _ _) rfl ?_); refine wp_store rfl rfl 3 _ _ rfl p 1 66 [.slice A N c, .int .i64 i] (.int .i64 ((i : Int) + n)) rfl rfl [.int .i64 ((i : Int) + n)] rfl size_i64 (by simp [Value.oneCell']) (hR1.keep0 ((Ch.refl No w1).drewN _)) (by simp) ?_; intro w2 hrow2 hch2))
  go_ret2
  have hk : Ch (fun b => b = p) w w2 := Ch.no_then (hch1.drewN _) hch2
  refine ⟨A2, c2, rfl, HR.out.keep hk HA2.out, HC.out, H.out.on ?_ hk (by rw [HN.out]; exact hn), hk, HA2.out⟩
  rw [HN.out]
  simpa using hrow2
/-- Fewer bytes are left: they come back, and that they are too few. -/
def NxNo (w : World) (p : Nat) (e : Ending) (w' : World) : Prop := ∃ v, e = .returned (.tuple #[v, .bool false]) ∧ Ch (fun b => b = p) w w'
set_option maxRecDepth 100000 in
set_option maxHeartbeats 1000000 in
theorem next_no {p : Nat} {A : Option Addr} {c : Nat} {l : List Int} {i : Nat} {w : World} (h : RbS p A c l i w) (n : Int) (hn : (l.length : Int) < i + n) (hn0 : 0 ≤ n) (hn1 : n ≤ 4294967296) :
    Calls Tryd.prog 82 #[.pointer (some ⟨p, 0, none⟩), .int .i64 n] w (NxNo w p) := by
  have hck := check_calls h n hn0 hn1
  rw [show decide ((l.length : Int) < i + n) = true from decide_eq_true hn] at hck
  have c0 := h.rp.cell 0 _ rfl
  have c1 := h.rp.cell 1 _ rfl
  have hb := h.lb
  have hlc := h.lc
  have hle := h.le
  have hR := h.rp
  obtain ⟨A2, hk2, hk3, _⟩ := Cut.ahead_lh2 26 5 Tryd.underlying26 size_u8' A l.length c i l.length i l.length rfl rfl .i64 .i64 hle (by omega)
  generalize l.length = N at c0 hb hR hk2 hk3 hlc hle hck hn
  generalize c - i = c2 at hk2 hk3
  clear h
  go_enter Tryd.func82, Tryd.ntmps82
  go_wp2_with fail
  refine hck.mono ?_
  rintro e w1 ⟨rfl, hch1⟩
  have d0 := hch1.cell0 c0
  have d1 := hch1.cell0 c1
  have hR1 := hR.keep0 hch1
  go_wp2_with (first | go_quiet (fail) | ((with_reducible refine gate (.store 3 _ _) rfl ?_); refine wp_store rfl rfl 3 _ _ rfl p 1 66 [.slice A N c, .int .i64 i] (.int .i64 N) rfl rfl [.int .i64 N] rfl size_i64 (by simp [Value.oneCell']) (hR1.keep0 ((Ch.refl No w1).drewN _)) (by simp) ?_; intro w2 hrow2 hch2))
  go_ret2
  exact ⟨_, rfl, Ch.no_then (hch1.drewN _) hch2⟩
end Go.Proofs.YtbdgkikipekmlaaDoor

namespace Go.Proofs.YtbdgkikipekmlaaDoor
set_option linter.unusedVariables false
set_option linter.unusedSimpArgs false
open Go.RowKit

set_option maxRecDepth 100000 in
set_option maxHeartbeats 1000000 in
theorem be16_calls (A : Option Addr) (c : Nat) (l : List Int) (w : World) (hr : Rd u8 w A l) (hb : Byt l) (hn : 2 ≤ l.length) :
    Calls Tryd.prog 83 #[.agg #[], .slice A l.length c] w fun e w' => e = .returned (.int .u16 (beN (l.take 2))) ∧ Ch No w w' := by
  match l, hn with
  | b0 :: b1 :: r, _ =>
    have hr' := hr.keep0 ((Ch.refl No w).alloc (.cells #[] 136))
    obtain ⟨bk, off, rfl, c0⟩ := hr'.at_ 0 (by simp)
    obtain ⟨bk', off', he, c1⟩ := hr'.at_ 1 (by simp)
    injection he with he
    injection he with he1 he2
    subst he1; subst he2
    simp only [List.getElem_cons_zero, List.getElem_cons_succ, Nat.add_zero] at c0 c1
    replace c0 : World.cell? _ _ = some (.int .u8 b0) := c0
    replace c1 : World.cell? _ _ = some (.int .u8 b1) := c1
    have h0 := hb b0 (by simp)
    have h1 := hb b1 (by simp)
    have hlen : (1 : Int) < ((b0 :: b1 :: r).length : Int) := by simp; omega
    have hor : bits .or .u16 b1 (b0 * 256) = b0 * 256 + b1 := by
      rw [bits_join_low .u16 16 (by decide) (fun n h0 h1 => by simp [IntKind.wrap, IntKind.bits, IntKind.signed]; omega) 8 b1 (b0 * 256) (by omega) (by omega) (by omega) (by omega) (by omega) (by omega)]
      omega
    have hN : beN ((b0 :: b1 :: r).take 2) = b0 * 256 + b1 := by simp [beN]
    rw [hN]
    obtain ⟨m, hm⟩ : ∃ m, (b0 :: b1 :: r).length = m := ⟨_, rfl⟩
    rw [hm] at hlen ⊢
    clear hN hm hr' hr hb
    go_enter Tryd.func83, Tryd.ntmps83
    go_wp2_with (go_quiet (fail))
    go_ret
    exact ⟨rfl, ((Ch.refl No w).alloc _).drewN _⟩
set_option maxRecDepth 100000 in
set_option maxHeartbeats 1000000 in
theorem be32_calls (A : Option Addr) (c : Nat) (l : List Int) (w : World) (hr : Rd u8 w A l) (hb : Byt l) (hn : 4 ≤ l.length) :
    Calls Tryd.prog 84 #[.agg #[], .slice A l.length c] w fun e w' => e = .returned (.int .u32 (beN (l.take 4))) ∧ Ch No w w' := by
  match l, hn with
  | b0 :: b1 :: b2 :: b3 :: r, _ =>
    have hr' := hr.keep0 ((Ch.refl No w).alloc (.cells #[] 136))
    obtain ⟨bk, off, rfl, c0⟩ := hr'.at_ 0 (by simp)
    obtain ⟨bk', off', he, c1⟩ := hr'.at_ 1 (by simp)
    injection he with he
    injection he with he1 he2
    subst he1; subst he2
    obtain ⟨bk', off', he, c2⟩ := hr'.at_ 2 (by simp)
    injection he with he
    injection he with he1 he2
    subst he1; subst he2
    obtain ⟨bk', off', he, c3⟩ := hr'.at_ 3 (by simp)
    injection he with he
    injection he with he1 he2
    subst he1; subst he2

    simp only [List.getElem_cons_zero, List.getElem_cons_succ, Nat.add_zero] at c0 c1 c2 c3
    replace c0 : World.cell? _ _ = some (.int .u8 b0) := c0
    replace c1 : World.cell? _ _ = some (.int .u8 b1) := c1
    replace c2 : World.cell? _ _ = some (.int .u8 b2) := c2
    replace c3 : World.cell? _ _ = some (.int .u8 b3) := c3
    have h0 := hb b0 (by simp)
    have h1 := hb b1 (by simp)
    have h2 := hb b2 (by simp)
    have h3 := hb b3 (by simp)
    have hlen : (3 : Int) < ((b0 :: b1 :: b2 :: b3 :: r).length : Int) := by simp; omega
    have hwr : ∀ n : Int, 0 ≤ n → n < 2 ^ 32 → IntKind.u32.wrap n = n := fun n h0 h1 => by simp [IntKind.wrap, IntKind.bits, IntKind.signed]; omega
    have hor1 : bits .or .u32 b3 (b2 * 256) = b2 * 256 + b3 := by
      rw [bits_join_low .u32 32 (by decide) hwr 8 b3 (b2 * 256) (by omega) (by omega) (by omega) (by omega) (by omega) (by omega)]
      omega
    have hor2 : bits .or .u32 (b2 * 256 + b3) (b1 * 65536) = b1 * 65536 + (b2 * 256 + b3) := by
      rw [bits_join_low .u32 32 (by decide) hwr 16 (b2 * 256 + b3) (b1 * 65536) (by omega) (by omega) (by omega) (by omega) (by omega) (by omega)]
      omega
    have hor3 : bits .or .u32 (b1 * 65536 + (b2 * 256 + b3)) (b0 * 16777216) = b0 * 16777216 + (b1 * 65536 + (b2 * 256 + b3)) := by
      rw [bits_join_low .u32 32 (by decide) hwr 24 (b1 * 65536 + (b2 * 256 + b3)) (b0 * 16777216) (by omega) (by omega) (by omega) (by omega) (by omega) (by omega)]
      omega
    have hN : beN ((b0 :: b1 :: b2 :: b3 :: r).take 4) = b0 * 16777216 + (b1 * 65536 + (b2 * 256 + b3)) := by simp [beN]; omega
    rw [hN]
    obtain ⟨m, hm⟩ : ∃ m, (b0 :: b1 :: b2 :: b3 :: r).length = m := ⟨_, rfl⟩
    rw [hm] at hlen ⊢
    clear hN hm hr' hr hb hwr
    go_enter Tryd.func84, Tryd.ntmps84
    go_wp2_with (go_quiet (fail))
    go_ret
    exact ⟨rfl, ((Ch.refl No w).alloc _).drewN _⟩
set_option maxRecDepth 100000 in
set_option maxHeartbeats 1000000 in
theorem be64_calls (A : Option Addr) (c : Nat) (l : List Int) (w : World) (hr : Rd u8 w A l) (hb : Byt l) (hn : 8 ≤ l.length) :
    Calls Tryd.prog 101 #[.agg #[], .slice A l.length c] w fun e w' => e = .returned (.int .u64 (beN (l.take 8))) ∧ Ch No w w' := by
  match l, hn with
  | b0 :: b1 :: b2 :: b3 :: b4 :: b5 :: b6 :: b7 :: r, _ =>
    have hr' := hr.keep0 ((Ch.refl No w).alloc (.cells #[] 136))
    obtain ⟨bk, off, rfl, c0⟩ := hr'.at_ 0 (by simp)
    obtain ⟨bk', off', he, c1⟩ := hr'.at_ 1 (by simp)
    injection he with he
    injection he with he1 he2
    subst he1; subst he2
    obtain ⟨bk', off', he, c2⟩ := hr'.at_ 2 (by simp)
    injection he with he
    injection he with he1 he2
    subst he1; subst he2
    obtain ⟨bk', off', he, c3⟩ := hr'.at_ 3 (by simp)
    injection he with he
    injection he with he1 he2
    subst he1; subst he2
    obtain ⟨bk', off', he, c4⟩ := hr'.at_ 4 (by simp)
    injection he with he
    injection he with he1 he2
    subst he1; subst he2
    obtain ⟨bk', off', he, c5⟩ := hr'.at_ 5 (by simp)
    injection he with he
    injection he with he1 he2
    subst he1; subst he2
    obtain ⟨bk', off', he, c6⟩ := hr'.at_ 6 (by simp)
    injection he with he
    injection he with he1 he2
    subst he1; subst he2
    obtain ⟨bk', off', he, c7⟩ := hr'.at_ 7 (by simp)
    injection he with he
    injection he with he1 he2
    subst he1; subst he2
    simp only [List.getElem_cons_zero, List.getElem_cons_succ, Nat.add_zero] at c0 c1 c2 c3 c4 c5 c6 c7
    replace c0 : World.cell? _ _ = some (.int .u8 b0) := c0
    have h0 := hb b0 (by simp)
    replace c1 : World.cell? _ _ = some (.int .u8 b1) := c1
    have h1 := hb b1 (by simp)
    replace c2 : World.cell? _ _ = some (.int .u8 b2) := c2
    have h2 := hb b2 (by simp)
    replace c3 : World.cell? _ _ = some (.int .u8 b3) := c3
    have h3 := hb b3 (by simp)
    replace c4 : World.cell? _ _ = some (.int .u8 b4) := c4
    have h4 := hb b4 (by simp)
    replace c5 : World.cell? _ _ = some (.int .u8 b5) := c5
    have h5 := hb b5 (by simp)
    replace c6 : World.cell? _ _ = some (.int .u8 b6) := c6
    have h6 := hb b6 (by simp)
    replace c7 : World.cell? _ _ = some (.int .u8 b7) := c7
    have h7 := hb b7 (by simp)
    have hlen : (7 : Int) < ((b0 :: b1 :: b2 :: b3 :: b4 :: b5 :: b6 :: b7 :: r).length : Int) := by simp; omega
    have hwr : ∀ n : Int, 0 ≤ n → n < 2 ^ 64 → IntKind.u64.wrap n = n := fun n h0 h1 => by simp [IntKind.wrap, IntKind.bits, IntKind.signed]; omega
    have hor1 : bits .or .u64 (b7) (b6 * 256) = b6 * 256 + (b7) := by
      rw [bits_join_low .u64 64 (by decide) hwr 8 (b7) (b6 * 256) (by omega) (by omega) (by omega) (by omega) (by omega) (by omega)]
      omega
    have hor2 : bits .or .u64 (b6 * 256 + b7) (b5 * 65536) = b5 * 65536 + (b6 * 256 + b7) := by
      rw [bits_join_low .u64 64 (by decide) hwr 16 (b6 * 256 + b7) (b5 * 65536) (by omega) (by omega) (by omega) (by omega) (by omega) (by omega)]
      omega
    have hor3 : bits .or .u64 (b5 * 65536 + (b6 * 256 + b7)) (b4 * 16777216) = b4 * 16777216 + (b5 * 65536 + (b6 * 256 + b7)) := by
      rw [bits_join_low .u64 64 (by decide) hwr 24 (b5 * 65536 + (b6 * 256 + b7)) (b4 * 16777216) (by omega) (by omega) (by omega) (by omega) (by omega) (by omega)]
      omega
    have hor4 : bits .or .u64 (b4 * 16777216 + (b5 * 65536 + (b6 * 256 + b7))) (b3 * 4294967296) = b3 * 4294967296 + (b4 * 16777216 + (b5 * 65536 + (b6 * 256 + b7))) := by
      rw [bits_join_low .u64 64 (by decide) hwr 32 (b4 * 16777216 + (b5 * 65536 + (b6 * 256 + b7))) (b3 * 4294967296) (by omega) (by omega) (by omega) (by omega) (by omega) (by omega)]
      omega
    have hor5 : bits .or .u64 (b3 * 4294967296 + (b4 * 16777216 + (b5 * 65536 + (b6 * 256 + b7)))) (b2 * 1099511627776) = b2 * 1099511627776 + (b3 * 4294967296 + (b4 * 16777216 + (b5 * 65536 + (b6 * 256 + b7)))) := by
      rw [bits_join_low .u64 64 (by decide) hwr 40 (b3 * 4294967296 + (b4 * 16777216 + (b5 * 65536 + (b6 * 256 + b7)))) (b2 * 1099511627776) (by omega) (by omega) (by omega) (by omega) (by omega) (by omega)]
      omega
    have hor6 : bits .or .u64 (b2 * 1099511627776 + (b3 * 4294967296 + (b4 * 16777216 + (b5 * 65536 + (b6 * 256 + b7))))) (b1 * 281474976710656) = b1 * 281474976710656 + (b2 * 1099511627776 + (b3 * 4294967296 + (b4 * 16777216 + (b5 * 65536 + (b6 * 256 + b7))))) := by
      rw [bits_join_low .u64 64 (by decide) hwr 48 (b2 * 1099511627776 + (b3 * 4294967296 + (b4 * 16777216 + (b5 * 65536 + (b6 * 256 + b7))))) (b1 * 281474976710656) (by omega) (by omega) (by omega) (by omega) (by omega) (by omega)]
      omega
    have hor7 : bits .or .u64 (b1 * 281474976710656 + (b2 * 1099511627776 + (b3 * 4294967296 + (b4 * 16777216 + (b5 * 65536 + (b6 * 256 + b7)))))) (b0 * 72057594037927936) = b0 * 72057594037927936 + (b1 * 281474976710656 + (b2 * 1099511627776 + (b3 * 4294967296 + (b4 * 16777216 + (b5 * 65536 + (b6 * 256 + b7)))))) := by
      rw [bits_join_low .u64 64 (by decide) hwr 56 (b1 * 281474976710656 + (b2 * 1099511627776 + (b3 * 4294967296 + (b4 * 16777216 + (b5 * 65536 + (b6 * 256 + b7)))))) (b0 * 72057594037927936) (by omega) (by omega) (by omega) (by omega) (by omega) (by omega)]
      omega
    have hN : beN ((b0 :: b1 :: b2 :: b3 :: b4 :: b5 :: b6 :: b7 :: r).take 8) = b0 * 72057594037927936 + (b1 * 281474976710656 + (b2 * 1099511627776 + (b3 * 4294967296 + (b4 * 16777216 + (b5 * 65536 + (b6 * 256 + b7)))))) := by simp [beN]; omega

    rw [hN]
    obtain ⟨m, hm⟩ : ∃ m, (b0 :: b1 :: b2 :: b3 :: b4 :: b5 :: b6 :: b7 :: r).length = m := ⟨_, rfl⟩
    rw [hm] at hlen ⊢
    clear hN hm hr' hr hb hwr
    go_enter Tryd.func101, Tryd.ntmps101
    go_wp2_with (go_quiet (fail))
    go_ret
    exact ⟨rfl, ((Ch.refl No w).alloc _).drewN _⟩
set_option maxRecDepth 100000 in
set_option maxHeartbeats 2000000 in
theorem ru16_ok {p : Nat} {A : Option Addr} {c : Nat} {l : List Int} {i : Nat} {w : World} (h : RbS p A c l i w) (hn : i + 2 ≤ l.length) (hby : Byt l) :
    Calls Tryd.prog 97 #[.pointer (some ⟨p, 0, none⟩)] w fun e w' => e = .returned (.tuple #[.int .u16 (beN ((l.drop i).take 2)), .nilIface]) ∧ RbS p A c l (i + 2) w' ∧ Ch (fun b => b = p) w w' := by
  have hck := check_calls h 2 (by omega) (by omega)
  rw [show decide ((l.length : Int) < i + 2) = false from decide_eq_false (by omega)] at hck
  have c0 := h.rp.cell 0 _ rfl
  have c1 := h.rp.cell 1 _ rfl
  have hb := h.lb
  have hlc := h.lc
  have hR := h.rp
  obtain ⟨A2, hk2, hk3, hcut⟩ := Cut.ahead_l 26 5 Tryd.underlying26 size_u8' A l.length c i i rfl .i64 h.le
  have hrd := hcut.drop h.rd rfl hlc
  have hdl : (l.drop i).length = l.length - i := List.length_drop
  have hbe := hid (fun W (hW : Ch No w W) => be16_calls A2 (c - i) (l.drop i) W (hrd.keep0 hW) (hby.drop i) (by rw [hdl]; omega))
  rw [hdl] at hbe
  generalize beN ((l.drop i).take 2) = z at hbe ⊢
  have H := hid h
  obtain ⟨N, hN⟩ : ∃ N, l.length = N := ⟨_, rfl⟩
  have HN := hid hN
  rw [hN] at c0 hb hR hn hk2 hk3 hlc hbe
  clear hN h hrd hdl hcut
  have hnN : (i : Int) + 2 ≤ N := by omega
  have hwi : IntKind.i64.wrap ((i : Int) + 2) = (i : Int) + 2 := by simp [IntKind.wrap, IntKind.bits, IntKind.signed]; omega
  have hw6 : wrap64 ((i : Int) + 2) = (i : Int) + 2 := by unfold wrap64; omega
  have hb0 : (0 : Int) ≤ i := by omega
  have hb1 : (0 : Int) ≤ (i : Int) + 2 := by omega
  have hb2 : (i : Int) ≤ (i : Int) + 2 := by omega
  have hb3 : (i : Int) + 2 ≤ c := by omega
  generalize c - i = c2 at hk2 hk3 hbe
  generalize N - i = q at hk2 hk3 hbe
  go_enter Tryd.func97, Tryd.ntmps97
  go_wp2_with fail
  refine hck.mono ?_
  rintro e w1 ⟨rfl, hch1⟩
  have d0 := hch1.cell0 c0
  have d1 := hch1.cell0 c1
  have hR1 := hR.keep0 hch1
  have x0 := (Ch.refl No w1).drew.cell0 d0
  have x1 := (Ch.refl No w1).drew.cell0 d1
  go_wp2_with fail
  go_region_held3 (fun wz => wz.cell? ⟨p, 0, none⟩ = some (.slice A N c) ∧ wz.cell? ⟨p, 1, none⟩ = some (.int .i64 i)) (first | exact ⟨x0, x1⟩ | exact ⟨y0, y1⟩) (first | (go_at_call 83; refine (hbe.out _ hch1.drew).mono ?_; rintro e w3 ⟨rfl, hch3⟩; have y0 := hch3.cell0 x0; have y1 := hch3.cell0 x1))
  have C3 : Ch No w w3 := hch1.drew.no_no hch3
  have hR3 := (hR1.keep0 (Ch.refl No _).drew).keep0 hch3
  go_wp2_with ((with_reducible refine gate (.store 3 _ _) rfl ?_); refine wp_store rfl rfl 3 _ _ rfl p 1 66 [.slice A N c, .int .i64 i] (.int .i64 ((i : Int) + 2)) rfl rfl [.int .i64 ((i : Int) + 2)] rfl size_i64 (by simp [Value.oneCell']) hR3 (by simp) ?_; intro w2 hrow2 hch2)
  go_ret2
  have hk : Ch (fun b => b = p) w w2 := Ch.no_then C3 hch2
  refine ⟨rfl, H.out.on ?_ hk (by rw [HN.out]; exact hn), hk⟩
  rw [HN.out]
  simpa using hrow2
set_option maxRecDepth 100000 in
theorem ru16_no {p : Nat} {A : Option Addr} {c : Nat} {l : List Int} {i : Nat} {w : World} (h : RbS p A c l i w) (hi : l.length < i + 2) (hE : Eof w) :
    Calls Tryd.prog 97 #[.pointer (some ⟨p, 0, none⟩)] w fun e w' => ∃ T v, e = .returned (.tuple #[.int .u16 0, .iface T v]) ∧ Ch No w w' := by
  have hck := check_calls h 2 (by omega) (by omega)
  rw [show decide ((l.length : Int) < i + 2) = true from decide_eq_true (by omega)] at hck
  obtain ⟨T, v, hv⟩ := hE
  go_enter Tryd.func97, Tryd.ntmps97
  go_wp2_with fail
  refine hck.mono ?_
  rintro e w1 ⟨rfl, hch1⟩
  have hv1 := hch1.cell0 hv
  go_wp2_with (go_quiet (fail))
  go_ret2
  exact ⟨T, v, rfl, hch1.drewN _⟩
set_option maxRecDepth 100000 in
set_option maxHeartbeats 2000000 in
theorem ru32_ok {p : Nat} {A : Option Addr} {c : Nat} {l : List Int} {i : Nat} {w : World} (h : RbS p A c l i w) (hn : i + 4 ≤ l.length) (hby : Byt l) :
    Calls Tryd.prog 98 #[.pointer (some ⟨p, 0, none⟩)] w fun e w' => e = .returned (.tuple #[.int .u32 (beN ((l.drop i).take 4)), .nilIface]) ∧ RbS p A c l (i + 4) w' ∧ Ch (fun b => b = p) w w' := by
  have hck := check_calls h 4 (by omega) (by omega)
  rw [show decide ((l.length : Int) < i + 4) = false from decide_eq_false (by omega)] at hck
  have c0 := h.rp.cell 0 _ rfl
  have c1 := h.rp.cell 1 _ rfl
  have hb := h.lb
  have hlc := h.lc
  have hR := h.rp
  obtain ⟨A2, hk2, hk3, hcut⟩ := Cut.ahead_l 26 5 Tryd.underlying26 size_u8' A l.length c i i rfl .i64 h.le
  have hrd := hcut.drop h.rd rfl hlc
  have hdl : (l.drop i).length = l.length - i := List.length_drop
  have hbe := hid (fun W (hW : Ch No w W) => be32_calls A2 (c - i) (l.drop i) W (hrd.keep0 hW) (hby.drop i) (by rw [hdl]; omega))
  rw [hdl] at hbe
  generalize beN ((l.drop i).take 4) = z at hbe ⊢
  have H := hid h
  obtain ⟨N, hN⟩ : ∃ N, l.length = N := ⟨_, rfl⟩
  have HN := hid hN
  rw [hN] at c0 hb hR hn hk2 hk3 hlc hbe
  clear hN h hrd hdl hcut
  have hnN : (i : Int) + 4 ≤ N := by omega
  have hwi : IntKind.i64.wrap ((i : Int) + 4) = (i : Int) + 4 := by simp [IntKind.wrap, IntKind.bits, IntKind.signed]; omega
  have hw6 : wrap64 ((i : Int) + 4) = (i : Int) + 4 := by unfold wrap64; omega
  have hb0 : (0 : Int) ≤ i := by omega
  have hb1 : (0 : Int) ≤ (i : Int) + 4 := by omega
  have hb2 : (i : Int) ≤ (i : Int) + 4 := by omega
  have hb3 : (i : Int) + 4 ≤ c := by omega
  generalize c - i = c2 at hk2 hk3 hbe
  generalize N - i = q at hk2 hk3 hbe
  go_enter Tryd.func98, Tryd.ntmps98
  go_wp2_with fail
  refine hck.mono ?_
  rintro e w1 ⟨rfl, hch1⟩
  have d0 := hch1.cell0 c0
  have d1 := hch1.cell0 c1
  have hR1 := hR.keep0 hch1
  have x0 := (Ch.refl No w1).drew.cell0 d0
  have x1 := (Ch.refl No w1).drew.cell0 d1
  go_wp2_with fail
  go_region_held3 (fun wz => wz.cell? ⟨p, 0, none⟩ = some (.slice A N c) ∧ wz.cell? ⟨p, 1, none⟩ = some (.int .i64 i)) (first | exact ⟨x0, x1⟩ | exact ⟨y0, y1⟩) (first | (go_at_call 84; refine (hbe.out _ hch1.drew).mono ?_; rintro e w3 ⟨rfl, hch3⟩; have y0 := hch3.cell0 x0; have y1 := hch3.cell0 x1))
  have C3 : Ch No w w3 := hch1.drew.no_no hch3
  have hR3 := (hR1.keep0 (Ch.refl No _).drew).keep0 hch3
  go_wp2_with ((with_reducible refine gate (.store 3 _ _) rfl ?_); refine wp_store rfl rfl 3 _ _ rfl p 1 66 [.slice A N c, .int .i64 i] (.int .i64 ((i : Int) + 4)) rfl rfl [.int .i64 ((i : Int) + 4)] rfl size_i64 (by simp [Value.oneCell']) hR3 (by simp) ?_; intro w2 hrow2 hch2)
  go_ret2
  have hk : Ch (fun b => b = p) w w2 := Ch.no_then C3 hch2
  refine ⟨rfl, H.out.on ?_ hk (by rw [HN.out]; exact hn), hk⟩
  rw [HN.out]
  simpa using hrow2
set_option maxRecDepth 100000 in
theorem ru32_no {p : Nat} {A : Option Addr} {c : Nat} {l : List Int} {i : Nat} {w : World} (h : RbS p A c l i w) (hi : l.length < i + 4) (hE : Eof w) :
    Calls Tryd.prog 98 #[.pointer (some ⟨p, 0, none⟩)] w fun e w' => ∃ T v, e = .returned (.tuple #[.int .u32 0, .iface T v]) ∧ Ch No w w' := by
  have hck := check_calls h 4 (by omega) (by omega)
  rw [show decide ((l.length : Int) < i + 4) = true from decide_eq_true (by omega)] at hck
  obtain ⟨T, v, hv⟩ := hE
  go_enter Tryd.func98, Tryd.ntmps98
  go_wp2_with fail
  refine hck.mono ?_
  rintro e w1 ⟨rfl, hch1⟩
  have hv1 := hch1.cell0 hv
  go_wp2_with (go_quiet (fail))
  go_ret2
  exact ⟨T, v, rfl, hch1.drewN _⟩
set_option maxRecDepth 100000 in
set_option maxHeartbeats 2000000 in
theorem ru64_ok {p : Nat} {A : Option Addr} {c : Nat} {l : List Int} {i : Nat} {w : World} (h : RbS p A c l i w) (hn : i + 8 ≤ l.length) (hby : Byt l) :
    Calls Tryd.prog 91 #[.pointer (some ⟨p, 0, none⟩)] w fun e w' => e = .returned (.tuple #[.int .u64 (beN ((l.drop i).take 8)), .nilIface]) ∧ RbS p A c l (i + 8) w' ∧ Ch (fun b => b = p) w w' := by
  have hck := check_calls h 8 (by omega) (by omega)
  rw [show decide ((l.length : Int) < i + 8) = false from decide_eq_false (by omega)] at hck
  have c0 := h.rp.cell 0 _ rfl
  have c1 := h.rp.cell 1 _ rfl
  have hb := h.lb
  have hlc := h.lc
  have hR := h.rp
  obtain ⟨A2, hk2, hk3, hcut⟩ := Cut.ahead_lh2 26 5 Tryd.underlying26 size_u8' A l.length c i ((i : Int) + 8) i (i + 8) rfl (by omega) .i64 .i64 (by omega) (by omega)
  have hrd := hcut.rd u8 w l h.rd rfl hlc hn
  rw [show (l.take (i + 8)).drop i = (l.drop i).take 8 from by rw [List.drop_take]; congr 1; omega] at hrd
  have hdl : ((l.drop i).take 8).length = 8 := by rw [List.length_take, List.length_drop]; omega
  have hbe := hid (fun W (hW : Ch No w W) => be64_calls A2 (c - i) ((l.drop i).take 8) W (hrd.keep0 hW) ((hby.drop i).take 8) (by rw [hdl]; omega))
  rw [hdl, List.take_take, Nat.min_self] at hbe
  rw [show i + 8 - i = 8 by omega] at hk2 hk3
  generalize beN ((l.drop i).take 8) = z at hbe ⊢
  have H := hid h
  obtain ⟨N, hN⟩ : ∃ N, l.length = N := ⟨_, rfl⟩
  have HN := hid hN
  rw [hN] at c0 hb hR hn hk2 hk3 hlc
  clear hN h hrd hdl hcut
  have hnN : (i : Int) + 8 ≤ N := by omega
  have hwi : IntKind.i64.wrap ((i : Int) + 8) = (i : Int) + 8 := by simp [IntKind.wrap, IntKind.bits, IntKind.signed]; omega
  have hw6 : wrap64 ((i : Int) + 8) = (i : Int) + 8 := by unfold wrap64; omega
  have hb0 : (0 : Int) ≤ i := by omega
  have hb1 : (0 : Int) ≤ (i : Int) + 8 := by omega
  have hb2 : (i : Int) ≤ (i : Int) + 8 := by omega
  have hb3 : (i : Int) + 8 ≤ c := by omega
  generalize c - i = c2 at hk2 hk3 hbe
  go_enter Tryd.func91, Tryd.ntmps91
  go_wp2_with fail
  refine hck.mono ?_
  rintro e w1 ⟨rfl, hch1⟩
  have d0 := hch1.cell0 c0
  have d1 := hch1.cell0 c1
  have hR1 := hR.keep0 hch1
  have x0 := (Ch.refl No w1).drew.cell0 d0
  have x1 := (Ch.refl No w1).drew.cell0 d1
  go_wp2_with fail
  go_region_held3 (fun wz => wz.cell? ⟨p, 0, none⟩ = some (.slice A N c) ∧ wz.cell? ⟨p, 1, none⟩ = some (.int .i64 i)) (first | exact ⟨x0, x1⟩ | exact ⟨y0, y1⟩) (first | (go_at_call 101; refine (hbe.out _ hch1.drew).mono ?_; rintro e w3 ⟨rfl, hch3⟩; have y0 := hch3.cell0 x0; have y1 := hch3.cell0 x1))
  have C3 : Ch No w w3 := hch1.drew.no_no hch3
  have hR3 := (hR1.keep0 (Ch.refl No _).drew).keep0 hch3
  go_wp2_with ((with_reducible refine gate (.store 3 _ _) rfl ?_); refine wp_store rfl rfl 3 _ _ rfl p 1 66 [.slice A N c, .int .i64 i] (.int .i64 ((i : Int) + 8)) rfl rfl [.int .i64 ((i : Int) + 8)] rfl size_i64 (by simp [Value.oneCell']) hR3 (by simp) ?_; intro w2 hrow2 hch2)
  go_ret2
  have hk : Ch (fun b => b = p) w w2 := Ch.no_then C3 hch2
  refine ⟨rfl, H.out.on ?_ hk (by rw [HN.out]; exact hn), hk⟩
  rw [HN.out]
  simpa using hrow2
set_option maxRecDepth 100000 in
theorem ru64_no {p : Nat} {A : Option Addr} {c : Nat} {l : List Int} {i : Nat} {w : World} (h : RbS p A c l i w) (hi : l.length < i + 8) (hE : Eof w) :
    Calls Tryd.prog 91 #[.pointer (some ⟨p, 0, none⟩)] w fun e w' => ∃ T v, e = .returned (.tuple #[.int .u64 0, .iface T v]) ∧ Ch No w w' := by
  have hck := check_calls h 8 (by omega) (by omega)
  rw [show decide ((l.length : Int) < i + 8) = true from decide_eq_true (by omega)] at hck
  obtain ⟨T, v, hv⟩ := hE
  go_enter Tryd.func91, Tryd.ntmps91
  go_wp2_with fail
  refine hck.mono ?_
  rintro e w1 ⟨rfl, hch1⟩
  have hv1 := hch1.cell0 hv
  go_wp2_with (go_quiet (fail))
  go_ret2
  exact ⟨T, v, rfl, hch1.drewN _⟩

end Go.Proofs.YtbdgkikipekmlaaDoor

namespace Go.Proofs.YtbdgkikipekmlaaDoor
set_option linter.unusedVariables false
set_option linter.unusedSimpArgs false
open Go.RowKit

theorem rtype_ok {p : Nat} {A : Option Addr} {c : Nat} {l : List Int} {i : Nat} {w : World} (h : RbS p A c l i w) (hi : i < l.length) :
    Calls Tryd.prog 81 #[.pointer (some ⟨p, 0, none⟩)] w fun e w' => e = .returned (.tuple #[.int .u8 l[i], .nilIface]) ∧ RbS p A c l (i + 1) w' ∧ Ch (fun b => b = p) w w' := by
  have hr := hid (rbyte_ok h hi)
  generalize l[i] = x at hr ⊢
  clear h
  go_enter Tryd.func81, Tryd.ntmps81
  go_wp2_with fail
  refine hr.out.mono ?_
  rintro e w1 ⟨rfl, h1, hch1⟩
  go_wp2_with fail
  go_ret2
  exact ⟨rfl, h1, hch1⟩
theorem rtype_no {p : Nat} {A : Option Addr} {c : Nat} {l : List Int} {i : Nat} {w : World} (h : RbS p A c l i w) (hi : l.length ≤ i) (hE : Eof w) :
    Calls Tryd.prog 81 #[.pointer (some ⟨p, 0, none⟩)] w fun e w' => ∃ T v, e = .returned (.tuple #[.int .u8 0, .iface T v]) ∧ Ch No w w' := by
  have hr := hid (rbyte_no h hi hE)
  clear h
  go_enter Tryd.func81, Tryd.ntmps81
  go_wp2_with fail
  refine hr.out.mono ?_
  rintro e w1 ⟨T, v, rfl, hch1⟩
  go_wp2_with fail
  go_ret2
  exact ⟨T, v, rfl, hch1⟩
set_option maxRecDepth 100000 in
theorem rdouble_ok {p : Nat} {A : Option Addr} {c : Nat} {l : List Int} {i : Nat} {w : World} (h : RbS p A c l i w) (hi : i + 9 ≤ l.length) (h0 : l[i]'(by omega) = 130) (hby : Byt l) :
    Calls Tryd.prog 66 #[.pointer (some ⟨p, 0, none⟩)] w fun e w' => e = .returned (.tuple #[.float .f64 (beN ((l.drop (i + 1)).take 8)).toNat, .nilIface]) ∧ RbS p A c l (i + 9) w' ∧ Ch (fun b => b = p) w w' := by
  have hr := hid (rtype_ok h (by omega))
  rw [h0] at hr
  have hf := float64frombits_run (beN ((l.drop (i + 1)).take 8))
  have hu := hid (fun W (hW : RbS p A c l (i + 1) W) => ru64_ok hW (by omega) hby)
  generalize beN ((l.drop (i + 1)).take 8) = z at hf hu ⊢
  clear h h0
  go_enter Tryd.func66, Tryd.ntmps66
  go_wp2_with fail
  refine hr.out.mono ?_
  rintro e w1 ⟨rfl, h1, hch1⟩
  go_wp2_with fail
  refine (hu.out w1 h1).mono ?_
  rintro e w2 ⟨rfl, h2, hch2⟩
  go_wp2_with fail
  go_ret2
  exact ⟨rfl, h2, hch1.trans hch2 (fun _ h => h) (fun _ h => .inl h)⟩
/-- An error that has just been made. -/
def ErT (w : World) (e : Ending) (w' : World) : Prop := ∃ T v, e = .returned (.iface T v) ∧ Ch No w w'
theorem errNew_calls (s : ByteArray) (w : World) : Calls Tryd.prog 76 #[.string s] w (ErT w) := by
  go_enter Tryd.func76, Tryd.ntmps76
  go_wp2_with fail
  go_ret
  exact ⟨_, _, rfl, (Ch.refl No w).alloc _⟩
/-- It is refused. -/
def RdNo (p : Nat) (w : World) (e : Ending) (w' : World) : Prop := ∃ (z : Nat) (T : TypeId) (v : Value), e = .returned (.tuple #[.float .f64 z, .iface T v]) ∧ Ch (fun b => b = p) w w'
set_option maxRecDepth 100000 in
theorem rdouble_end {p : Nat} {A : Option Addr} {c : Nat} {l : List Int} {i : Nat} {w : World} (h : RbS p A c l i w) (hi : l.length ≤ i) (hE : Eof w) :
    Calls Tryd.prog 66 #[.pointer (some ⟨p, 0, none⟩)] w (RdNo p w) := by
  have hr := hid (rtype_no h hi hE)
  clear h hi
  go_enter Tryd.func66, Tryd.ntmps66
  go_wp2_with fail
  refine hr.out.mono ?_
  rintro e w1 ⟨T, v, rfl, hch1⟩
  go_wp2_with fail
  go_ret2
  exact ⟨_, T, v, rfl, Ch.of_no hch1⟩
set_option maxRecDepth 100000 in
theorem rdouble_other {p : Nat} {A : Option Addr} {c : Nat} {l : List Int} {i : Nat} {w : World} (h : RbS p A c l i w) (hi : i < l.length) (h0 : l[i] ≠ 130) :
    Calls Tryd.prog 66 #[.pointer (some ⟨p, 0, none⟩)] w (RdNo p w) := by
  have hr := hid (rtype_ok h hi)
  generalize l[i] = x at hr h0
  have e7 : (x == 130) = false := beq_eq_false_iff_ne.2 h0
  have f7 : (x != 130) = true := bne_iff_ne.2 h0
  have g7 : decide (x = 130) = false := decide_eq_false h0
  clear h hi h0
  go_enter Tryd.func66, Tryd.ntmps66
  go_wp2_with fail
  refine hr.out.mono ?_
  rintro e w1 ⟨rfl, _, hch1⟩
  go_wp2_with (go_at_call 76; refine (errNew_calls _ _).mono ?_; rintro e w2 ⟨T, v, rfl, hch2⟩)
  go_ret2
  exact ⟨_, T, v, rfl, hch1.then_no hch2⟩
set_option maxRecDepth 100000 in
theorem rdouble_short {p : Nat} {A : Option Addr} {c : Nat} {l : List Int} {i : Nat} {w : World} (h : RbS p A c l i w) (hi : i < l.length) (hs : l.length < i + 9) (h0 : l[i] = 130) (hE : Eof w) (hpE : 4 ≠ p) :
    Calls Tryd.prog 66 #[.pointer (some ⟨p, 0, none⟩)] w (RdNo p w) := by
  have hr := hid (rtype_ok h hi)
  rw [h0] at hr
  have hf := float64frombits_run 0
  have hu := hid (fun W (hW : RbS p A c l (i + 1) W) (hEW : Eof W) => ru64_no hW (by omega) hEW)
  have HE : Hid (∀ W, Ch (fun b => b = p) w W → Eof W) := hid (fun W hW => by
    obtain ⟨T, v, hv⟩ := hE
    exact ⟨T, v, hW.cell hv hpE⟩)
  clear h h0 hi hs hE
  go_enter Tryd.func66, Tryd.ntmps66
  go_wp2_with fail
  refine hr.out.mono ?_
  rintro e w1 ⟨rfl, h1, hch1⟩
  go_wp2_with fail
  refine (hu.out w1 h1 (HE.out w1 hch1)).mono ?_
  rintro e w2 ⟨T, v, rfl, hch2⟩
  go_wp2_with fail
  go_ret2
  exact ⟨_, T, v, rfl, hch1.then_no hch2⟩
end Go.Proofs.YtbdgkikipekmlaaDoor

namespace Go.Proofs.YtbdgkikipekmlaaDoor
set_option linter.unusedVariables false
set_option linter.unusedSimpArgs false
open Go.RowKit

/-- What was read, and what stands behind it in bytes of their own. -/
def BhT (v : Value) (x : List Int) (w : World) (e : Ending) (w' : World) : Prop := ∃ A c, e = .returned (.tuple #[v, .slice A x.length c, .bool true]) ∧ Ow 5 u8 w' (.slice A x.length c) x ∧ Fr w (.slice A x.length c) ∧ Ch No w w'
def BhNo (z : Value) (w : World) (e : Ending) (w' : World) : Prop := e = .returned (.tuple #[z, .slice none 0 0, .bool false]) ∧ Ch No w w'
set_option maxRecDepth 100000 in
theorem behind_uint64_ok {p : Nat} {A : Option Addr} {c : Nat} {l : List Int} {i : Nat} {w : World} (h : RbS p A c l i w) (x : Int) :
    Calls Tryd.prog 39 #[.int .u64 x, .pointer (some ⟨p, 0, none⟩), .nilIface] w (BhT (.int .u64 x) (l.drop i) w) := by
  have hb := hid (bytes_calls h)
  have hl : (l.drop i).length ≤ 35184372088832 := by rw [List.length_drop]; have := h.lb; omega
  generalize l.drop i = X at hb hl ⊢
  have HL := hid hl
  clear h hl
  go_enter Tryd.func39, Tryd.ntmps39
  go_wp2_with fail
  refine hb.out.mono ?_
  rintro e w1 ⟨A1, c1, rfl, hr1, hc1, hch1⟩
  obtain ⟨q, hq⟩ : ∃ q, X.length = q := ⟨_, rfl⟩
  have hcp := hid (copied_calls A1 c1 X w1 hr1 HL.out)
  rw [hq] at hcp ⊢
  have HQ := hid hq
  clear hq
  go_wp2_with fail
  refine hcp.out.mono ?_
  rintro e w2 ⟨v2, rfl, ho2, hf2, hch2⟩
  obtain ⟨A2, c2, rfl, _, _⟩ := ho2.slice
  rw [HQ.out]
  go_wp2_with fail
  go_ret3
  unfold BhT
  rw [HQ.out]
  rw [HQ.out] at ho2 hf2
  exact ⟨A2, c2, rfl, ho2, hf2.weak hch1.size, hch1.no_no hch2⟩
set_option maxRecDepth 100000 in
theorem behind_uint64_no (x : Int) (p : Value) (T : TypeId) (v : Value) (w : World) :
    Calls Tryd.prog 39 #[.int .u64 x, p, .iface T v] w (BhNo (.int .u64 0) w) := by
  go_enter Tryd.func39, Tryd.ntmps39
  go_wp2_with fail
  go_ret3
  exact ⟨rfl, Ch.refl _ _⟩
theorem noValue_uint64_idle (p q r : Addr) (w : World) :
    CallsD Tryd.prog 36 #[.pointer (some p), .pointer (some q), .pointer (some r)] .returning w fun e u' w' => e = .returned (.tuple #[]) ∧ u' = .returning ∧ w' = w := by
  refine callsD_of_wpS Tryd.func36 rfl fun c₀ cs hu => ?_
  apply wpS_seq
  apply wpS_region
  simp [wpOpsS, go_sem, recoverD, hu, Tryd.ntmps36, Exit.thenS]
  refine wpS_cond (t := false) (by simp [Act.eval, Array.replicate]) ?_
  simp only [Bool.false_eq_true, if_false]
  refine wpS_of_wp (wp_skip ?_)
  cases c₀
  simp_all [bodyPostS, results, Tryd.results36]
set_option maxRecDepth 100000 in
theorem behind_int64_ok {p : Nat} {A : Option Addr} {c : Nat} {l : List Int} {i : Nat} {w : World} (h : RbS p A c l i w) (x : Int) :
    Calls Tryd.prog 47 #[.int .i64 x, .pointer (some ⟨p, 0, none⟩), .nilIface] w (BhT (.int .i64 x) (l.drop i) w) := by
  have hb := hid (bytes_calls h)
  have hl : (l.drop i).length ≤ 35184372088832 := by rw [List.length_drop]; have := h.lb; omega
  generalize l.drop i = X at hb hl ⊢
  have HL := hid hl
  clear h hl
  go_enter Tryd.func47, Tryd.ntmps47
  go_wp2_with fail
  refine hb.out.mono ?_
  rintro e w1 ⟨A1, c1, rfl, hr1, hc1, hch1⟩
  obtain ⟨q, hq⟩ : ∃ q, X.length = q := ⟨_, rfl⟩
  have hcp := hid (copied_calls A1 c1 X w1 hr1 HL.out)
  rw [hq] at hcp ⊢
  have HQ := hid hq
  clear hq
  go_wp2_with fail
  refine hcp.out.mono ?_
  rintro e w2 ⟨v2, rfl, ho2, hf2, hch2⟩
  obtain ⟨A2, c2, rfl, _, _⟩ := ho2.slice
  rw [HQ.out]
  go_wp2_with fail
  go_ret3
  unfold BhT
  rw [HQ.out]
  rw [HQ.out] at ho2 hf2
  exact ⟨A2, c2, rfl, ho2, hf2.weak hch1.size, hch1.no_no hch2⟩
set_option maxRecDepth 100000 in
theorem behind_int64_no (x : Int) (p : Value) (T : TypeId) (v : Value) (w : World) :
    Calls Tryd.prog 47 #[.int .i64 x, p, .iface T v] w (BhNo (.int .i64 0) w) := by
  go_enter Tryd.func47, Tryd.ntmps47
  go_wp2_with fail
  go_ret3
  exact ⟨rfl, Ch.refl _ _⟩
theorem noValue_int64_idle (p q r : Addr) (w : World) :
    CallsD Tryd.prog 45 #[.pointer (some p), .pointer (some q), .pointer (some r)] .returning w fun e u' w' => e = .returned (.tuple #[]) ∧ u' = .returning ∧ w' = w := by
  refine callsD_of_wpS Tryd.func45 rfl fun c₀ cs hu => ?_
  apply wpS_seq
  apply wpS_region
  simp [wpOpsS, go_sem, recoverD, hu, Tryd.ntmps45, Exit.thenS]
  refine wpS_cond (t := false) (by simp [Act.eval, Array.replicate]) ?_
  simp only [Bool.false_eq_true, if_false]
  refine wpS_of_wp (wp_skip ?_)
  cases c₀
  simp_all [bodyPostS, results, Tryd.results45]

end Go.Proofs.YtbdgkikipekmlaaDoor

namespace Go.Proofs.YtbdgkikipekmlaaDoor
set_option linter.unusedVariables false
set_option linter.unusedSimpArgs false
open Go.RowKit

def NwT (A0 : Option Addr) (l : List Int) (w : World) (e : Ending) (w' : World) : Prop := ∃ p A c, e = .returned (.pointer (some ⟨p, 0, none⟩)) ∧ RbS p A c l 0 w' ∧ w.heap.size ≤ p ∧ Hid (A = A0) ∧ Ch No w w'
theorem new_calls (A : Option Addr) (c : Nat) (l : List Int) (w : World) (ho : Ow 5 u8 w (.slice A l.length c) l) (hl : l.length ≤ 1099511627776) :
    Calls Tryd.prog 37 #[.slice A l.length c] w (NwT A l w) := by
  have hR := Row.alloc w [.slice A l.length c, .int .i64 0] 66
  have hle := ho.le
  have hap : ∀ ad, A = some ad → ad.block ≠ w.heap.size := fun ad h => by
    rcases ho.form with ⟨h1, _⟩ | ⟨g, c', cur, h1, _, _, h2, _⟩
    · injection h1 with h1; rw [h] at h1; cases h1
    · injection h1 with h1 _ _
      rw [h] at h1
      injection h1 with h1
      subst h1
      exact Nat.ne_of_lt h2
  have H : RbS w.heap.size A c l 0 (w.alloc (.cells #[.slice A l.length c, .int .i64 0] 66)) := ⟨hR, ho.rd.keep0 ((Ch.refl No w).alloc _), Nat.zero_le _, hle.2.1, hap, hl⟩
  have HH := hid H
  unfold NwT
  clear ho hle hap hR H hl
  obtain ⟨N, hN⟩ : ∃ N, l.length = N := ⟨_, rfl⟩
  rw [hN] at HH ⊢
  go_enter Tryd.func37, Tryd.ntmps37
  go_wp2_with fail
  go_ret
  exact ⟨w.heap.size, A, c, rfl, HH.out, Nat.le_refl _, hid rfl, (Ch.refl No w).alloc _⟩
theorem eReadDouble_of {Q : Ending → World → Prop} {p : Addr} {w : World} (h : Calls Tryd.prog 66 #[.pointer (some p)] w fun e w' => ∃ x er, e = .returned (.tuple #[x, er]) ∧ Q e w') :
    Calls Tryd.prog 38 #[.pointer (some p)] w Q := by
  go_enter Tryd.func38, Tryd.ntmps38
  go_wp2_with fail
  refine h.mono ?_
  rintro e w1 ⟨x, er, rfl, hq⟩
  go_wp2_with fail
  exact hq
theorem size_bool : (Tryd.prog.info? 4).map (·.size) = some 1 := by kernel_rfl
theorem size_u64' : (Tryd.prog.info? 22).map (·.size) = some 1 := by kernel_rfl
theorem size_sl : (Tryd.prog.info? 26).map (·.size) = some 1 := by kernel_rfl
/-- A double has been read. -/
def DbT (z : Int) (x : List Int) (w : World) (e : Ending) (w' : World) : Prop := ∃ A c, e = .returned (.tuple #[.int .u64 z, .slice A x.length c, .bool true]) ∧ Rd u8 w' A x ∧ x.length ≤ c ∧ Ch No w w'
set_option maxRecDepth 100000 in
set_option maxHeartbeats 1000000 in
theorem implReadDouble_ok (A0 : Option Addr) (c0 : Nat) (l : List Int) (w : World) (hr0 : Rd u8 w A0 l) (hi : 9 ≤ l.length) (h0 : l[0]'(by omega) = 130) (hby : Byt l) (hl : l.length ≤ 1099511627776) :
    Calls Tryd.prog 12 #[.slice A0 l.length c0] w (DbT (beN ((l.drop 1).take 8)) (l.drop 9) w) := by
  have R0 : Row (((w.alloc (.cells #[.int .u64 0] 22)).alloc (.cells #[.slice none 0 0] 26)).alloc (.cells #[.bool false] 4)) w.heap.size 22 [.int .u64 0] := ((Row.alloc w [.int .u64 0] 22).keep0 ((Ch.refl No _).alloc _)).keep0 ((Ch.refl No _).alloc _)
  have R1 : Row (((w.alloc (.cells #[.int .u64 0] 22)).alloc (.cells #[.slice none 0 0] 26)).alloc (.cells #[.bool false] 4)) (w.heap.size + 1) 26 [.slice none 0 0] := by
    have h := (Row.alloc (w.alloc (.cells #[.int .u64 0] 22)) [.slice none 0 0] 26).keep0 ((Ch.refl No _).alloc (.cells #[.bool false] 4))
    rwa [World.size_alloc] at h
  have R2 : Row (((w.alloc (.cells #[.int .u64 0] 22)).alloc (.cells #[.slice none 0 0] 26)).alloc (.cells #[.bool false] 4)) (w.heap.size + 1 + 1) 4 [.bool false] := by
    have h := Row.alloc ((w.alloc (.cells #[.int .u64 0] 22)).alloc (.cells #[.slice none 0 0] 26)) [.bool false] 4
    rwa [World.size_alloc, World.size_alloc] at h
  have C3 : Ch No w (((w.alloc (.cells #[.int .u64 0] 22)).alloc (.cells #[.slice none 0 0] 26)).alloc (.cells #[.bool false] 4)) := (((Ch.refl No w).alloc _).alloc _).alloc _
  have s3 : (((w.alloc (.cells #[.int .u64 0] 22)).alloc (.cells #[.slice none 0 0] 26)).alloc (.cells #[.bool false] 4)).heap.size = w.heap.size + 1 + 1 + 1 := by simp
  have hcp := hid (copied_calls A0 c0 l _ (hr0.keep0 C3) (by omega))
  have hbn : (9 : Nat) ≤ l.length := hi
  have hz0 : 0 ≤ beN ((l.drop 1).take 8) := (beN_lt8 (by rw [List.length_take]; omega) ((hby.drop 1).take 8)).1
  have hfb := float64bits_run (beN ((l.drop 1).take 8)).toNat
  rw [show (((beN ((l.drop 1).take 8)).toNat : Nat) : Int) = beN ((l.drop 1).take 8) by omega] at hfb
  have HN := hid (fun (A : Option Addr) (c : Nat) (W : World) (h : Ow 5 u8 W (.slice A l.length c) l) => new_calls A c l W h hl)
  have HRD := hid (fun (p : Nat) (A : Option Addr) (c : Nat) (W : World) (h : RbS p A c l 0 W) => eReadDouble_of ((rdouble_ok h (by omega) h0 hby).mono fun e w' ⟨h1, h2, h3⟩ => ⟨_, _, h1, And.intro h1 (And.intro h2 h3)⟩))
  have HBH := hid (fun (p : Nat) (A : Option Addr) (c : Nat) (W : World) (h : RbS p A c l 9 W) => behind_uint64_ok h (beN ((l.drop 1).take 8)))
  generalize beN ((l.drop 1).take 8) = z at HRD HBH hfb hz0 ⊢
  obtain ⟨N, hN⟩ : ∃ N, l.length = N := ⟨_, rfl⟩
  have HLN := hid hN
  generalize l.drop 9 = X at HBH ⊢
  rw [hN] at hcp ⊢
  clear hN hr0 h0
  go_enter_defers Tryd.func12, Tryd.ntmps12
  go_wp2_with fail
  refine hcp.out.mono ?_
  rintro e w1 ⟨v1, rfl, ho1, hfr1, hch1⟩
  obtain ⟨A1, c1, rfl, _, _⟩ := ho1.slice
  have hnew := HN.out A1 c1 w1 ho1
  rw [HLN.out] at hnew ⊢
  go_wp2_with fail
  refine hnew.mono ?_
  rintro e w2 ⟨p, A2, c2, rfl, hb2, hp2, _, hch2⟩
  go_wp2_with fail
  refine (HRD.out p A2 c2 w2 hb2).mono ?_
  rintro e w3 ⟨rfl, hb3, hch3⟩
  go_wp2_with fail
  refine (HBH.out p A2 c2 w3 hb3).mono ?_
  rintro e w4 ⟨A4, c4, rfl, ho4, hf4, hch4⟩
  have s1 := hch1.size
  rw [s3] at s1
  have K0 := (((R0.keep0 hch1).keep0 hch2).keep hch3 (fun h => by have h9 : w.heap.size = p := h; omega)).keep0 hch4
  have K1 := (((R1.keep0 hch1).keep0 hch2).keep hch3 (fun h => by have h9 : w.heap.size + 1 = p := h; omega)).keep0 hch4
  have K2 := (((R2.keep0 hch1).keep0 hch2).keep hch3 (fun h => by have h9 : w.heap.size + 1 + 1 = p := h; omega)).keep0 hch4
  have C4 : Ch No w w4 := (((C3.no_no hch1).no_no hch2).freshg hch3 (by omega)).no_no hch4
  obtain ⟨q, hq⟩ : ∃ q, X.length = q := ⟨_, rfl⟩
  have HQ := hid hq
  have hbe := ho4.blk_lt
  have ho4' := hid ho4
  have hle4 := ho4.le
  have hrd4 := ho4.rd
  have s2 := hch2.size
  have s33 := hch3.size
  have hap4 : ∀ ad, A4 = some ad → w.heap.size + 1 + 1 + 1 ≤ ad.block := fun ad h => by
    rcases ho4.form with ⟨h1, _⟩ | ⟨g, c', cur, h1, _, _, h2, _⟩
    · injection h1 with h1; rw [h] at h1; cases h1
    · injection h1 with h1 _ _
      rw [h] at h1
      injection h1 with h1
      subst h1; subst h
      have h9 := hf4 g (Blk_slice.2 rfl)
      show w.heap.size + 1 + 1 + 1 ≤ g
      omega
  have HAP := hid (And.intro hap4 (And.intro hle4 hrd4))
  rw [hq]
  clear hq ho4 hle4 hrd4 hap4 hf4
  go_wp2_with (first | ((with_reducible refine gate (.store 22 (.tmp 2) _) rfl ?_); refine wp_store rfl rfl 22 _ _ rfl (w.heap.size) 0 22 [.int .u64 0] (.int .u64 z) rfl rfl [.int .u64 z] rfl size_u64' (by simp [Value.oneCell']) (K0) (by simp) ?_; intro w7 hrow7 hch7) | ((with_reducible refine gate (.store 26 (.tmp 3) _) rfl ?_); refine wp_store rfl rfl 26 _ _ rfl (w.heap.size + 1) 0 26 [.slice none 0 0] (.slice A4 q c4) rfl rfl [.slice A4 q c4] rfl size_sl (by simp [Value.oneCell']) (K1.keep hch7 (by omega)) (by simp) ?_; intro w8 hrow8 hch8) | ((with_reducible refine gate (.store 4 (.tmp 4) _) rfl ?_); refine wp_store rfl rfl 4 _ _ rfl (w.heap.size + 1 + 1) 0 4 [.bool false] (.bool true) rfl rfl [.bool true] rfl size_bool (by simp [Value.oneCell']) ((K2.keep hch7 (by omega)).keep hch8 (by omega)) (by simp) ?_; intro w9 hrow9 hch9))
  refine leaves_cons (f := 36) (args := #[.pointer (some ⟨w.heap.size, 0, none⟩), .pointer (some ⟨w.heap.size + 1, 0, none⟩), .pointer (some ⟨w.heap.size + 1 + 1, 0, none⟩)]) (by simp) (by simp [go_sem]) ?_
  refine (noValue_uint64_idle _ _ _ _).mono ?_
  rintro e u' w'' ⟨rfl, rfl, rfl⟩
  have M0 := ((hrow7.keep hch8 (by omega)).keep hch9 (by omega)).cell 0 _ rfl
  have M1 := (hrow8.keep hch9 (by omega)).cell 0 _ rfl
  have M2 := hrow9.cell 0 _ rfl
  have HC : Ch No w w'' := ((C4.freshg hch7 (Nat.le_refl _)).freshg hch8 (by omega)).freshg hch9 (by omega)
  have hr9 := ((HAP.out.2.2.keep hch7 (fun ad had h => by have := HAP.out.1 ad had; omega)).keep hch8 (fun ad had h => by have := HAP.out.1 ad had; omega)).keep hch9 (fun ad had h => by have := HAP.out.1 ad had; omega)
  refine ⟨.tuple #[.int .u64 z, .slice A4 q c4, .bool true], ?_, A4, c4, by rw [HQ.out], hr9, HAP.out.2.1.2.1, HC⟩
  simp [results, Tryd.results12, go_sem, M0, M1, M2]
set_option maxRecDepth 100000 in
set_option maxHeartbeats 1000000 in
theorem implReadDouble_no (A0 : Option Addr) (c0 : Nat) (l : List Int) (w : World) (hr0 : Rd u8 w A0 l) (hl : l.length ≤ 1099511627776)
    (hno : ∀ (p : Nat) (A : Option Addr) (c : Nat) (W : World), w.heap.size ≤ p → Ch No w W → RbS p A c l 0 W → Calls Tryd.prog 66 #[.pointer (some ⟨p, 0, none⟩)] W (RdNo p W)) :
    Calls Tryd.prog 12 #[.slice A0 l.length c0] w (BhNo (.int .u64 0) w) := by
  have R0 : Row (((w.alloc (.cells #[.int .u64 0] 22)).alloc (.cells #[.slice none 0 0] 26)).alloc (.cells #[.bool false] 4)) w.heap.size 22 [.int .u64 0] := ((Row.alloc w [.int .u64 0] 22).keep0 ((Ch.refl No _).alloc _)).keep0 ((Ch.refl No _).alloc _)
  have R1 : Row (((w.alloc (.cells #[.int .u64 0] 22)).alloc (.cells #[.slice none 0 0] 26)).alloc (.cells #[.bool false] 4)) (w.heap.size + 1) 26 [.slice none 0 0] := by
    have h := (Row.alloc (w.alloc (.cells #[.int .u64 0] 22)) [.slice none 0 0] 26).keep0 ((Ch.refl No _).alloc (.cells #[.bool false] 4))
    rwa [World.size_alloc] at h
  have R2 : Row (((w.alloc (.cells #[.int .u64 0] 22)).alloc (.cells #[.slice none 0 0] 26)).alloc (.cells #[.bool false] 4)) (w.heap.size + 1 + 1) 4 [.bool false] := by
    have h := Row.alloc ((w.alloc (.cells #[.int .u64 0] 22)).alloc (.cells #[.slice none 0 0] 26)) [.bool false] 4
    rwa [World.size_alloc, World.size_alloc] at h
  have C3 : Ch No w (((w.alloc (.cells #[.int .u64 0] 22)).alloc (.cells #[.slice none 0 0] 26)).alloc (.cells #[.bool false] 4)) := (((Ch.refl No w).alloc _).alloc _).alloc _
  have s3 : (((w.alloc (.cells #[.int .u64 0] 22)).alloc (.cells #[.slice none 0 0] 26)).alloc (.cells #[.bool false] 4)).heap.size = w.heap.size + 1 + 1 + 1 := by simp
  have hcp := hid (copied_calls A0 c0 l _ (hr0.keep0 C3) (by omega))
  have HN := hid (fun (A : Option Addr) (c : Nat) (W : World) (h : Ow 5 u8 W (.slice A l.length c) l) => new_calls A c l W h hl)
  have HRD := hid (fun (p : Nat) (A : Option Addr) (c : Nat) (W : World) (h1 : w.heap.size ≤ p) (h2 : Ch No w W) (h : RbS p A c l 0 W) => eReadDouble_of ((hno p A c W h1 h2 h).mono fun e w' ⟨z, T, v, h1, h2⟩ => ⟨_, _, h1, (⟨z, T, v, h1, h2⟩ : RdNo p W e w')⟩))
  obtain ⟨N, hN⟩ : ∃ N, l.length = N := ⟨_, rfl⟩
  have HLN := hid hN
  rw [hN] at hcp ⊢
  clear hN hr0 hno
  go_enter_defers Tryd.func12, Tryd.ntmps12
  go_wp2_with fail
  refine hcp.out.mono ?_
  rintro e w1 ⟨v1, rfl, ho1, hfr1, hch1⟩
  obtain ⟨A1, c1, rfl, _, _⟩ := ho1.slice
  have hnew := HN.out A1 c1 w1 ho1
  rw [HLN.out] at hnew ⊢
  have s1 := hch1.size
  rw [s3] at s1
  go_wp2_with fail
  refine hnew.mono ?_
  rintro e w2 ⟨p, A2, c2, rfl, hb2, hp2, _, hch2⟩
  go_wp2_with fail
  refine (HRD.out p A2 c2 w2 (by omega) ((C3.no_no hch1).no_no hch2) hb2).mono ?_
  rintro e w3 ⟨z, T, v, rfl, hch3⟩
  have hfb := float64bits_run z
  go_wp2_with fail
  refine (behind_uint64_no _ _ T v w3).mono ?_
  rintro e w4 ⟨rfl, hch4⟩
  have K0 := (((R0.keep0 hch1).keep0 hch2).keep hch3 (fun h => by have h9 : w.heap.size = p := h; omega)).keep0 hch4
  have K1 := (((R1.keep0 hch1).keep0 hch2).keep hch3 (fun h => by have h9 : w.heap.size + 1 = p := h; omega)).keep0 hch4
  have K2 := (((R2.keep0 hch1).keep0 hch2).keep hch3 (fun h => by have h9 : w.heap.size + 1 + 1 = p := h; omega)).keep0 hch4
  have C4 : Ch No w w4 := (((C3.no_no hch1).no_no hch2).freshg hch3 (by omega)).no_no hch4
  go_wp2_with (first | ((with_reducible refine gate (.store 22 (.tmp 2) _) rfl ?_); refine wp_store rfl rfl 22 _ _ rfl (w.heap.size) 0 22 [.int .u64 0] (.int .u64 0) rfl rfl [.int .u64 0] rfl size_u64' (by simp [Value.oneCell']) (K0) (by simp) ?_; intro w7 hrow7 hch7) | ((with_reducible refine gate (.store 26 (.tmp 3) _) rfl ?_); refine wp_store rfl rfl 26 _ _ rfl (w.heap.size + 1) 0 26 [.slice none 0 0] (.slice none 0 0) rfl rfl [.slice none 0 0] rfl size_sl (by simp [Value.oneCell']) (K1.keep hch7 (by omega)) (by simp) ?_; intro w8 hrow8 hch8) | ((with_reducible refine gate (.store 4 (.tmp 4) _) rfl ?_); refine wp_store rfl rfl 4 _ _ rfl (w.heap.size + 1 + 1) 0 4 [.bool false] (.bool false) rfl rfl [.bool false] rfl size_bool (by simp [Value.oneCell']) ((K2.keep hch7 (by omega)).keep hch8 (by omega)) (by simp) ?_; intro w9 hrow9 hch9))
  refine leaves_cons (f := 36) (args := #[.pointer (some ⟨w.heap.size, 0, none⟩), .pointer (some ⟨w.heap.size + 1, 0, none⟩), .pointer (some ⟨w.heap.size + 1 + 1, 0, none⟩)]) (by simp) (by simp [go_sem]) ?_
  refine (noValue_uint64_idle _ _ _ _).mono ?_
  rintro e u' w'' ⟨rfl, rfl, rfl⟩
  have M0 := ((hrow7.keep hch8 (by omega)).keep hch9 (by omega)).cell 0 _ rfl
  have M1 := (hrow8.keep hch9 (by omega)).cell 0 _ rfl
  have M2 := hrow9.cell 0 _ rfl
  have HC : Ch No w w'' := ((C4.freshg hch7 (Nat.le_refl _)).freshg hch8 (by omega)).freshg hch9 (by omega)
  refine ⟨.tuple #[.int .u64 0, .slice none 0 0, .bool false], ?_, rfl, HC⟩
  simp [results, Tryd.results12, go_sem, M0, M1, M2]

end Go.Proofs.YtbdgkikipekmlaaDoor
