/- The walks of MessagePack's writers over a copy of what stood before. No condition. -/
import Derived.Test.YtaialjpcibjmiaaPut
import Derived.Deep.RegionWith
namespace Go.Proofs.Ytaialjpcibjmiaa
set_option linter.unusedVariables false
set_option linter.unusedSimpArgs false
open Go.RowKit

set_option maxHeartbeats 1000000 in
theorem copied_calls (A : Option Addr) (c : Nat) (l : List Int) (w : World) (hr : Rd u8 w A l) (hl : l.length ≤ 35184372088832) :
    Calls Try.prog 17 #[.slice A l.length c] w fun e w' => ∃ v, e = .returned v ∧ Ow 5 u8 w' v l ∧ Fr w v ∧ Ch No w w' := by
  go_enter Try.func17, Try.ntmps17
  go_wp2_with (first
    | ((with_reducible refine gate (.call { callee := .builtin .append, args := #[.tmp 3, .tmp 4], argTypes := #[22, 22] }) rfl ?_); refine wp_append rfl _ _ 22 5 (.int .u8 0) 1 rfl Try.underlying22 info_u8 rfl (by decide) u8 (fun _ => rfl) _ [] l _ _ _ rfl rfl rfl (Ow.lit 5 u8 w [] (by simp [maxLen])) (hr.keep0 ((Ch.refl _ _).alloc _)) (by simp; omega) ?_; intro v1 w1 ho hch hat))
  go_ret
  have hch1 := (Ch.refl No w).alloc (.cells #[] 5)
  have hf : Fr w (.slice (some ⟨w.heap.size, 0, none⟩) 0 0) := Fr.mk' (Nat.le_refl _)
  exact ⟨v1, rfl, by simpa using ho, hf.step hch1.size hat, hch1.fresh hch hf⟩

/-- Bytes are appended: what comes back is a row of the call's own, in the block of what was handed in or in a new one. -/
def AppTo (w : World) (vin : Value) (l enc : List Int) (e : Ending) (w' : World) : Prop := ∃ v, e = .returned v ∧ Ow 5 u8 w' v (l ++ enc) ∧ Ch (Blk vin) w w' ∧ ∀ k, Blk v k → Blk vin k ∨ w.heap.size ≤ k
theorem app_put {w w1 : World} {A : Option Addr} {c : Nat} {l : List Int} {g : Nat} {cur : List Value} {m : Nat} (enc : List Int) (hm : enc.length = m) (hrow : Row w1 g 5 cur) (htk : cur.take l.length = l.map u8) (hlen : l.length + m ≤ cur.length) (hmx : cur.length ≤ maxLen) (hch : Ch No w w1) (hor : A = some ⟨g, 0, none⟩ ∨ w.heap.size ≤ g) :
    AppTo w (.slice A l.length c) l enc (.returned (.slice (some ⟨g, 0, none⟩) (l.length + m) cur.length)) (w1.setCells g l.length (enc.map u8)) := by
  subst hm
  obtain ⟨h1, h2⟩ := Row.sets (enc.map u8) l.length w1 cur hrow (by simpa using hlen)
  refine ⟨_, rfl, ?_, ?_, ?_⟩
  · have hl : (cur.take l.length ++ enc.map u8 ++ cur.drop (l.length + (enc.map u8).length)).length = cur.length := by simp; omega
    have := h1.ow (f := u8) (l := l ++ enc) (by
      rw [List.map_append, htk, List.append_assoc, List.length_append, ← List.append_assoc]
      rw [List.take_append_of_le_length (by simp)]
      rw [List.take_of_length_le (by simp)]) (by rw [hl, List.length_append]; exact hlen) (by rw [hl]; exact hmx)
    rw [hl, List.length_append] at this
    exact this
  · rcases hor with rfl | hg
    · exact hch.trans h2 (fun _ h => h.elim) (fun x hx => .inl (by subst hx; exact Blk_slice.2 rfl))
    · exact hch.trans h2 (fun _ h => h.elim) (fun x hx => .inr (by subst hx; exact hg))
  · intro k hk
    have hk' := Blk_slice.1 hk
    subst hk'
    rcases hor with rfl | hg
    · exact .inl (Blk_slice.2 rfl)
    · exact .inr hg
theorem Row.isCell {w : World} {g : Nat} {e : TypeId} {cur : List Value} (h : Row w g e cur) (n m : Nat) (hn : n + m ≤ cur.length) : ∀ j, j < m → ∃ u, w.cell? ⟨g, n + j, none⟩ = some u := fun j hj =>
  ⟨_, h.cell (n + j) cur[n + j] (List.getElem?_eq_getElem (by omega))⟩

theorem wfixint_calls (u : Int) (w : World) (h0 : 0 ≤ u) (h1 : u ≤ 127) : Calls Try.prog 39 #[.int .u8 u] w fun e w' => e = .returned (.int .u8 u) ∧ w = w' := by
  go_enter Try.func39, Try.ntmps39
  go_wp2
  go_ret
  refine ⟨?_, rfl⟩
  simp
  have hf : ∀ k : Fin 128, bits .and .u8 (k.val : Int) 127 = (k.val : Int) := by decide +kernel
  have := hf ⟨u.toNat, by omega⟩
  rwa [show ((u.toNat : Nat) : Int) = u by omega] at this
theorem wnfixint_calls (u : Int) (w : World) (h0 : -32 ≤ u) (h1 : u ≤ -1) : Calls Try.prog 47 #[.int .i8 u] w fun e w' => e = .returned (.int .u8 (u + 256)) ∧ w = w' := by
  go_enter Try.func47, Try.ntmps47
  go_wp2
  go_ret
  refine ⟨?_, rfl⟩
  simp
  have hf : ∀ k : Fin 32, bits .or .u8 (((k.val : Int) - 32) % 256) 224 = (k.val : Int) - 32 + 256 := by decide +kernel
  have := hf ⟨(u + 32).toNat, by omega⟩
  rwa [show (((u + 32).toNat : Nat) : Int) - 32 = u by omega] at this
theorem wfixarray_calls (u : Int) (w : World) (h0 : 0 ≤ u) (h1 : u ≤ 15) : Calls Try.prog 35 #[.int .u8 u] w fun e w' => e = .returned (.int .u8 (u + 144)) ∧ w = w' := by
  go_enter Try.func35, Try.ntmps35
  go_wp2
  go_ret
  refine ⟨?_, rfl⟩
  simp
  have hf : ∀ k : Fin 16, bits .or .u8 ((k.val : Int) % 16) 144 = (k.val : Int) + 144 := by decide +kernel
  have := hf ⟨u.toNat, by omega⟩
  rwa [show ((u.toNat : Nat) : Int) = u by omega] at this

theorem Row.one (w : World) (x : Int) : Rd u8 (w.alloc (.cells #[u8 x] 5)) (some ⟨w.heap.size, 0, none⟩) [x] :=
  (Row.alloc w [u8 x] 5).rd (l := [x]) rfl
/-- Behind append(b, x): what is told of it, as AppTo. -/
theorem app_one {w w0 w1 : World} {v v1 : Value} {l : List Int} {x : Int} (ho : Ow 5 u8 w1 v1 (l ++ [x])) (hch : Ch (Blk v) w0 w1) (hat : ∀ k, Blk v1 k → Blk v k ∨ w0.heap.size ≤ k) (h0 : Ch No w w0) : AppTo w v l [x] (.returned v1) w1 :=
  ⟨v1, rfl, ho, h0.no_then hch, fun k hk => (hat k hk).imp id (fun h => Nat.le_trans h0.size h)⟩

set_option maxHeartbeats 1000000 in
theorem appU64_1 (A : Option Addr) (c : Nat) (l : List Int) (n : Int) (w : World) (h : Ow 5 u8 w (.slice A l.length c) l) (hl : l.length ≤ 1099511627776) (h0 : 0 ≤ n) (h1 : n ≤ 127) :
    Calls Try.prog 36 #[.slice A l.length c, .int .u64 n] w (AppTo w (.slice A l.length c) l [n]) := by
  go_enter Try.func36, Try.ntmps36
  go_wp2_with (first | (go_at_call 39; refine (wfixint_calls _ _ (by omega) (by omega)).mono ?_; rintro e w' ⟨rfl, rfl⟩) | ((with_reducible refine gate (.call { callee := .builtin .append, args := #[.tmp 27, .tmp 31], argTypes := #[22, 22] }) rfl ?_); refine wp_append rfl _ _ 22 5 (.int .u8 0) 1 rfl Try.underlying22 info_u8 rfl (by decide) u8 (fun _ => rfl) _ l [n] _ _ _ rfl rfl rfl (h.keep0 ((Ch.refl _ _).alloc _)) (Row.one _ _) (by simp; omega) ?_; intro v1 w1 ho hch1 hat))
  go_ret
  exact app_one ho hch1 hat ((Ch.refl No w).alloc _)
set_option maxHeartbeats 1000000 in
theorem appU64_2 (A : Option Addr) (c : Nat) (l : List Int) (n : Int) (w : World) (h : Ow 5 u8 w (.slice A l.length c) l) (hl : l.length ≤ 1099511627776) (h0 : 127 < n) (h1 : n ≤ 255) :
    Calls Try.prog 36 #[.slice A l.length c, .int .u64 n] w (AppTo w (.slice A l.length c) l [204, n]) := by
  go_enter Try.func36, Try.ntmps36
  go_wp2_with (first | (go_at_call 26; refine (ensure_calls _ _ l _ w h (by omega) (by omega)).mono ?_; rintro e w1 ⟨g, cur, rfl, hrow, htk, hlen, hmx, hch, hor⟩; simp only [Int.reduceToNat] at hlen; have hne : ¬ cur.length = l.length := by omega) | (go_at_call 40; refine (putMuint8_calls g l.length _ _ _ w1 (by omega) (by omega) (hrow.isCell l.length 2 (by omega)) (fun j _ => hrow.frozen _)).mono ?_; rintro e w2 ⟨rfl, rfl⟩))
  go_ret
  exact app_put [204, n] rfl hrow htk hlen hmx hch hor
set_option maxHeartbeats 1000000 in
theorem appU64_3 (A : Option Addr) (c : Nat) (l : List Int) (n : Int) (w : World) (h : Ow 5 u8 w (.slice A l.length c) l) (hl : l.length ≤ 1099511627776) (h0 : 255 < n) (h1 : n ≤ 65535) :
    Calls Try.prog 36 #[.slice A l.length c, .int .u64 n] w (AppTo w (.slice A l.length c) l [205, n / 256, (n) % 256]) := by
  go_enter Try.func36, Try.ntmps36
  go_wp2_with (first | (go_at_call 26; refine (ensure_calls _ _ l _ w h (by omega) (by omega)).mono ?_; rintro e w1 ⟨g, cur, rfl, hrow, htk, hlen, hmx, hch, hor⟩; simp only [Int.reduceToNat] at hlen; have hne : ¬ cur.length = l.length := by omega) | (go_at_call 41; refine (putMuint16_calls g l.length _ _ _ w1 (by omega) (by omega) (hrow.isCell l.length 3 (by omega)) (fun j _ => hrow.frozen _)).mono ?_; rintro e w2 ⟨rfl, rfl⟩))
  go_ret
  exact app_put [205, n / 256, (n) % 256] rfl hrow htk hlen hmx hch hor
set_option maxHeartbeats 1000000 in
theorem appU64_5 (A : Option Addr) (c : Nat) (l : List Int) (n : Int) (w : World) (h : Ow 5 u8 w (.slice A l.length c) l) (hl : l.length ≤ 1099511627776) (h0 : 65535 < n) (h1 : n ≤ 4294967295) :
    Calls Try.prog 36 #[.slice A l.length c, .int .u64 n] w (AppTo w (.slice A l.length c) l [206, n / 16777216, n / 65536 % 256, n / 256 % 256, (n) % 256]) := by
  go_enter Try.func36, Try.ntmps36
  go_wp2_with (first | (go_at_call 26; refine (ensure_calls _ _ l _ w h (by omega) (by omega)).mono ?_; rintro e w1 ⟨g, cur, rfl, hrow, htk, hlen, hmx, hch, hor⟩; simp only [Int.reduceToNat] at hlen; have hne : ¬ cur.length = l.length := by omega) | (go_at_call 42; refine (putMuint32_calls g l.length _ _ _ w1 (by omega) (by omega) (hrow.isCell l.length 5 (by omega)) (fun j _ => hrow.frozen _)).mono ?_; rintro e w2 ⟨rfl, rfl⟩))
  go_ret
  exact app_put [206, n / 16777216, n / 65536 % 256, n / 256 % 256, (n) % 256] rfl hrow htk hlen hmx hch hor
set_option maxHeartbeats 1000000 in
theorem appU64_9 (A : Option Addr) (c : Nat) (l : List Int) (n : Int) (w : World) (h : Ow 5 u8 w (.slice A l.length c) l) (hl : l.length ≤ 1099511627776) (h0 : 4294967295 < n) (h1 : n < 18446744073709551616) :
    Calls Try.prog 36 #[.slice A l.length c, .int .u64 n] w (AppTo w (.slice A l.length c) l [207, n / 72057594037927936, n / 281474976710656 % 256, n / 1099511627776 % 256, n / 4294967296 % 256, n / 16777216 % 256, n / 65536 % 256, n / 256 % 256, (n) % 256]) := by
  go_enter Try.func36, Try.ntmps36
  go_wp2_with (first | (go_at_call 26; refine (ensure_calls _ _ l _ w h (by omega) (by omega)).mono ?_; rintro e w1 ⟨g, cur, rfl, hrow, htk, hlen, hmx, hch, hor⟩; simp only [Int.reduceToNat] at hlen; have hne : ¬ cur.length = l.length := by omega) | (go_at_call 43; refine (putMuint64_calls g l.length _ _ _ w1 (by omega) (by omega) (hrow.isCell l.length 9 (by omega)) (fun j _ => hrow.frozen _)).mono ?_; rintro e w2 ⟨rfl, rfl⟩))
  go_ret
  exact app_put [207, n / 72057594037927936, n / 281474976710656 % 256, n / 1099511627776 % 256, n / 4294967296 % 256, n / 16777216 % 256, n / 65536 % 256, n / 256 % 256, (n) % 256] rfl hrow htk hlen hmx hch hor
set_option maxHeartbeats 1000000 in
theorem appI64_1 (A : Option Addr) (c : Nat) (l : List Int) (n : Int) (w : World) (h : Ow 5 u8 w (.slice A l.length c) l) (hl : l.length ≤ 1099511627776) (h0 : 0 ≤ n) (h1 : n ≤ 127) :
    Calls Try.prog 37 #[.slice A l.length c, .int .i64 n] w (AppTo w (.slice A l.length c) l [n]) := by
  go_enter Try.func37, Try.ntmps37
  go_wp2_with (first | (go_at_call 39; refine (wfixint_calls _ _ (by omega) (by omega)).mono ?_; rintro e w' ⟨rfl, rfl⟩) | ((with_reducible refine gate (.call { callee := .builtin .append, args := #[.tmp 35, .tmp 39], argTypes := #[22, 22] }) rfl ?_); refine wp_append rfl _ _ 22 5 (.int .u8 0) 1 rfl Try.underlying22 info_u8 rfl (by decide) u8 (fun _ => rfl) _ l [n] _ _ _ rfl rfl rfl (h.keep0 ((Ch.refl _ _).alloc _)) (Row.one _ _) (by simp; omega) ?_; intro v1 w1 ho hch1 hat))
  go_ret
  exact app_one ho hch1 hat ((Ch.refl No w).alloc _)
set_option maxHeartbeats 1000000 in
theorem appI64_3 (A : Option Addr) (c : Nat) (l : List Int) (n : Int) (w : World) (h : Ow 5 u8 w (.slice A l.length c) l) (hl : l.length ≤ 1099511627776) (h0 : 127 < n) (h1 : n ≤ 32767) :
    Calls Try.prog 37 #[.slice A l.length c, .int .i64 n] w (AppTo w (.slice A l.length c) l [209, n / 256 % 256, (n) % 256]) := by
  go_enter Try.func37, Try.ntmps37
  go_wp2_with (first | (go_at_call 26; refine (ensure_calls _ _ l _ w h (by omega) (by omega)).mono ?_; rintro e w1 ⟨g, cur, rfl, hrow, htk, hlen, hmx, hch, hor⟩; simp only [Int.reduceToNat] at hlen; have hne : ¬ cur.length = l.length := by omega) | (go_at_call 44; refine (putMint16_calls g l.length _ _ _ w1 (by omega) (by omega) (hrow.isCell l.length 3 (by omega)) (fun j _ => hrow.frozen _)).mono ?_; rintro e w2 ⟨rfl, rfl⟩))
  go_ret
  exact app_put [209, n / 256 % 256, (n) % 256] rfl hrow htk hlen hmx hch hor
set_option maxHeartbeats 1000000 in
theorem appI64_5 (A : Option Addr) (c : Nat) (l : List Int) (n : Int) (w : World) (h : Ow 5 u8 w (.slice A l.length c) l) (hl : l.length ≤ 1099511627776) (h0 : 32767 < n) (h1 : n ≤ 2147483647) :
    Calls Try.prog 37 #[.slice A l.length c, .int .i64 n] w (AppTo w (.slice A l.length c) l [210, n / 16777216 % 256, n / 65536 % 256, n / 256 % 256, (n) % 256]) := by
  go_enter Try.func37, Try.ntmps37
  go_wp2_with (first | (go_at_call 26; refine (ensure_calls _ _ l _ w h (by omega) (by omega)).mono ?_; rintro e w1 ⟨g, cur, rfl, hrow, htk, hlen, hmx, hch, hor⟩; simp only [Int.reduceToNat] at hlen; have hne : ¬ cur.length = l.length := by omega) | (go_at_call 45; refine (putMint32_calls g l.length _ _ _ w1 (by omega) (by omega) (hrow.isCell l.length 5 (by omega)) (fun j _ => hrow.frozen _)).mono ?_; rintro e w2 ⟨rfl, rfl⟩))
  go_ret
  exact app_put [210, n / 16777216 % 256, n / 65536 % 256, n / 256 % 256, (n) % 256] rfl hrow htk hlen hmx hch hor
set_option maxHeartbeats 1000000 in
theorem appI64_9 (A : Option Addr) (c : Nat) (l : List Int) (n : Int) (w : World) (h : Ow 5 u8 w (.slice A l.length c) l) (hl : l.length ≤ 1099511627776) (h0 : 2147483647 < n) (h1 : n < 9223372036854775808) :
    Calls Try.prog 37 #[.slice A l.length c, .int .i64 n] w (AppTo w (.slice A l.length c) l [211, n / 72057594037927936 % 256, n / 281474976710656 % 256, n / 1099511627776 % 256, n / 4294967296 % 256, n / 16777216 % 256, n / 65536 % 256, n / 256 % 256, (n) % 256]) := by
  go_enter Try.func37, Try.ntmps37
  go_wp2_with (first | (go_at_call 26; refine (ensure_calls _ _ l _ w h (by omega) (by omega)).mono ?_; rintro e w1 ⟨g, cur, rfl, hrow, htk, hlen, hmx, hch, hor⟩; simp only [Int.reduceToNat] at hlen; have hne : ¬ cur.length = l.length := by omega) | (go_at_call 46; refine (putMint64_calls g l.length _ _ _ w1 (by omega) (by omega) (hrow.isCell l.length 9 (by omega)) (fun j _ => hrow.frozen _)).mono ?_; rintro e w2 ⟨rfl, rfl⟩))
  go_ret
  exact app_put [211, n / 72057594037927936 % 256, n / 281474976710656 % 256, n / 1099511627776 % 256, n / 4294967296 % 256, n / 16777216 % 256, n / 65536 % 256, n / 256 % 256, (n) % 256] rfl hrow htk hlen hmx hch hor
set_option maxHeartbeats 1000000 in
theorem appI64_n1 (A : Option Addr) (c : Nat) (l : List Int) (n : Int) (w : World) (h : Ow 5 u8 w (.slice A l.length c) l) (hl : l.length ≤ 1099511627776) (h0 : -32 ≤ n) (h1 : n ≤ -1) :
    Calls Try.prog 37 #[.slice A l.length c, .int .i64 n] w (AppTo w (.slice A l.length c) l [n + 256]) := by
  go_enter Try.func37, Try.ntmps37
  go_wp2_with (first | (go_at_call 47; refine (wnfixint_calls _ _ (by omega) (by omega)).mono ?_; rintro e w' ⟨rfl, rfl⟩) | ((with_reducible refine gate (.call { callee := .builtin .append, args := #[.tmp 85, .tmp 89], argTypes := #[22, 22] }) rfl ?_); refine wp_append rfl _ _ 22 5 (.int .u8 0) 1 rfl Try.underlying22 info_u8 rfl (by decide) u8 (fun _ => rfl) _ l [n + 256] _ _ _ rfl rfl rfl (h.keep0 ((Ch.refl _ _).alloc _)) (Row.one _ _) (by simp; omega) ?_; intro v1 w1 ho hch1 hat))
  go_ret
  exact app_one ho hch1 hat ((Ch.refl No w).alloc _)
set_option maxHeartbeats 1000000 in
theorem appI64_n2 (A : Option Addr) (c : Nat) (l : List Int) (n : Int) (w : World) (h : Ow 5 u8 w (.slice A l.length c) l) (hl : l.length ≤ 1099511627776) (h0 : -128 ≤ n) (h1 : n < -32) :
    Calls Try.prog 37 #[.slice A l.length c, .int .i64 n] w (AppTo w (.slice A l.length c) l [208, (n) % 256]) := by
  go_enter Try.func37, Try.ntmps37
  go_wp2_with (first | (go_at_call 26; refine (ensure_calls _ _ l _ w h (by omega) (by omega)).mono ?_; rintro e w1 ⟨g, cur, rfl, hrow, htk, hlen, hmx, hch, hor⟩; simp only [Int.reduceToNat] at hlen; have hne : ¬ cur.length = l.length := by omega) | (go_at_call 48; refine (putMint8_calls g l.length _ _ _ w1 (by omega) (by omega) (hrow.isCell l.length 2 (by omega)) (fun j _ => hrow.frozen _)).mono ?_; rintro e w2 ⟨rfl, rfl⟩))
  go_ret
  exact app_put [208, (n) % 256] rfl hrow htk hlen hmx hch hor
set_option maxHeartbeats 1000000 in
theorem appI64_n3 (A : Option Addr) (c : Nat) (l : List Int) (n : Int) (w : World) (h : Ow 5 u8 w (.slice A l.length c) l) (hl : l.length ≤ 1099511627776) (h0 : -32768 ≤ n) (h1 : n < -128) :
    Calls Try.prog 37 #[.slice A l.length c, .int .i64 n] w (AppTo w (.slice A l.length c) l [209, n / 256 % 256, (n) % 256]) := by
  go_enter Try.func37, Try.ntmps37
  go_wp2_with (first | (go_at_call 26; refine (ensure_calls _ _ l _ w h (by omega) (by omega)).mono ?_; rintro e w1 ⟨g, cur, rfl, hrow, htk, hlen, hmx, hch, hor⟩; simp only [Int.reduceToNat] at hlen; have hne : ¬ cur.length = l.length := by omega) | (go_at_call 44; refine (putMint16_calls g l.length _ _ _ w1 (by omega) (by omega) (hrow.isCell l.length 3 (by omega)) (fun j _ => hrow.frozen _)).mono ?_; rintro e w2 ⟨rfl, rfl⟩))
  go_ret
  exact app_put [209, n / 256 % 256, (n) % 256] rfl hrow htk hlen hmx hch hor
set_option maxHeartbeats 1000000 in
theorem appI64_n5 (A : Option Addr) (c : Nat) (l : List Int) (n : Int) (w : World) (h : Ow 5 u8 w (.slice A l.length c) l) (hl : l.length ≤ 1099511627776) (h0 : -2147483648 ≤ n) (h1 : n < -32768) :
    Calls Try.prog 37 #[.slice A l.length c, .int .i64 n] w (AppTo w (.slice A l.length c) l [210, n / 16777216 % 256, n / 65536 % 256, n / 256 % 256, (n) % 256]) := by
  go_enter Try.func37, Try.ntmps37
  go_wp2_with (first | (go_at_call 26; refine (ensure_calls _ _ l _ w h (by omega) (by omega)).mono ?_; rintro e w1 ⟨g, cur, rfl, hrow, htk, hlen, hmx, hch, hor⟩; simp only [Int.reduceToNat] at hlen; have hne : ¬ cur.length = l.length := by omega) | (go_at_call 45; refine (putMint32_calls g l.length _ _ _ w1 (by omega) (by omega) (hrow.isCell l.length 5 (by omega)) (fun j _ => hrow.frozen _)).mono ?_; rintro e w2 ⟨rfl, rfl⟩))
  go_ret
  exact app_put [210, n / 16777216 % 256, n / 65536 % 256, n / 256 % 256, (n) % 256] rfl hrow htk hlen hmx hch hor
set_option maxHeartbeats 1000000 in
theorem appI64_n9 (A : Option Addr) (c : Nat) (l : List Int) (n : Int) (w : World) (h : Ow 5 u8 w (.slice A l.length c) l) (hl : l.length ≤ 1099511627776) (h0 : -9223372036854775808 ≤ n) (h1 : n < -2147483648) :
    Calls Try.prog 37 #[.slice A l.length c, .int .i64 n] w (AppTo w (.slice A l.length c) l [211, n / 72057594037927936 % 256, n / 281474976710656 % 256, n / 1099511627776 % 256, n / 4294967296 % 256, n / 16777216 % 256, n / 65536 % 256, n / 256 % 256, (n) % 256]) := by
  go_enter Try.func37, Try.ntmps37
  go_wp2_with (first | (go_at_call 26; refine (ensure_calls _ _ l _ w h (by omega) (by omega)).mono ?_; rintro e w1 ⟨g, cur, rfl, hrow, htk, hlen, hmx, hch, hor⟩; simp only [Int.reduceToNat] at hlen; have hne : ¬ cur.length = l.length := by omega) | (go_at_call 46; refine (putMint64_calls g l.length _ _ _ w1 (by omega) (by omega) (hrow.isCell l.length 9 (by omega)) (fun j _ => hrow.frozen _)).mono ?_; rintro e w2 ⟨rfl, rfl⟩))
  go_ret
  exact app_put [211, n / 72057594037927936 % 256, n / 281474976710656 % 256, n / 1099511627776 % 256, n / 4294967296 % 256, n / 16777216 % 256, n / 65536 % 256, n / 256 % 256, (n) % 256] rfl hrow htk hlen hmx hch hor


set_option maxHeartbeats 1000000 in
theorem appArr_1 (A : Option Addr) (c : Nat) (l : List Int) (n : Int) (w : World) (h : Ow 5 u8 w (.slice A l.length c) l) (hl : l.length ≤ 1099511627776) (h0 : 0 ≤ n) (h1 : n ≤ 15) :
    Calls Try.prog 22 #[.slice A l.length c, .int .u32 n] w (AppTo w (.slice A l.length c) l [n + 144]) := by
  go_enter Try.func22, Try.ntmps22
  go_wp2_with (first | (go_at_call 35; refine (wfixarray_calls _ _ (by omega) (by omega)).mono ?_; rintro e w' ⟨rfl, rfl⟩) | ((with_reducible refine gate (.call { callee := .builtin .append, args := #[.tmp 23, .tmp 27], argTypes := #[22, 22] }) rfl ?_); refine wp_append rfl _ _ 22 5 (.int .u8 0) 1 rfl Try.underlying22 info_u8 rfl (by decide) u8 (fun _ => rfl) _ l [n + 144] _ _ _ rfl rfl rfl (h.keep0 ((Ch.refl _ _).alloc _)) (Row.one _ _) (by simp; omega) ?_; intro v1 w1 ho hch1 hat))
  go_ret
  exact app_one ho hch1 hat ((Ch.refl No w).alloc _)
set_option maxHeartbeats 1000000 in
theorem appArr_3 (A : Option Addr) (c : Nat) (l : List Int) (n : Int) (w : World) (h : Ow 5 u8 w (.slice A l.length c) l) (hl : l.length ≤ 1099511627776) (h0 : 15 < n) (h1 : n ≤ 65535) :
    Calls Try.prog 22 #[.slice A l.length c, .int .u32 n] w (AppTo w (.slice A l.length c) l [220, n / 256, (n) % 256]) := by
  go_enter Try.func22, Try.ntmps22
  go_wp2_with (first | (go_at_call 26; refine (ensure_calls _ _ l _ w h (by omega) (by omega)).mono ?_; rintro e w1 ⟨g, cur, rfl, hrow, htk, hlen, hmx, hch, hor⟩; simp only [Int.reduceToNat] at hlen; have hne : ¬ cur.length = l.length := by omega) | (go_at_call 33; refine (prefixu16_calls g l.length _ _ 220 _ w1 (by omega) (by omega) (hrow.isCell l.length 3 (by omega)) (fun j _ => hrow.frozen _)).mono ?_; rintro e w2 ⟨rfl, rfl⟩))
  go_ret
  exact app_put [220, n / 256, (n) % 256] rfl hrow htk hlen hmx hch hor
set_option maxHeartbeats 1000000 in
theorem appArr_5 (A : Option Addr) (c : Nat) (l : List Int) (n : Int) (w : World) (h : Ow 5 u8 w (.slice A l.length c) l) (hl : l.length ≤ 1099511627776) (h0 : 65535 < n) (h1 : n < 4294967296) :
    Calls Try.prog 22 #[.slice A l.length c, .int .u32 n] w (AppTo w (.slice A l.length c) l [221, n / 16777216, n / 65536 % 256, n / 256 % 256, (n) % 256]) := by
  go_enter Try.func22, Try.ntmps22
  go_wp2_with (first | (go_at_call 26; refine (ensure_calls _ _ l _ w h (by omega) (by omega)).mono ?_; rintro e w1 ⟨g, cur, rfl, hrow, htk, hlen, hmx, hch, hor⟩; simp only [Int.reduceToNat] at hlen; have hne : ¬ cur.length = l.length := by omega) | (go_at_call 34; refine (prefixu32_calls g l.length _ _ 221 _ w1 (by omega) (by omega) (hrow.isCell l.length 5 (by omega)) (fun j _ => hrow.frozen _)).mono ?_; rintro e w2 ⟨rfl, rfl⟩))
  go_ret
  exact app_put [221, n / 16777216, n / 65536 % 256, n / 256 % 256, (n) % 256] rfl hrow htk hlen hmx hch hor

end Go.Proofs.Ytaialjpcibjmiaa
