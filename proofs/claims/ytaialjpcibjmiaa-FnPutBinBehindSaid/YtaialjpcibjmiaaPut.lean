/- The walks of MessagePack's small writers: prefixes, room, bytes copied. No condition. -/
import Derived.Test.YtaialjpcibjmiaaLib
namespace Go.Proofs.Ytaialjpcibjmiaa
set_option linter.unusedVariables false
set_option linter.unusedSimpArgs false
open Go.RowKit

theorem info_u8 : (Try.prog.info? 5).map (fun i => (i.zero, i.size, i.bytes)) = some (some (.int .u8 0), 1, 1) := by kernel_rfl
theorem size_u8 : (Try.prog.info? 5).map (·.size) = some 1 := by kernel_rfl
abbrev u8 (x : Int) : Value := .int .u8 x

set_option maxHeartbeats 1000000 in
theorem ensure_calls (A : Option Addr) (c : Nat) (l : List Int) (sz : Int) (w : World) (h : Ow 5 u8 w (.slice A l.length c) l) (h0 : 0 < sz) (hl : (l.length : Int) + sz ≤ 35184372088832) :
    Calls Try.prog 26 #[.slice A l.length c, .int .i64 sz] w fun e w' => ∃ g cur, e = .returned (.tuple #[.slice (some ⟨g, 0, none⟩) (l.length + sz.toNat) cur.length, .int .i64 l.length]) ∧ Row w' g 5 cur ∧ cur.take l.length = l.map u8 ∧ l.length + sz.toNat ≤ cur.length ∧ cur.length ≤ maxLen ∧ Ch No w w' ∧ (A = some ⟨g, 0, none⟩ ∨ w.heap.size ≤ g) := by
  obtain ⟨s, rfl⟩ := Int.eq_ofNat_of_zero_le (Int.le_of_lt h0)
  simp only [Int.toNat_natCast]
  obtain ⟨_, hlc, hcm⟩ := h.le
  unfold maxLen at hcm
  have hr := h.rd
  by_cases hfit : (c : Int) - l.length < s
  · have hf := decide_eq_true hfit
    go_enter Try.func26, Try.ntmps26
    go_wp2_with (first
      | (at_make; refine wp_make rfl 22 5 _ _ rfl (.int .u8 0) 1 Try.underlying22 info_u8 rfl _ _ _ _ (2 * c + s) rfl rfl (by omega) (by omega) (by omega) (by omega) ?_; intro w1 hrow hch)
      | ((with_reducible refine gate (.call { callee := .builtin .copy, args := #[.tmp 24, .tmp 25], argTypes := #[22, 22] }) rfl ?_); refine wp_copy rfl _ _ 22 22 5 rfl Try.underlying22 size_u8 u8 (fun _ => rfl) _ 0 _ _ _ _ _ rfl rfl _ 5 hrow l rfl (hr.keep0 hch) (by simp) ?_; intro w2 hrow2 hch2))
    go_ret2
    have hlen : (List.take 0 (List.replicate (2 * c + s) (Value.int .u8 0)) ++ (l.take (2 * c + s)).map u8 ++ List.drop (0 + min l.length (2 * c + s)) (List.replicate (2 * c + s) (Value.int .u8 0))).length = 2 * c + s := by simp; omega
    refine ⟨w.heap.size, _, ?_, hrow2, ?_, by omega, by rw [hlen]; unfold maxLen; omega, (hch.trans hch2 (fun _ h => h) (fun x hx => .inr (by omega))), .inr (Nat.le_refl _)⟩
    · have hmin : min l.length (2 * c + s) = l.length := by omega
      rw [hlen]
      simp [hmin]
    · rw [List.take_of_length_le (show l.length ≤ 2 * c + s by omega)]
      simp
  · have hf := decide_eq_false hfit
    go_enter Try.func26, Try.ntmps26
    go_wp2
    go_ret2
    obtain ⟨g, cur, rfl, hrow, hcl, _, _, _, htk⟩ := h.row (by omega)
    subst hcl
    exact ⟨g, cur, by first | rfl | simp, hrow, htk, by omega, by unfold maxLen; omega, Ch.refl _ _, .inl rfl⟩

set_option maxHeartbeats 1000000 in
theorem prefixu8_calls (b off n c : Nat) (x y : Int) (w : World) (hn : 2 ≤ n) (hy : 0 ≤ y ∧ y < 256) (hc : ∀ j, j < 2 → ∃ u, w.cell? ⟨b, off + j, none⟩ = some u) (hf : ∀ j, j < 2 → w.frozen? ⟨b, off + j, none⟩ = false) :
    Calls Try.prog 32 #[.slice (some ⟨b, off, none⟩) n c, .int .u8 x, .int .u8 y] w fun e w' => e = .returned (.tuple #[]) ∧ w' = w.setCells b off [.int .u8 (x), .int .u8 (y)] := by
  obtain ⟨u0, h0⟩ : ∃ u, w.cell? ⟨b, off, none⟩ = some u := hc 0 (by omega)
  have f0 : w.frozen? ⟨b, off, none⟩ = false := hf 0 (by omega)
  obtain ⟨u1, h1⟩ : ∃ u, w.cell? ⟨b, off + 1, none⟩ = some u := hc 1 (by omega)
  have f1 : w.frozen? ⟨b, off + 1, none⟩ = false := hf 1 (by omega)
  obtain ⟨hy0, hy1⟩ := hy
  clear hc hf
  go_enter Try.func32, Try.ntmps32
  go_wp2
  go_end0
  exact ⟨rfl, by simp only [World.setCells]⟩
set_option maxHeartbeats 1000000 in
theorem prefixu16_calls (b off n c : Nat) (x y : Int) (w : World) (hn : 3 ≤ n) (hy : 0 ≤ y ∧ y < 65536) (hc : ∀ j, j < 3 → ∃ u, w.cell? ⟨b, off + j, none⟩ = some u) (hf : ∀ j, j < 3 → w.frozen? ⟨b, off + j, none⟩ = false) :
    Calls Try.prog 33 #[.slice (some ⟨b, off, none⟩) n c, .int .u8 x, .int .u16 y] w fun e w' => e = .returned (.tuple #[]) ∧ w' = w.setCells b off [.int .u8 (x), .int .u8 (y / 256), .int .u8 ((y) % 256)] := by
  obtain ⟨u0, h0⟩ : ∃ u, w.cell? ⟨b, off, none⟩ = some u := hc 0 (by omega)
  have f0 : w.frozen? ⟨b, off, none⟩ = false := hf 0 (by omega)
  obtain ⟨u1, h1⟩ : ∃ u, w.cell? ⟨b, off + 1, none⟩ = some u := hc 1 (by omega)
  have f1 : w.frozen? ⟨b, off + 1, none⟩ = false := hf 1 (by omega)
  obtain ⟨u2, h2⟩ : ∃ u, w.cell? ⟨b, off + 2, none⟩ = some u := hc 2 (by omega)
  have f2 : w.frozen? ⟨b, off + 2, none⟩ = false := hf 2 (by omega)
  obtain ⟨hy0, hy1⟩ := hy
  clear hc hf
  go_enter Try.func33, Try.ntmps33
  go_wp2
  go_end0
  exact ⟨rfl, by simp only [World.setCells]⟩
set_option maxHeartbeats 1000000 in
theorem prefixu32_calls (b off n c : Nat) (x y : Int) (w : World) (hn : 5 ≤ n) (hy : 0 ≤ y ∧ y < 4294967296) (hc : ∀ j, j < 5 → ∃ u, w.cell? ⟨b, off + j, none⟩ = some u) (hf : ∀ j, j < 5 → w.frozen? ⟨b, off + j, none⟩ = false) :
    Calls Try.prog 34 #[.slice (some ⟨b, off, none⟩) n c, .int .u8 x, .int .u32 y] w fun e w' => e = .returned (.tuple #[]) ∧ w' = w.setCells b off [.int .u8 (x), .int .u8 (y / 16777216), .int .u8 ((y / 65536) % 256), .int .u8 ((y / 256) % 256), .int .u8 ((y) % 256)] := by
  obtain ⟨u0, h0⟩ : ∃ u, w.cell? ⟨b, off, none⟩ = some u := hc 0 (by omega)
  have f0 : w.frozen? ⟨b, off, none⟩ = false := hf 0 (by omega)
  obtain ⟨u1, h1⟩ : ∃ u, w.cell? ⟨b, off + 1, none⟩ = some u := hc 1 (by omega)
  have f1 : w.frozen? ⟨b, off + 1, none⟩ = false := hf 1 (by omega)
  obtain ⟨u2, h2⟩ : ∃ u, w.cell? ⟨b, off + 2, none⟩ = some u := hc 2 (by omega)
  have f2 : w.frozen? ⟨b, off + 2, none⟩ = false := hf 2 (by omega)
  obtain ⟨u3, h3⟩ : ∃ u, w.cell? ⟨b, off + 3, none⟩ = some u := hc 3 (by omega)
  have f3 : w.frozen? ⟨b, off + 3, none⟩ = false := hf 3 (by omega)
  obtain ⟨u4, h4⟩ : ∃ u, w.cell? ⟨b, off + 4, none⟩ = some u := hc 4 (by omega)
  have f4 : w.frozen? ⟨b, off + 4, none⟩ = false := hf 4 (by omega)
  obtain ⟨hy0, hy1⟩ := hy
  clear hc hf
  go_enter Try.func34, Try.ntmps34
  go_wp2
  go_end0
  exact ⟨rfl, by simp only [World.setCells]⟩
set_option maxHeartbeats 1000000 in
theorem prefixu64_calls (b off n c : Nat) (x y : Int) (w : World) (hn : 9 ≤ n) (hy : 0 ≤ y ∧ y < 18446744073709551616) (hc : ∀ j, j < 9 → ∃ u, w.cell? ⟨b, off + j, none⟩ = some u) (hf : ∀ j, j < 9 → w.frozen? ⟨b, off + j, none⟩ = false) :
    Calls Try.prog 27 #[.slice (some ⟨b, off, none⟩) n c, .int .u8 x, .int .u64 y] w fun e w' => e = .returned (.tuple #[]) ∧ w' = w.setCells b off [.int .u8 (x), .int .u8 (y / 72057594037927936), .int .u8 ((y / 281474976710656) % 256), .int .u8 ((y / 1099511627776) % 256), .int .u8 ((y / 4294967296) % 256), .int .u8 ((y / 16777216) % 256), .int .u8 ((y / 65536) % 256), .int .u8 ((y / 256) % 256), .int .u8 ((y) % 256)] := by
  obtain ⟨u0, h0⟩ : ∃ u, w.cell? ⟨b, off, none⟩ = some u := hc 0 (by omega)
  have f0 : w.frozen? ⟨b, off, none⟩ = false := hf 0 (by omega)
  obtain ⟨u1, h1⟩ : ∃ u, w.cell? ⟨b, off + 1, none⟩ = some u := hc 1 (by omega)
  have f1 : w.frozen? ⟨b, off + 1, none⟩ = false := hf 1 (by omega)
  obtain ⟨u2, h2⟩ : ∃ u, w.cell? ⟨b, off + 2, none⟩ = some u := hc 2 (by omega)
  have f2 : w.frozen? ⟨b, off + 2, none⟩ = false := hf 2 (by omega)
  obtain ⟨u3, h3⟩ : ∃ u, w.cell? ⟨b, off + 3, none⟩ = some u := hc 3 (by omega)
  have f3 : w.frozen? ⟨b, off + 3, none⟩ = false := hf 3 (by omega)
  obtain ⟨u4, h4⟩ : ∃ u, w.cell? ⟨b, off + 4, none⟩ = some u := hc 4 (by omega)
  have f4 : w.frozen? ⟨b, off + 4, none⟩ = false := hf 4 (by omega)
  obtain ⟨u5, h5⟩ : ∃ u, w.cell? ⟨b, off + 5, none⟩ = some u := hc 5 (by omega)
  have f5 : w.frozen? ⟨b, off + 5, none⟩ = false := hf 5 (by omega)
  obtain ⟨u6, h6⟩ : ∃ u, w.cell? ⟨b, off + 6, none⟩ = some u := hc 6 (by omega)
  have f6 : w.frozen? ⟨b, off + 6, none⟩ = false := hf 6 (by omega)
  obtain ⟨u7, h7⟩ : ∃ u, w.cell? ⟨b, off + 7, none⟩ = some u := hc 7 (by omega)
  have f7 : w.frozen? ⟨b, off + 7, none⟩ = false := hf 7 (by omega)
  obtain ⟨u8, h8⟩ : ∃ u, w.cell? ⟨b, off + 8, none⟩ = some u := hc 8 (by omega)
  have f8 : w.frozen? ⟨b, off + 8, none⟩ = false := hf 8 (by omega)
  obtain ⟨hy0, hy1⟩ := hy
  clear hc hf
  go_enter Try.func27, Try.ntmps27
  go_wp2
  go_end0
  exact ⟨rfl, by simp only [World.setCells]⟩
set_option maxHeartbeats 1000000 in
theorem putMuint8_calls (b off n c : Nat) (y : Int) (w : World) (hn : 2 ≤ n) (hy : 0 ≤ y ∧ y < 256) (hc : ∀ j, j < 2 → ∃ u, w.cell? ⟨b, off + j, none⟩ = some u) (hf : ∀ j, j < 2 → w.frozen? ⟨b, off + j, none⟩ = false) :
    Calls Try.prog 40 #[.slice (some ⟨b, off, none⟩) n c, .int .u8 y] w fun e w' => e = .returned (.tuple #[]) ∧ w' = w.setCells b off [.int .u8 (204), .int .u8 (y)] := by
  obtain ⟨u0, h0⟩ : ∃ u, w.cell? ⟨b, off, none⟩ = some u := hc 0 (by omega)
  have f0 : w.frozen? ⟨b, off, none⟩ = false := hf 0 (by omega)
  obtain ⟨u1, h1⟩ : ∃ u, w.cell? ⟨b, off + 1, none⟩ = some u := hc 1 (by omega)
  have f1 : w.frozen? ⟨b, off + 1, none⟩ = false := hf 1 (by omega)
  obtain ⟨hy0, hy1⟩ := hy
  clear hc hf
  go_enter Try.func40, Try.ntmps40
  go_wp2
  go_end0
  exact ⟨rfl, by simp only [World.setCells]⟩
set_option maxHeartbeats 1000000 in
theorem putMuint16_calls (b off n c : Nat) (y : Int) (w : World) (hn : 3 ≤ n) (hy : 0 ≤ y ∧ y < 65536) (hc : ∀ j, j < 3 → ∃ u, w.cell? ⟨b, off + j, none⟩ = some u) (hf : ∀ j, j < 3 → w.frozen? ⟨b, off + j, none⟩ = false) :
    Calls Try.prog 41 #[.slice (some ⟨b, off, none⟩) n c, .int .u16 y] w fun e w' => e = .returned (.tuple #[]) ∧ w' = w.setCells b off [.int .u8 (205), .int .u8 (y / 256), .int .u8 ((y) % 256)] := by
  obtain ⟨u0, h0⟩ : ∃ u, w.cell? ⟨b, off, none⟩ = some u := hc 0 (by omega)
  have f0 : w.frozen? ⟨b, off, none⟩ = false := hf 0 (by omega)
  obtain ⟨u1, h1⟩ : ∃ u, w.cell? ⟨b, off + 1, none⟩ = some u := hc 1 (by omega)
  have f1 : w.frozen? ⟨b, off + 1, none⟩ = false := hf 1 (by omega)
  obtain ⟨u2, h2⟩ : ∃ u, w.cell? ⟨b, off + 2, none⟩ = some u := hc 2 (by omega)
  have f2 : w.frozen? ⟨b, off + 2, none⟩ = false := hf 2 (by omega)
  obtain ⟨hy0, hy1⟩ := hy
  clear hc hf
  go_enter Try.func41, Try.ntmps41
  go_wp2
  go_end0
  exact ⟨rfl, by simp only [World.setCells]⟩
set_option maxHeartbeats 1000000 in
theorem putMuint32_calls (b off n c : Nat) (y : Int) (w : World) (hn : 5 ≤ n) (hy : 0 ≤ y ∧ y < 4294967296) (hc : ∀ j, j < 5 → ∃ u, w.cell? ⟨b, off + j, none⟩ = some u) (hf : ∀ j, j < 5 → w.frozen? ⟨b, off + j, none⟩ = false) :
    Calls Try.prog 42 #[.slice (some ⟨b, off, none⟩) n c, .int .u32 y] w fun e w' => e = .returned (.tuple #[]) ∧ w' = w.setCells b off [.int .u8 (206), .int .u8 (y / 16777216), .int .u8 ((y / 65536) % 256), .int .u8 ((y / 256) % 256), .int .u8 ((y) % 256)] := by
  obtain ⟨u0, h0⟩ : ∃ u, w.cell? ⟨b, off, none⟩ = some u := hc 0 (by omega)
  have f0 : w.frozen? ⟨b, off, none⟩ = false := hf 0 (by omega)
  obtain ⟨u1, h1⟩ : ∃ u, w.cell? ⟨b, off + 1, none⟩ = some u := hc 1 (by omega)
  have f1 : w.frozen? ⟨b, off + 1, none⟩ = false := hf 1 (by omega)
  obtain ⟨u2, h2⟩ : ∃ u, w.cell? ⟨b, off + 2, none⟩ = some u := hc 2 (by omega)
  have f2 : w.frozen? ⟨b, off + 2, none⟩ = false := hf 2 (by omega)
  obtain ⟨u3, h3⟩ : ∃ u, w.cell? ⟨b, off + 3, none⟩ = some u := hc 3 (by omega)
  have f3 : w.frozen? ⟨b, off + 3, none⟩ = false := hf 3 (by omega)
  obtain ⟨u4, h4⟩ : ∃ u, w.cell? ⟨b, off + 4, none⟩ = some u := hc 4 (by omega)
  have f4 : w.frozen? ⟨b, off + 4, none⟩ = false := hf 4 (by omega)
  obtain ⟨hy0, hy1⟩ := hy
  clear hc hf
  go_enter Try.func42, Try.ntmps42
  go_wp2
  go_end0
  exact ⟨rfl, by simp only [World.setCells]⟩
set_option maxHeartbeats 1000000 in
theorem putMuint64_calls (b off n c : Nat) (y : Int) (w : World) (hn : 9 ≤ n) (hy : 0 ≤ y ∧ y < 18446744073709551616) (hc : ∀ j, j < 9 → ∃ u, w.cell? ⟨b, off + j, none⟩ = some u) (hf : ∀ j, j < 9 → w.frozen? ⟨b, off + j, none⟩ = false) :
    Calls Try.prog 43 #[.slice (some ⟨b, off, none⟩) n c, .int .u64 y] w fun e w' => e = .returned (.tuple #[]) ∧ w' = w.setCells b off [.int .u8 (207), .int .u8 (y / 72057594037927936), .int .u8 ((y / 281474976710656) % 256), .int .u8 ((y / 1099511627776) % 256), .int .u8 ((y / 4294967296) % 256), .int .u8 ((y / 16777216) % 256), .int .u8 ((y / 65536) % 256), .int .u8 ((y / 256) % 256), .int .u8 ((y) % 256)] := by
  obtain ⟨u0, h0⟩ : ∃ u, w.cell? ⟨b, off, none⟩ = some u := hc 0 (by omega)
  have f0 : w.frozen? ⟨b, off, none⟩ = false := hf 0 (by omega)
  obtain ⟨u1, h1⟩ : ∃ u, w.cell? ⟨b, off + 1, none⟩ = some u := hc 1 (by omega)
  have f1 : w.frozen? ⟨b, off + 1, none⟩ = false := hf 1 (by omega)
  obtain ⟨u2, h2⟩ : ∃ u, w.cell? ⟨b, off + 2, none⟩ = some u := hc 2 (by omega)
  have f2 : w.frozen? ⟨b, off + 2, none⟩ = false := hf 2 (by omega)
  obtain ⟨u3, h3⟩ : ∃ u, w.cell? ⟨b, off + 3, none⟩ = some u := hc 3 (by omega)
  have f3 : w.frozen? ⟨b, off + 3, none⟩ = false := hf 3 (by omega)
  obtain ⟨u4, h4⟩ : ∃ u, w.cell? ⟨b, off + 4, none⟩ = some u := hc 4 (by omega)
  have f4 : w.frozen? ⟨b, off + 4, none⟩ = false := hf 4 (by omega)
  obtain ⟨u5, h5⟩ : ∃ u, w.cell? ⟨b, off + 5, none⟩ = some u := hc 5 (by omega)
  have f5 : w.frozen? ⟨b, off + 5, none⟩ = false := hf 5 (by omega)
  obtain ⟨u6, h6⟩ : ∃ u, w.cell? ⟨b, off + 6, none⟩ = some u := hc 6 (by omega)
  have f6 : w.frozen? ⟨b, off + 6, none⟩ = false := hf 6 (by omega)
  obtain ⟨u7, h7⟩ : ∃ u, w.cell? ⟨b, off + 7, none⟩ = some u := hc 7 (by omega)
  have f7 : w.frozen? ⟨b, off + 7, none⟩ = false := hf 7 (by omega)
  obtain ⟨u8, h8⟩ : ∃ u, w.cell? ⟨b, off + 8, none⟩ = some u := hc 8 (by omega)
  have f8 : w.frozen? ⟨b, off + 8, none⟩ = false := hf 8 (by omega)
  obtain ⟨hy0, hy1⟩ := hy
  clear hc hf
  go_enter Try.func43, Try.ntmps43
  go_wp2
  go_end0
  exact ⟨rfl, by simp only [World.setCells]⟩
set_option maxHeartbeats 1000000 in
theorem putMint8_calls (b off n c : Nat) (y : Int) (w : World) (hn : 2 ≤ n) (hy : -128 ≤ y ∧ y < 128) (hc : ∀ j, j < 2 → ∃ u, w.cell? ⟨b, off + j, none⟩ = some u) (hf : ∀ j, j < 2 → w.frozen? ⟨b, off + j, none⟩ = false) :
    Calls Try.prog 48 #[.slice (some ⟨b, off, none⟩) n c, .int .i8 y] w fun e w' => e = .returned (.tuple #[]) ∧ w' = w.setCells b off [.int .u8 (208), .int .u8 ((y) % 256)] := by
  obtain ⟨u0, h0⟩ : ∃ u, w.cell? ⟨b, off, none⟩ = some u := hc 0 (by omega)
  have f0 : w.frozen? ⟨b, off, none⟩ = false := hf 0 (by omega)
  obtain ⟨u1, h1⟩ : ∃ u, w.cell? ⟨b, off + 1, none⟩ = some u := hc 1 (by omega)
  have f1 : w.frozen? ⟨b, off + 1, none⟩ = false := hf 1 (by omega)
  obtain ⟨hy0, hy1⟩ := hy
  clear hc hf
  go_enter Try.func48, Try.ntmps48
  go_wp2
  go_end0
  exact ⟨rfl, by simp only [World.setCells]⟩
set_option maxHeartbeats 1000000 in
theorem putMint16_calls (b off n c : Nat) (y : Int) (w : World) (hn : 3 ≤ n) (hy : -32768 ≤ y ∧ y < 32768) (hc : ∀ j, j < 3 → ∃ u, w.cell? ⟨b, off + j, none⟩ = some u) (hf : ∀ j, j < 3 → w.frozen? ⟨b, off + j, none⟩ = false) :
    Calls Try.prog 44 #[.slice (some ⟨b, off, none⟩) n c, .int .i16 y] w fun e w' => e = .returned (.tuple #[]) ∧ w' = w.setCells b off [.int .u8 (209), .int .u8 ((y / 256) % 256), .int .u8 ((y) % 256)] := by
  obtain ⟨u0, h0⟩ : ∃ u, w.cell? ⟨b, off, none⟩ = some u := hc 0 (by omega)
  have f0 : w.frozen? ⟨b, off, none⟩ = false := hf 0 (by omega)
  obtain ⟨u1, h1⟩ : ∃ u, w.cell? ⟨b, off + 1, none⟩ = some u := hc 1 (by omega)
  have f1 : w.frozen? ⟨b, off + 1, none⟩ = false := hf 1 (by omega)
  obtain ⟨u2, h2⟩ : ∃ u, w.cell? ⟨b, off + 2, none⟩ = some u := hc 2 (by omega)
  have f2 : w.frozen? ⟨b, off + 2, none⟩ = false := hf 2 (by omega)
  obtain ⟨hy0, hy1⟩ := hy
  clear hc hf
  go_enter Try.func44, Try.ntmps44
  go_wp2
  go_end0
  exact ⟨rfl, by simp only [World.setCells]⟩
set_option maxHeartbeats 1000000 in
theorem putMint32_calls (b off n c : Nat) (y : Int) (w : World) (hn : 5 ≤ n) (hy : -2147483648 ≤ y ∧ y < 2147483648) (hc : ∀ j, j < 5 → ∃ u, w.cell? ⟨b, off + j, none⟩ = some u) (hf : ∀ j, j < 5 → w.frozen? ⟨b, off + j, none⟩ = false) :
    Calls Try.prog 45 #[.slice (some ⟨b, off, none⟩) n c, .int .i32 y] w fun e w' => e = .returned (.tuple #[]) ∧ w' = w.setCells b off [.int .u8 (210), .int .u8 ((y / 16777216) % 256), .int .u8 ((y / 65536) % 256), .int .u8 ((y / 256) % 256), .int .u8 ((y) % 256)] := by
  obtain ⟨u0, h0⟩ : ∃ u, w.cell? ⟨b, off, none⟩ = some u := hc 0 (by omega)
  have f0 : w.frozen? ⟨b, off, none⟩ = false := hf 0 (by omega)
  obtain ⟨u1, h1⟩ : ∃ u, w.cell? ⟨b, off + 1, none⟩ = some u := hc 1 (by omega)
  have f1 : w.frozen? ⟨b, off + 1, none⟩ = false := hf 1 (by omega)
  obtain ⟨u2, h2⟩ : ∃ u, w.cell? ⟨b, off + 2, none⟩ = some u := hc 2 (by omega)
  have f2 : w.frozen? ⟨b, off + 2, none⟩ = false := hf 2 (by omega)
  obtain ⟨u3, h3⟩ : ∃ u, w.cell? ⟨b, off + 3, none⟩ = some u := hc 3 (by omega)
  have f3 : w.frozen? ⟨b, off + 3, none⟩ = false := hf 3 (by omega)
  obtain ⟨u4, h4⟩ : ∃ u, w.cell? ⟨b, off + 4, none⟩ = some u := hc 4 (by omega)
  have f4 : w.frozen? ⟨b, off + 4, none⟩ = false := hf 4 (by omega)
  obtain ⟨hy0, hy1⟩ := hy
  clear hc hf
  go_enter Try.func45, Try.ntmps45
  go_wp2
  go_end0
  exact ⟨rfl, by simp only [World.setCells]⟩
set_option maxHeartbeats 1000000 in
theorem putMint64_calls (b off n c : Nat) (y : Int) (w : World) (hn : 9 ≤ n) (hy : -9223372036854775808 ≤ y ∧ y < 9223372036854775808) (hc : ∀ j, j < 9 → ∃ u, w.cell? ⟨b, off + j, none⟩ = some u) (hf : ∀ j, j < 9 → w.frozen? ⟨b, off + j, none⟩ = false) :
    Calls Try.prog 46 #[.slice (some ⟨b, off, none⟩) n c, .int .i64 y] w fun e w' => e = .returned (.tuple #[]) ∧ w' = w.setCells b off [.int .u8 (211), .int .u8 ((y / 72057594037927936) % 256), .int .u8 ((y / 281474976710656) % 256), .int .u8 ((y / 1099511627776) % 256), .int .u8 ((y / 4294967296) % 256), .int .u8 ((y / 16777216) % 256), .int .u8 ((y / 65536) % 256), .int .u8 ((y / 256) % 256), .int .u8 ((y) % 256)] := by
  obtain ⟨u0, h0⟩ : ∃ u, w.cell? ⟨b, off, none⟩ = some u := hc 0 (by omega)
  have f0 : w.frozen? ⟨b, off, none⟩ = false := hf 0 (by omega)
  obtain ⟨u1, h1⟩ : ∃ u, w.cell? ⟨b, off + 1, none⟩ = some u := hc 1 (by omega)
  have f1 : w.frozen? ⟨b, off + 1, none⟩ = false := hf 1 (by omega)
  obtain ⟨u2, h2⟩ : ∃ u, w.cell? ⟨b, off + 2, none⟩ = some u := hc 2 (by omega)
  have f2 : w.frozen? ⟨b, off + 2, none⟩ = false := hf 2 (by omega)
  obtain ⟨u3, h3⟩ : ∃ u, w.cell? ⟨b, off + 3, none⟩ = some u := hc 3 (by omega)
  have f3 : w.frozen? ⟨b, off + 3, none⟩ = false := hf 3 (by omega)
  obtain ⟨u4, h4⟩ : ∃ u, w.cell? ⟨b, off + 4, none⟩ = some u := hc 4 (by omega)
  have f4 : w.frozen? ⟨b, off + 4, none⟩ = false := hf 4 (by omega)
  obtain ⟨u5, h5⟩ : ∃ u, w.cell? ⟨b, off + 5, none⟩ = some u := hc 5 (by omega)
  have f5 : w.frozen? ⟨b, off + 5, none⟩ = false := hf 5 (by omega)
  obtain ⟨u6, h6⟩ : ∃ u, w.cell? ⟨b, off + 6, none⟩ = some u := hc 6 (by omega)
  have f6 : w.frozen? ⟨b, off + 6, none⟩ = false := hf 6 (by omega)
  obtain ⟨u7, h7⟩ : ∃ u, w.cell? ⟨b, off + 7, none⟩ = some u := hc 7 (by omega)
  have f7 : w.frozen? ⟨b, off + 7, none⟩ = false := hf 7 (by omega)
  obtain ⟨u8, h8⟩ : ∃ u, w.cell? ⟨b, off + 8, none⟩ = some u := hc 8 (by omega)
  have f8 : w.frozen? ⟨b, off + 8, none⟩ = false := hf 8 (by omega)
  obtain ⟨hy0, hy1⟩ := hy
  clear hc hf
  go_enter Try.func46, Try.ntmps46
  go_wp2
  go_end0
  exact ⟨rfl, by simp only [World.setCells]⟩

end Go.Proofs.Ytaialjpcibjmiaa
