/- The walks of MessagePack's small writers: prefixes, room, bytes copied. No condition. -/
import Derived.Test.YtdpgbekcjegooaaLib
namespace Go.Proofs.Ytdpgbekcjegooaa
set_option linter.unusedVariables false
set_option linter.unusedSimpArgs false
open Go.RowKit

theorem info_u8 : (Try.prog.info? 5).map (fun i => (i.zero, i.size, i.bytes)) = some (some (.int .u8 0), 1, 1) := by kernel_rfl
theorem size_u8 : (Try.prog.info? 5).map (·.size) = some 1 := by kernel_rfl
abbrev u8 (x : Int) : Value := .int .u8 x


set_option maxHeartbeats 1000000 in
theorem prefixu8_calls (b off n c : Nat) (x y : Int) (w : World) (hn : 2 ≤ n) (hy : 0 ≤ y ∧ y < 256) (hc : ∀ j, j < 2 → ∃ u, w.cell? ⟨b, off + j, none⟩ = some u) (hf : ∀ j, j < 2 → w.frozen? ⟨b, off + j, none⟩ = false) :
    Calls Try.prog 58 #[.slice (some ⟨b, off, none⟩) n c, .int .u8 x, .int .u8 y] w fun e w' => e = .returned (.tuple #[]) ∧ w' = w.setCells b off [.int .u8 (x), .int .u8 (y)] := by
  obtain ⟨u0, h0⟩ : ∃ u, w.cell? ⟨b, off, none⟩ = some u := hc 0 (by omega)
  have f0 : w.frozen? ⟨b, off, none⟩ = false := hf 0 (by omega)
  obtain ⟨u1, h1⟩ : ∃ u, w.cell? ⟨b, off + 1, none⟩ = some u := hc 1 (by omega)
  have f1 : w.frozen? ⟨b, off + 1, none⟩ = false := hf 1 (by omega)
  obtain ⟨hy0, hy1⟩ := hy
  clear hc hf
  go_enter Try.func58, Try.ntmps58
  go_wp2
  go_end0
  exact ⟨rfl, by simp only [World.setCells]⟩
set_option maxHeartbeats 1000000 in
theorem prefixu16_calls (b off n c : Nat) (x y : Int) (w : World) (hn : 3 ≤ n) (hy : 0 ≤ y ∧ y < 65536) (hc : ∀ j, j < 3 → ∃ u, w.cell? ⟨b, off + j, none⟩ = some u) (hf : ∀ j, j < 3 → w.frozen? ⟨b, off + j, none⟩ = false) :
    Calls Try.prog 53 #[.slice (some ⟨b, off, none⟩) n c, .int .u8 x, .int .u16 y] w fun e w' => e = .returned (.tuple #[]) ∧ w' = w.setCells b off [.int .u8 (x), .int .u8 (y / 256), .int .u8 ((y) % 256)] := by
  obtain ⟨u0, h0⟩ : ∃ u, w.cell? ⟨b, off, none⟩ = some u := hc 0 (by omega)
  have f0 : w.frozen? ⟨b, off, none⟩ = false := hf 0 (by omega)
  obtain ⟨u1, h1⟩ : ∃ u, w.cell? ⟨b, off + 1, none⟩ = some u := hc 1 (by omega)
  have f1 : w.frozen? ⟨b, off + 1, none⟩ = false := hf 1 (by omega)
  obtain ⟨u2, h2⟩ : ∃ u, w.cell? ⟨b, off + 2, none⟩ = some u := hc 2 (by omega)
  have f2 : w.frozen? ⟨b, off + 2, none⟩ = false := hf 2 (by omega)
  obtain ⟨hy0, hy1⟩ := hy
  clear hc hf
  go_enter Try.func53, Try.ntmps53
  go_wp2
  go_end0
  exact ⟨rfl, by simp only [World.setCells]⟩
set_option maxHeartbeats 1000000 in
theorem prefixu32_calls (b off n c : Nat) (x y : Int) (w : World) (hn : 5 ≤ n) (hy : 0 ≤ y ∧ y < 4294967296) (hc : ∀ j, j < 5 → ∃ u, w.cell? ⟨b, off + j, none⟩ = some u) (hf : ∀ j, j < 5 → w.frozen? ⟨b, off + j, none⟩ = false) :
    Calls Try.prog 54 #[.slice (some ⟨b, off, none⟩) n c, .int .u8 x, .int .u32 y] w fun e w' => e = .returned (.tuple #[]) ∧ w' = w.setCells b off [.int .u8 (x), .int .u8 (y / 16777216), .int .u8 ((y / 65536) % 256), .int .u8 ((y / 256) % 256), .int .u8 ((y) % 256)] := by
  obtain ⟨u0, h0⟩ : ∃ u, w.cell? ⟨b, off, none⟩ = some u := hc 0 (by omega)
  have f0 : w.frozen? ⟨b, off, none⟩ = false := hf 0 (by omega)
  obtain ⟨u1, h1⟩ : ∃ u, w.cell? ⟨b, off + 1, none⟩ = some u := hc 1 (by omega)
  have f1 : w.frozen? ⟨b, off + 1, none⟩ = false := hf 1 (by omega)
  obtain ⟨u2, h2⟩ : ∃ u, w.cell? ⟨b, off + 2, none⟩ = some u := hc 2 (by omega)
  have f2 : w.frozen? ⟨b, off + 2, none⟩ = false := hf 2 (by omega)
  obtain ⟨u3, h3⟩ : ∃ u, w.cell? ⟨b, off + 3, none⟩ = some u := hc 3 (by omega)
  have f3 : w.frozen? ⟨b, off + 3, none⟩ = false := hf 3 (by omega)
  obtain ⟨u4, h4⟩ : ∃ u, w.cell? ⟨b, off + 4, none⟩ = some u := hc 4 (by omega)
  have f4 : w.frozen? ⟨b, off + 4, none⟩ = false := hf 4 (by omega)
  obtain ⟨hy0, hy1⟩ := hy
  clear hc hf
  go_enter Try.func54, Try.ntmps54
  go_wp2
  go_end0
  exact ⟨rfl, by simp only [World.setCells]⟩
set_option maxHeartbeats 1000000 in
theorem prefixu64_calls (b off n c : Nat) (x y : Int) (w : World) (hn : 9 ≤ n) (hy : 0 ≤ y ∧ y < 18446744073709551616) (hc : ∀ j, j < 9 → ∃ u, w.cell? ⟨b, off + j, none⟩ = some u) (hf : ∀ j, j < 9 → w.frozen? ⟨b, off + j, none⟩ = false) :
    Calls Try.prog 51 #[.slice (some ⟨b, off, none⟩) n c, .int .u8 x, .int .u64 y] w fun e w' => e = .returned (.tuple #[]) ∧ w' = w.setCells b off [.int .u8 (x), .int .u8 (y / 72057594037927936), .int .u8 ((y / 281474976710656) % 256), .int .u8 ((y / 1099511627776) % 256), .int .u8 ((y / 4294967296) % 256), .int .u8 ((y / 16777216) % 256), .int .u8 ((y / 65536) % 256), .int .u8 ((y / 256) % 256), .int .u8 ((y) % 256)] := by
  obtain ⟨u0, h0⟩ : ∃ u, w.cell? ⟨b, off, none⟩ = some u := hc 0 (by omega)
  have f0 : w.frozen? ⟨b, off, none⟩ = false := hf 0 (by omega)
  obtain ⟨u1, h1⟩ : ∃ u, w.cell? ⟨b, off + 1, none⟩ = some u := hc 1 (by omega)
  have f1 : w.frozen? ⟨b, off + 1, none⟩ = false := hf 1 (by omega)
  obtain ⟨u2, h2⟩ : ∃ u, w.cell? ⟨b, off + 2, none⟩ = some u := hc 2 (by omega)
  have f2 : w.frozen? ⟨b, off + 2, none⟩ = false := hf 2 (by omega)
  obtain ⟨u3, h3⟩ : ∃ u, w.cell? ⟨b, off + 3, none⟩ = some u := hc 3 (by omega)
  have f3 : w.frozen? ⟨b, off + 3, none⟩ = false := hf 3 (by omega)
  obtain ⟨u4, h4⟩ : ∃ u, w.cell? ⟨b, off + 4, none⟩ = some u := hc 4 (by omega)
  have f4 : w.frozen? ⟨b, off + 4, none⟩ = false := hf 4 (by omega)
  obtain ⟨u5, h5⟩ : ∃ u, w.cell? ⟨b, off + 5, none⟩ = some u := hc 5 (by omega)
  have f5 : w.frozen? ⟨b, off + 5, none⟩ = false := hf 5 (by omega)
  obtain ⟨u6, h6⟩ : ∃ u, w.cell? ⟨b, off + 6, none⟩ = some u := hc 6 (by omega)
  have f6 : w.frozen? ⟨b, off + 6, none⟩ = false := hf 6 (by omega)
  obtain ⟨u7, h7⟩ : ∃ u, w.cell? ⟨b, off + 7, none⟩ = some u := hc 7 (by omega)
  have f7 : w.frozen? ⟨b, off + 7, none⟩ = false := hf 7 (by omega)
  obtain ⟨u8, h8⟩ : ∃ u, w.cell? ⟨b, off + 8, none⟩ = some u := hc 8 (by omega)
  have f8 : w.frozen? ⟨b, off + 8, none⟩ = false := hf 8 (by omega)
  obtain ⟨hy0, hy1⟩ := hy
  clear hc hf
  go_enter Try.func51, Try.ntmps51
  go_wp2
  go_end0
  exact ⟨rfl, by simp only [World.setCells]⟩

end Go.Proofs.Ytdpgbekcjegooaa
