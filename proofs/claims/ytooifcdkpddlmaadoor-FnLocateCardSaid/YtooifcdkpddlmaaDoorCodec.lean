/- Plain words: numbers as bytes, the highest first, and back. No condition. -/
import Derived.Test.YtooifcdkpddlmaaDoorNum
namespace Go.Proofs.YtooifcdkpddlmaaDoor
set_option linter.unusedVariables false
set_option linter.unusedSimpArgs false
open Go.RowKit
def be2 (n : Int) : List Int := [n / 256, n % 256]
def be4 (n : Int) : List Int := [n / 16777216, n / 65536 % 256, n / 256 % 256, n % 256]
def be8 (n : Int) : List Int := [n / 72057594037927936, n / 281474976710656 % 256, n / 1099511627776 % 256, n / 4294967296 % 256, n / 16777216 % 256, n / 65536 % 256, n / 256 % 256, n % 256]
theorem byt_be2 {n : Int} (h0 : 0 ≤ n) (h1 : n < 65536) : Byt (be2 n) := fun x hx => by
  simp only [be2, List.mem_cons, List.not_mem_nil, or_false] at hx
  omega
theorem byt_be4 {n : Int} (h0 : 0 ≤ n) (h1 : n < 4294967296) : Byt (be4 n) := fun x hx => by
  simp only [be4, List.mem_cons, List.not_mem_nil, or_false] at hx
  omega
theorem byt_be8 {n : Int} (h0 : 0 ≤ n) (h1 : n < 18446744073709551616) : Byt (be8 n) := fun x hx => by
  simp only [be8, List.mem_cons, List.not_mem_nil, or_false] at hx
  omega
theorem beN_be2 (n : Int) : beN (be2 n) = n := by simp only [beN, be2, List.foldl]; omega
theorem beN_be4 (n : Int) : beN (be4 n) = n := by simp only [beN, be4, List.foldl]; omega
theorem beN_be8 (n : Int) : beN (be8 n) = n := by simp only [beN, be8, List.foldl]; omega
theorem beN_1 (n : Int) : beN [n] = n := by simp [beN]
theorem Byt.cons {b : Int} {l : List Int} (h0 : 0 ≤ b) (h1 : b < 256) (h : Byt l) : Byt (b :: l) := fun x hx => by
  rcases List.mem_cons.1 hx with rfl | hx
  · exact ⟨h0, h1⟩
  · exact h x hx
theorem Byt.nil : Byt [] := fun _ hx => by cases hx
end Go.Proofs.YtooifcdkpddlmaaDoor
