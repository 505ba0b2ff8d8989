/- Plain words on big-endian numbers. No condition. -/
import Derived.Test.YtooifcdkpddlmaaDoorLib
namespace Go.Proofs.YtooifcdkpddlmaaDoor
set_option linter.unusedVariables false
set_option linter.unusedSimpArgs false
open Go.RowKit
def Byt (l : List Int) : Prop := ∀ x ∈ l, 0 ≤ x ∧ x < 256
theorem Byt.at_ {l : List Int} (h : Byt l) (i : Nat) (hi : i < l.length) : 0 ≤ l[i] ∧ l[i] < 256 := h _ (List.getElem_mem hi)
theorem Byt.take {l : List Int} (h : Byt l) (n : Nat) : Byt (l.take n) := fun x hx => h x (List.mem_of_mem_take hx)
theorem Byt.drop {l : List Int} (h : Byt l) (n : Nat) : Byt (l.drop n) := fun x hx => h x (List.mem_of_mem_drop hx)
theorem Byt.append {l m : List Int} (h : Byt l) (k : Byt m) : Byt (l ++ m) := fun x hx => (List.mem_append.1 hx).elim (h x) (k x)
def beN (l : List Int) : Int := l.foldl (fun u b => u * 256 + b) 0
theorem beN_snoc (l : List Int) (b : Int) : beN (l ++ [b]) = beN l * 256 + b := by simp [beN]
theorem beN_take (l : List Int) (k : Nat) (hk : k < l.length) : beN (l.take (k + 1)) = beN (l.take k) * 256 + l[k] := by
  rw [List.take_succ_eq_append_getElem hk, beN_snoc]
theorem beN_range : ∀ (n : Nat) (l : List Int), l.length = n → Byt l → 0 ≤ beN l ∧ beN l < 256 ^ n
  | 0, l, hl, _ => by
    obtain rfl : l = [] := List.eq_nil_of_length_eq_zero hl
    simp [beN]
  | n + 1, l, hl, hb => by
    have e : l = l.take n ++ [l[n]] := by
      rw [← List.take_succ_eq_append_getElem (by omega), List.take_of_length_le (by omega)]
    obtain ⟨h1, h2⟩ := beN_range n (l.take n) (by rw [List.length_take]; omega) (hb.take n)
    have h3 := hb.at_ n (by omega)
    rw [e, beN_snoc, Int.pow_succ]
    omega
theorem beN_lt7 {l : List Int} (hl : l.length ≤ 7) (hb : Byt l) : 0 ≤ beN l ∧ beN l < 72057594037927936 := by
  obtain ⟨h0, h1⟩ := beN_range _ l rfl hb
  have hf : ∀ k : Fin 8, (256 : Int) ^ k.val ≤ 72057594037927936 := by decide
  exact ⟨h0, Int.lt_of_lt_of_le h1 (hf ⟨l.length, by omega⟩)⟩
theorem beN_lt8 {l : List Int} (hl : l.length ≤ 8) (hb : Byt l) : 0 ≤ beN l ∧ beN l < 18446744073709551616 := by
  obtain ⟨h0, h1⟩ := beN_range _ l rfl hb
  have hf : ∀ k : Fin 9, (256 : Int) ^ k.val ≤ 18446744073709551616 := by decide
  exact ⟨h0, Int.lt_of_lt_of_le h1 (hf ⟨l.length, by omega⟩)⟩
theorem or_u64 (u b : Int) (h0 : 0 ≤ u) (h1 : u < 72057594037927936) (hb0 : 0 ≤ b) (hb1 : b < 256) : bits .or .u64 (u * 256) b = u * 256 + b := by
  exact bits_join .u64 64 (by decide) (fun n h0 h1 => by simp [IntKind.wrap, IntKind.bits, IntKind.signed]; omega) 8 (u * 256) b (by omega) (by omega) (by omega) (by omega) (by omega) (by omega)
end Go.Proofs.YtooifcdkpddlmaaDoor
