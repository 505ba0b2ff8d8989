/- What the reference reads out of numbers written. No condition. -/
import Derived.Test.YtkbjnkhkjgomcaaDoorSame
import Derived.Test.YtkbjnkhkjgomcaaDoorCodec
namespace Go.Proofs.YtkbjnkhkjgomcaaDoor
set_option linter.unusedVariables false
set_option linter.unusedSimpArgs false
open Go.RowKit

/-- The reference reads these bytes, whatever stands behind them, as that value. -/
def Reads (enc : List Int) (k n : Int) (s : ByteArray) (x : Int) : Prop :=
  ∀ (rest : List Int) (lv : Int) (A : Option Addr) (c : Nat) (w : World), Byt rest → 0 < lv → Rd u8 w A (enc ++ rest) → (enc ++ rest).length ≤ c → (enc ++ rest).length ≤ 35184372088832 →
    Calls Tryd.prog 6 #[.slice A (enc ++ rest).length c, .int .i64 lv] w (TOk w A (enc ++ rest) enc.length c k n s x)
theorem Rd.some_ {w : World} {A : Option Addr} {b : Int} {r : List Int} (h : Rd u8 w A (b :: r)) : ∃ bk off, A = some ⟨bk, off, none⟩ := by
  obtain ⟨bk, off, e, _⟩ := h (by simp)
  exact ⟨bk, off, e⟩
theorem reads_fix {b : Int} (h0 : 0 ≤ b) (h1 : b < 128) : Reads [b] 3 b ⟨#[]⟩ 0 := fun rest lv A c w hb hlv hr hc hll => by
  obtain ⟨bk, off, rfl⟩ := hr.some_
  exact takePack_fix bk off c b rest lv w hr (hb.cons h0 (by omega)) hc hlv h1
theorem reads_neg {b : Int} (h0 : 224 ≤ b) (h1 : b < 256) : Reads [b] 2 (IntKind.u64.wrap (b - 256)) ⟨#[]⟩ 0 := fun rest lv A c w hb hlv hr hc hll => by
  obtain ⟨bk, off, rfl⟩ := hr.some_
  exact takePack_neg bk off c b rest lv w hr (hb.cons (by omega) h1) hc hlv h0
/-- Behind a code: bytes of a number. -/
theorem reads_coded {b : Int} {bs : List Int} {k : Nat} {kind n x : Int} {s : ByteArray} (h0 : 192 ≤ b) (h1 : b < 224) (hbs : Byt bs) (hk : k = bs.length)
    (hcod : ∀ (rest : List Int) (lv : Int) (A : Option Addr) (c : Nat) (w : World), Rd u8 w A (bs ++ rest) → Byt (bs ++ rest) → (bs ++ rest).length ≤ c → (bs ++ rest).length ≤ 35184372088832 → Calls Tryd.prog 13 #[.int .i64 b, .slice A (bs ++ rest).length c, .int .i64 lv] w (TOk w A (bs ++ rest) k c kind n s x)) :
    Reads (b :: bs) kind n s x := fun rest lv A c w hb hlv hr hc hll => by
  obtain ⟨bk, off, rfl⟩ := hr.some_
  have h := takePack_coded bk off c b (bs ++ rest) lv w hr ((hbs.append hb).cons (by omega) (by omega)) hc hlv h0 h1 (k := k) (kind := kind) (num := n) (ext := x) (text := s) (fun A' c' w' hr' hc' => hcod rest lv A' c' w' hr' (hbs.append hb) hc' (by simp at hll ⊢; omega))
  subst hk
  rw [Nat.add_comm 1 bs.length] at h
  exact h
theorem take_pre (a b : List Int) (n : Nat) (h : n = a.length) : (a ++ b).take n = a := by subst h; simp
theorem reads_204 {n : Int} (h0 : 0 ≤ n) (h1 : n < 256) : Reads (204 :: [n]) 3 n ⟨#[]⟩ 0 := by
  refine reads_coded (k := 1) (by omega) (by omega) (Byt.nil.cons h0 h1) rfl (fun rest lv A c w hr hb hc _ => ?_)
  have h := coded_204 A c ([n] ++ rest) lv w hr hb hc (by simp [be2, be4, be8])
  rwa [take_pre ([n]) rest 1 rfl, beN_1] at h
theorem reads_205 {n : Int} (h0 : 0 ≤ n) (h1 : n < 65536) : Reads (205 :: be2 n) 3 n ⟨#[]⟩ 0 := by
  refine reads_coded (k := 2) (by omega) (by omega) (byt_be2 h0 h1) rfl (fun rest lv A c w hr hb hc _ => ?_)
  have h := coded_205 A c (be2 n ++ rest) lv w hr hb hc (by simp [be2, be4, be8])
  rwa [take_pre (be2 n) rest 2 rfl, beN_be2] at h
theorem reads_206 {n : Int} (h0 : 0 ≤ n) (h1 : n < 4294967296) : Reads (206 :: be4 n) 3 n ⟨#[]⟩ 0 := by
  refine reads_coded (k := 4) (by omega) (by omega) (byt_be4 h0 h1) rfl (fun rest lv A c w hr hb hc _ => ?_)
  have h := coded_206 A c (be4 n ++ rest) lv w hr hb hc (by simp [be2, be4, be8])
  rwa [take_pre (be4 n) rest 4 rfl, beN_be4] at h
theorem reads_207 {n : Int} (h0 : 0 ≤ n) (h1 : n < 18446744073709551616) : Reads (207 :: be8 n) 3 n ⟨#[]⟩ 0 := by
  refine reads_coded (k := 8) (by omega) (by omega) (byt_be8 h0 h1) rfl (fun rest lv A c w hr hb hc _ => ?_)
  have h := coded_207 A c (be8 n ++ rest) lv w hr hb hc (by simp [be2, be4, be8])
  rwa [take_pre (be8 n) rest 8 rfl, beN_be8] at h
theorem reads_202 {n : Int} (h0 : 0 ≤ n) (h1 : n < 4294967296) : Reads (202 :: be4 n) 4 n ⟨#[]⟩ 0 := by
  refine reads_coded (k := 4) (by omega) (by omega) (byt_be4 h0 h1) rfl (fun rest lv A c w hr hb hc _ => ?_)
  have h := coded_202 A c (be4 n ++ rest) lv w hr hb hc (by simp [be2, be4, be8])
  rwa [take_pre (be4 n) rest 4 rfl, beN_be4] at h
theorem reads_203 {n : Int} (h0 : 0 ≤ n) (h1 : n < 18446744073709551616) : Reads (203 :: be8 n) 5 n ⟨#[]⟩ 0 := by
  refine reads_coded (k := 8) (by omega) (by omega) (byt_be8 h0 h1) rfl (fun rest lv A c w hr hb hc _ => ?_)
  have h := coded_203 A c (be8 n ++ rest) lv w hr hb hc (by simp [be2, be4, be8])
  rwa [take_pre (be8 n) rest 8 rfl, beN_be8] at h
theorem reads_209 {n : Int} (h0 : 0 ≤ n) (h1 : n < 32768) : Reads (209 :: be2 n) 3 n ⟨#[]⟩ 0 := by
  refine reads_coded (k := 2) (by omega) (by omega) (byt_be2 h0 (by omega)) rfl (fun rest lv A c w hr hb hc _ => ?_)
  have h := coded_209p A c (be2 n ++ rest) lv w hr hb hc (by simp [be2, be4, be8]) (by rw [take_pre (be2 n) rest 2 rfl, beN_be2]; exact h1)
  rwa [take_pre (be2 n) rest 2 rfl, beN_be2] at h
theorem reads_210 {n : Int} (h0 : 0 ≤ n) (h1 : n < 2147483648) : Reads (210 :: be4 n) 3 n ⟨#[]⟩ 0 := by
  refine reads_coded (k := 4) (by omega) (by omega) (byt_be4 h0 (by omega)) rfl (fun rest lv A c w hr hb hc _ => ?_)
  have h := coded_210p A c (be4 n ++ rest) lv w hr hb hc (by simp [be2, be4, be8]) (by rw [take_pre (be4 n) rest 4 rfl, beN_be4]; exact h1)
  rwa [take_pre (be4 n) rest 4 rfl, beN_be4] at h
theorem reads_211 {n : Int} (h0 : 0 ≤ n) (h1 : n < 9223372036854775808) : Reads (211 :: be8 n) 3 n ⟨#[]⟩ 0 := by
  refine reads_coded (k := 8) (by omega) (by omega) (byt_be8 h0 (by omega)) rfl (fun rest lv A c w hr hb hc _ => ?_)
  have h := coded_211p A c (be8 n ++ rest) lv w hr hb hc (by simp [be2, be4, be8]) (by rw [take_pre (be8 n) rest 8 rfl, beN_be8]; exact h1)
  rwa [take_pre (be8 n) rest 8 rfl, beN_be8] at h

theorem reads_208n {n : Int} (h0 : -128 ≤ n) (h1 : n < 0) : Reads (208 :: [n % 256]) 2 (IntKind.u64.wrap n) ⟨#[]⟩ 0 := by
  refine reads_coded (k := 1) (by omega) (by omega) (Byt.nil.cons (by omega) (by omega)) rfl (fun rest lv A c w hr hb hc _ => ?_)
  have h := coded_208 A c ([n % 256] ++ rest) lv w hr hb hc (by simp) (by rw [take_pre [n % 256] rest 1 rfl, beN_1]; omega) (by rw [take_pre [n % 256] rest 1 rfl, beN_1]; omega)
  rw [take_pre [n % 256] rest 1 rfl, beN_1] at h
  rwa [show n % 256 - 256 = n by omega] at h
end Go.Proofs.YtkbjnkhkjgomcaaDoor
