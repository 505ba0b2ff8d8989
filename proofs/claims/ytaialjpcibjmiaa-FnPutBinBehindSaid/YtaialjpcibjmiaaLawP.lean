/- The walks of the laws 'a number, appended to bytes, is a value of MessagePack behind them'. No condition. -/
import Derived.Test.YtaialjpcibjmiaaReads
import Derived.Test.YtaialjpcibjmiaaLawF64
namespace Go.Proofs.Ytaialjpcibjmiaa
set_option linter.unusedVariables false
set_option linter.unusedSimpArgs false
open Go.RowKit

/-- A copy of what was there, and more behind it: a row of the call's own. -/
def PutTo (w : World) (l enc : List Int) (e : Ending) (w' : World) : Prop := ∃ v, e = .returned v ∧ Ow 5 u8 w' v (l ++ enc) ∧ Fr w v ∧ Ch No w w'
theorem put_of {w w1 w2 : World} {v : Value} {l enc : List Int} {e : Ending} (hf : Fr w v) (hc : Ch No w w1) (h : AppTo w1 v l enc e w2) : PutTo w l enc e w2 := by
  obtain ⟨v', he, ho, hch, hk⟩ := h
  exact ⟨v', he, ho, hf.step hc.size hk, hc.fresh hch hf⟩

set_option maxHeartbeats 1000000 in
theorem putF64 (A : Option Addr) (c : Nat) (l : List Int) (n : Int) (w : World) (hr : Rd u8 w A l) (hl : l.length ≤ 1099511627776) (h0 : 0 ≤ n) (h1 : n < 18446744073709551616) :
    Calls Try.prog 8 #[.slice A l.length c, .int .u64 n] w (PutTo w l (203 :: be8 n)) := by
  obtain ⟨N, rfl⟩ := Int.eq_ofNat_of_zero_le h0
  have hfb := float64frombits_run N
  simp only [Int.toNat_natCast] at hfb
  go_enter Try.func8, Try.ntmps8
  go_wp2_with (first | (go_at_call 17; refine (copied_calls _ _ l _ hr (by omega)).mono ?_; rintro e w1 ⟨v, rfl, ho, hf, hch⟩; obtain ⟨A1, c1, rfl, _, _⟩ := ho.slice) | (go_at_call 16; refine (appF64 A1 c1 l N w1 ho hl (by omega)).mono ?_; rintro e w2 happ; obtain ⟨v2, rfl, hrest⟩ := happ; have happ : AppTo w1 _ l (203 :: be8 N) (.returned v2) w2 := ⟨v2, rfl, hrest⟩))
  go_ret
  exact put_of hf hch happ

def encU (n : Int) : List Int := if n ≤ 127 then [n] else if n ≤ 255 then 204 :: [n] else if n ≤ 65535 then 205 :: be2 n else if n ≤ 4294967295 then 206 :: be4 n else 207 :: be8 n
theorem reads_encU {n : Int} (h0 : 0 ≤ n) (h1 : n < 18446744073709551616) : Reads (encU n) 3 n ⟨#[]⟩ 0 := by
  unfold encU
  split
  · exact reads_fix h0 (by omega)
  · split
    · exact reads_204 h0 (by omega)
    · split
      · exact reads_205 h0 (by omega)
      · split
        · exact reads_206 h0 (by omega)
        · exact reads_207 h0 h1
theorem encU_len (n : Int) : (encU n).length ≤ 9 := by
  unfold encU
  split
  · simp
  · split
    · simp
    · split
      · simp [be2]
      · split
        · simp [be4]
        · simp [be8]
theorem appU64 (A : Option Addr) (c : Nat) (l : List Int) (n : Int) (w : World) (h : Ow 5 u8 w (.slice A l.length c) l) (hl : l.length ≤ 1099511627776) (h0 : 0 ≤ n) (h1 : n < 18446744073709551616) :
    Calls Try.prog 36 #[.slice A l.length c, .int .u64 n] w (AppTo w (.slice A l.length c) l (encU n)) := by
  unfold encU
  split
  · exact appU64_1 A c l n w h hl h0 (by omega)
  · split
    · exact appU64_2 A c l n w h hl (by omega) (by omega)
    · split
      · exact appU64_3 A c l n w h hl (by omega) (by omega)
      · split
        · exact appU64_5 A c l n w h hl (by omega) (by omega)
        · exact appU64_9 A c l n w h hl (by omega) h1
/-- Of integers of 8 bits with a sign. -/
def encI8 (n : Int) : List Int := if 0 ≤ n then [n] else if -32 ≤ n then [n + 256] else 208 :: [n % 256]
theorem reads_encI8p {n : Int} (h0 : 0 ≤ n) (h1 : n < 128) : Reads (encI8 n) 3 n ⟨#[]⟩ 0 := by
  unfold encI8
  rw [if_pos h0]
  exact reads_fix h0 (by omega)
theorem reads_encI8n {n : Int} (h0 : -128 ≤ n) (h1 : n < 0) : Reads (encI8 n) 2 (IntKind.u64.wrap n) ⟨#[]⟩ 0 := by
  unfold encI8
  rw [if_neg (by omega)]
  split
  · have := reads_neg (b := n + 256) (by omega) (by omega)
    rwa [show n + 256 - 256 = n by omega] at this
  · exact reads_208n h0 h1
theorem encI8_len (n : Int) : (encI8 n).length ≤ 2 := by
  unfold encI8
  split
  · simp
  · split <;> simp
theorem appI8of64 (A : Option Addr) (c : Nat) (l : List Int) (n : Int) (w : World) (h : Ow 5 u8 w (.slice A l.length c) l) (hl : l.length ≤ 1099511627776) (h0 : -128 ≤ n) (h1 : n < 128) :
    Calls Try.prog 37 #[.slice A l.length c, .int .i64 n] w (AppTo w (.slice A l.length c) l (encI8 n)) := by
  unfold encI8
  split
  · exact appI64_1 A c l n w h hl (by omega) (by omega)
  · split
    · exact appI64_n1 A c l n w h hl (by omega) (by omega)
    · exact appI64_n2 A c l n w h hl h0 (by omega)
set_option maxHeartbeats 1000000 in
theorem appU8 (A : Option Addr) (c : Nat) (l : List Int) (n : Int) (w : World) (h : Ow 5 u8 w (.slice A l.length c) l) (hl : l.length ≤ 1099511627776) (h0 : 0 ≤ n) (h1 : n < 256) :
    Calls Try.prog 24 #[.slice A l.length c, .int .u8 n] w (AppTo w (.slice A l.length c) l (encU n)) := by
  go_enter Try.func24, Try.ntmps24
  go_wp2_with (first | (go_at_call 36; refine (appU64 A c l n w h hl (by omega) (by omega)).mono ?_; rintro e w2 happ; obtain ⟨v2, rfl, hrest⟩ := happ))
  go_ret
  exact ⟨v2, rfl, hrest⟩
set_option maxHeartbeats 1000000 in
theorem appI8 (A : Option Addr) (c : Nat) (l : List Int) (n : Int) (w : World) (h : Ow 5 u8 w (.slice A l.length c) l) (hl : l.length ≤ 1099511627776) (h0 : -128 ≤ n) (h1 : n < 128) :
    Calls Try.prog 25 #[.slice A l.length c, .int .i8 n] w (AppTo w (.slice A l.length c) l (encI8 n)) := by
  go_enter Try.func25, Try.ntmps25
  go_wp2_with (first | (go_at_call 37; refine (appI8of64 A c l n w h hl (by omega) (by omega)).mono ?_; rintro e w2 happ; obtain ⟨v2, rfl, hrest⟩ := happ))
  go_ret
  exact ⟨v2, rfl, hrest⟩
set_option maxHeartbeats 1000000 in
theorem putU8 (A : Option Addr) (c : Nat) (l : List Int) (n : Int) (w : World) (hr : Rd u8 w A l) (hl : l.length ≤ 1099511627776) (h0 : 0 ≤ n) (h1 : n < 256) :
    Calls Try.prog 14 #[.slice A l.length c, .int .u8 n] w (PutTo w l (encU n)) := by
  go_enter Try.func14, Try.ntmps14
  go_wp2_with (first | (go_at_call 17; refine (copied_calls _ _ l _ hr (by omega)).mono ?_; rintro e w1 ⟨v, rfl, ho, hf, hch⟩; obtain ⟨A1, c1, rfl, _, _⟩ := ho.slice) | (go_at_call 24; refine (appU8 A1 c1 l n w1 ho hl h0 h1).mono ?_; rintro e w2 happ; obtain ⟨v2, rfl, hrest⟩ := happ; have happ : AppTo w1 _ l (encU n) (.returned v2) w2 := ⟨v2, rfl, hrest⟩))
  go_ret
  exact put_of hf hch happ
set_option maxHeartbeats 1000000 in
theorem putI8 (A : Option Addr) (c : Nat) (l : List Int) (n : Int) (w : World) (hr : Rd u8 w A l) (hl : l.length ≤ 1099511627776) (h0 : -128 ≤ n) (h1 : n < 128) :
    Calls Try.prog 15 #[.slice A l.length c, .int .i8 n] w (PutTo w l (encI8 n)) := by
  go_enter Try.func15, Try.ntmps15
  go_wp2_with (first | (go_at_call 17; refine (copied_calls _ _ l _ hr (by omega)).mono ?_; rintro e w1 ⟨v, rfl, ho, hf, hch⟩; obtain ⟨A1, c1, rfl, _, _⟩ := ho.slice) | (go_at_call 25; refine (appI8 A1 c1 l n w1 ho hl h0 h1).mono ?_; rintro e w2 happ; obtain ⟨v2, rfl, hrest⟩ := happ; have happ : AppTo w1 _ l (encI8 n) (.returned v2) w2 := ⟨v2, rfl, hrest⟩))
  go_ret
  exact put_of hf hch happ

end Go.Proofs.Ytaialjpcibjmiaa
