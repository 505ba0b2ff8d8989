/- The walks of the Writer's public writers of numbers and heads. No condition. -/
import Derived.Test.YtdpgbekcjegooaaWrP
import Derived.Test.YtdpgbekcjegooaaWfix
namespace Go.Proofs.Ytdpgbekcjegooaa
set_option linter.unusedVariables false
set_option linter.unusedSimpArgs false
open Go.RowKit

/-- A Writer's writer returned no error, and the bytes stand behind what was written. -/
def WEnd (base p t N : Nat) (w : World) (out : List Int) (e : Ending) (w' : World) : Prop := e = .returned .nilIface ∧ WrTo base p t N out w' ∧ Ch (From base) w w'
set_option maxHeartbeats 400000 in
theorem wU64_1 (base p t N : Nat) (out : List Int) (n : Int) (w : World) (h : WrTo base p t N out w) (hl : out.length ≤ 1099511627776) (h0 : 0 ≤ n) (h1 : n ≤ 127) :
    Calls Try.prog 47 #[.pointer (some ⟨p, 0, none⟩), .int .u64 n] w (WEnd base p t N w (out ++ [n])) := by
  go_enter Try.func47, Try.ntmps47
  go_wp2_with (first | (go_at_call 55; refine (wfixint_calls _ _ (by omega) (by omega)).mono ?_; rintro e w' ⟨rfl, rfl⟩) | (go_at_call 42; refine (push_calls base p t N out _ w h hl).mono ?_; rintro e w1 ⟨rfl, hto, hch⟩))
  go_ret
  exact ⟨rfl, hto, hch⟩
set_option maxHeartbeats 400000 in
theorem wU64_2 (base p t N : Nat) (out : List Int) (n : Int) (w : World) (h : WrTo base p t N out w) (hl : out.length ≤ 1099511627776) (h0 : 127 < n) (h1 : n ≤ 255) :
    Calls Try.prog 47 #[.pointer (some ⟨p, 0, none⟩), .int .u64 n] w (WEnd base p t N w (out ++ (204 :: [n]))) := by
  go_enter Try.func47, Try.ntmps47
  go_wp2_with (first | (go_at_call 56; refine (prefix8_calls base p t N out 204 (n) w h hl (by omega)).mono ?_; rintro e w1 ⟨rfl, hto, hch⟩))
  go_ret
  exact ⟨rfl, hto, hch⟩
set_option maxHeartbeats 400000 in
theorem wU64_3 (base p t N : Nat) (out : List Int) (n : Int) (w : World) (h : WrTo base p t N out w) (hl : out.length ≤ 1099511627776) (h0 : 255 < n) (h1 : n ≤ 65535) :
    Calls Try.prog 47 #[.pointer (some ⟨p, 0, none⟩), .int .u64 n] w (WEnd base p t N w (out ++ (205 :: be2 n))) := by
  go_enter Try.func47, Try.ntmps47
  go_wp2_with (first | (go_at_call 44; refine (prefix16_calls base p t N out 205 (n) w h hl (by omega)).mono ?_; rintro e w1 ⟨rfl, hto, hch⟩))
  go_ret
  exact ⟨rfl, hto, hch⟩
set_option maxHeartbeats 400000 in
theorem wU64_5 (base p t N : Nat) (out : List Int) (n : Int) (w : World) (h : WrTo base p t N out w) (hl : out.length ≤ 1099511627776) (h0 : 65535 < n) (h1 : n ≤ 4294967295) :
    Calls Try.prog 47 #[.pointer (some ⟨p, 0, none⟩), .int .u64 n] w (WEnd base p t N w (out ++ (206 :: be4 n))) := by
  go_enter Try.func47, Try.ntmps47
  go_wp2_with (first | (go_at_call 45; refine (prefix32_calls base p t N out 206 (n) w h hl (by omega)).mono ?_; rintro e w1 ⟨rfl, hto, hch⟩))
  go_ret
  exact ⟨rfl, hto, hch⟩
set_option maxHeartbeats 400000 in
theorem wU64_9 (base p t N : Nat) (out : List Int) (n : Int) (w : World) (h : WrTo base p t N out w) (hl : out.length ≤ 1099511627776) (h0 : 4294967295 < n) (h1 : n < 18446744073709551616) :
    Calls Try.prog 47 #[.pointer (some ⟨p, 0, none⟩), .int .u64 n] w (WEnd base p t N w (out ++ (207 :: be8 n))) := by
  go_enter Try.func47, Try.ntmps47
  go_wp2_with (first | (go_at_call 37; refine (prefix64_calls base p t N out 207 (n) w h hl (by omega)).mono ?_; rintro e w1 ⟨rfl, hto, hch⟩))
  go_ret
  exact ⟨rfl, hto, hch⟩
set_option maxHeartbeats 400000 in
theorem wI64_1 (base p t N : Nat) (out : List Int) (n : Int) (w : World) (h : WrTo base p t N out w) (hl : out.length ≤ 1099511627776) (h0 : 0 ≤ n) (h1 : n ≤ 127) :
    Calls Try.prog 48 #[.pointer (some ⟨p, 0, none⟩), .int .i64 n] w (WEnd base p t N w (out ++ [n])) := by
  go_enter Try.func48, Try.ntmps48
  go_wp2_with (first | (go_at_call 55; refine (wfixint_calls _ _ (by omega) (by omega)).mono ?_; rintro e w' ⟨rfl, rfl⟩) | (go_at_call 42; refine (push_calls base p t N out _ w h hl).mono ?_; rintro e w1 ⟨rfl, hto, hch⟩))
  go_ret
  exact ⟨rfl, hto, hch⟩
set_option maxHeartbeats 400000 in
theorem wI64_3 (base p t N : Nat) (out : List Int) (n : Int) (w : World) (h : WrTo base p t N out w) (hl : out.length ≤ 1099511627776) (h0 : 127 < n) (h1 : n ≤ 32767) :
    Calls Try.prog 48 #[.pointer (some ⟨p, 0, none⟩), .int .i64 n] w (WEnd base p t N w (out ++ (209 :: be2 n))) := by
  go_enter Try.func48, Try.ntmps48
  go_wp2_with (first | (go_at_call 44; refine (prefix16_calls base p t N out 209 (n) w h hl (by omega)).mono ?_; rintro e w1 ⟨rfl, hto, hch⟩))
  go_ret
  exact ⟨rfl, hto, hch⟩
set_option maxHeartbeats 400000 in
theorem wI64_5 (base p t N : Nat) (out : List Int) (n : Int) (w : World) (h : WrTo base p t N out w) (hl : out.length ≤ 1099511627776) (h0 : 32767 < n) (h1 : n ≤ 2147483647) :
    Calls Try.prog 48 #[.pointer (some ⟨p, 0, none⟩), .int .i64 n] w (WEnd base p t N w (out ++ (210 :: be4 n))) := by
  go_enter Try.func48, Try.ntmps48
  go_wp2_with (first | (go_at_call 45; refine (prefix32_calls base p t N out 210 (n) w h hl (by omega)).mono ?_; rintro e w1 ⟨rfl, hto, hch⟩))
  go_ret
  exact ⟨rfl, hto, hch⟩
set_option maxHeartbeats 400000 in
theorem wI64_9 (base p t N : Nat) (out : List Int) (n : Int) (w : World) (h : WrTo base p t N out w) (hl : out.length ≤ 1099511627776) (h0 : 2147483647 < n) (h1 : n < 9223372036854775808) :
    Calls Try.prog 48 #[.pointer (some ⟨p, 0, none⟩), .int .i64 n] w (WEnd base p t N w (out ++ (211 :: be8 n))) := by
  go_enter Try.func48, Try.ntmps48
  go_wp2_with (first | (go_at_call 37; refine (prefix64_calls base p t N out 211 (n) w h hl (by omega)).mono ?_; rintro e w1 ⟨rfl, hto, hch⟩))
  go_ret
  exact ⟨rfl, hto, hch⟩
set_option maxHeartbeats 400000 in
theorem wI64_n1 (base p t N : Nat) (out : List Int) (n : Int) (w : World) (h : WrTo base p t N out w) (hl : out.length ≤ 1099511627776) (h0 : -32 ≤ n) (h1 : n ≤ -1) :
    Calls Try.prog 48 #[.pointer (some ⟨p, 0, none⟩), .int .i64 n] w (WEnd base p t N w (out ++ [n + 256])) := by
  go_enter Try.func48, Try.ntmps48
  go_wp2_with (first | (go_at_call 57; refine (wnfixint_calls _ _ (by omega) (by omega)).mono ?_; rintro e w' ⟨rfl, rfl⟩) | (go_at_call 42; refine (push_calls base p t N out _ w h hl).mono ?_; rintro e w1 ⟨rfl, hto, hch⟩))
  go_ret
  exact ⟨rfl, hto, hch⟩
set_option maxHeartbeats 400000 in
theorem wI64_n2 (base p t N : Nat) (out : List Int) (n : Int) (w : World) (h : WrTo base p t N out w) (hl : out.length ≤ 1099511627776) (h0 : -128 ≤ n) (h1 : n < -32) :
    Calls Try.prog 48 #[.pointer (some ⟨p, 0, none⟩), .int .i64 n] w (WEnd base p t N w (out ++ (208 :: [n % 256]))) := by
  go_enter Try.func48, Try.ntmps48
  go_wp2_with (first | (go_at_call 56; refine (prefix8_calls base p t N out 208 (n % 256) w h hl (by omega)).mono ?_; rintro e w1 ⟨rfl, hto, hch⟩))
  go_ret
  exact ⟨rfl, hto, hch⟩
set_option maxHeartbeats 400000 in
theorem wI64_n3 (base p t N : Nat) (out : List Int) (n : Int) (w : World) (h : WrTo base p t N out w) (hl : out.length ≤ 1099511627776) (h0 : -32768 ≤ n) (h1 : n < -128) :
    Calls Try.prog 48 #[.pointer (some ⟨p, 0, none⟩), .int .i64 n] w (WEnd base p t N w (out ++ (209 :: be2 (n % 65536)))) := by
  go_enter Try.func48, Try.ntmps48
  go_wp2_with (first | (go_at_call 44; refine (prefix16_calls base p t N out 209 (n % 65536) w h hl (by omega)).mono ?_; rintro e w1 ⟨rfl, hto, hch⟩))
  go_ret
  exact ⟨rfl, hto, hch⟩
set_option maxHeartbeats 400000 in
theorem wI64_n5 (base p t N : Nat) (out : List Int) (n : Int) (w : World) (h : WrTo base p t N out w) (hl : out.length ≤ 1099511627776) (h0 : -2147483648 ≤ n) (h1 : n < -32768) :
    Calls Try.prog 48 #[.pointer (some ⟨p, 0, none⟩), .int .i64 n] w (WEnd base p t N w (out ++ (210 :: be4 (n % 4294967296)))) := by
  go_enter Try.func48, Try.ntmps48
  go_wp2_with (first | (go_at_call 45; refine (prefix32_calls base p t N out 210 (n % 4294967296) w h hl (by omega)).mono ?_; rintro e w1 ⟨rfl, hto, hch⟩))
  go_ret
  exact ⟨rfl, hto, hch⟩
set_option maxHeartbeats 400000 in
theorem wI64_n9 (base p t N : Nat) (out : List Int) (n : Int) (w : World) (h : WrTo base p t N out w) (hl : out.length ≤ 1099511627776) (h0 : -9223372036854775808 ≤ n) (h1 : n < -2147483648) :
    Calls Try.prog 48 #[.pointer (some ⟨p, 0, none⟩), .int .i64 n] w (WEnd base p t N w (out ++ (211 :: be8 (n % 18446744073709551616)))) := by
  go_enter Try.func48, Try.ntmps48
  go_wp2_with (first | (go_at_call 37; refine (prefix64_calls base p t N out 211 (n % 18446744073709551616) w h hl (by omega)).mono ?_; rintro e w1 ⟨rfl, hto, hch⟩))
  go_ret
  exact ⟨rfl, hto, hch⟩
set_option maxHeartbeats 400000 in
theorem wArr_1 (base p t N : Nat) (out : List Int) (n : Int) (w : World) (h : WrTo base p t N out w) (hl : out.length ≤ 1099511627776) (h0 : 0 ≤ n) (h1 : n ≤ 15) :
    Calls Try.prog 24 #[.pointer (some ⟨p, 0, none⟩), .int .u32 n] w (WEnd base p t N w (out ++ [n + 144])) := by
  go_enter Try.func24, Try.ntmps24
  go_wp2_with (first | (go_at_call 43; refine (wfixarray_calls _ _ (by omega) (by omega)).mono ?_; rintro e w' ⟨rfl, rfl⟩) | (go_at_call 42; refine (push_calls base p t N out _ w h hl).mono ?_; rintro e w1 ⟨rfl, hto, hch⟩))
  go_ret
  exact ⟨rfl, hto, hch⟩
set_option maxHeartbeats 400000 in
theorem wArr_3 (base p t N : Nat) (out : List Int) (n : Int) (w : World) (h : WrTo base p t N out w) (hl : out.length ≤ 1099511627776) (h0 : 15 < n) (h1 : n ≤ 65535) :
    Calls Try.prog 24 #[.pointer (some ⟨p, 0, none⟩), .int .u32 n] w (WEnd base p t N w (out ++ (220 :: be2 n))) := by
  go_enter Try.func24, Try.ntmps24
  go_wp2_with (first | (go_at_call 44; refine (prefix16_calls base p t N out 220 (n) w h hl (by omega)).mono ?_; rintro e w1 ⟨rfl, hto, hch⟩))
  go_ret
  exact ⟨rfl, hto, hch⟩
set_option maxHeartbeats 400000 in
theorem wArr_5 (base p t N : Nat) (out : List Int) (n : Int) (w : World) (h : WrTo base p t N out w) (hl : out.length ≤ 1099511627776) (h0 : 65535 < n) (h1 : n < 4294967296) :
    Calls Try.prog 24 #[.pointer (some ⟨p, 0, none⟩), .int .u32 n] w (WEnd base p t N w (out ++ (221 :: be4 n))) := by
  go_enter Try.func24, Try.ntmps24
  go_wp2_with (first | (go_at_call 45; refine (prefix32_calls base p t N out 221 (n) w h hl (by omega)).mono ?_; rintro e w1 ⟨rfl, hto, hch⟩))
  go_ret
  exact ⟨rfl, hto, hch⟩

def encU (n : Int) : List Int := if n ≤ 127 then [n] else if n ≤ 255 then 204 :: [n] else if n ≤ 65535 then 205 :: be2 n else if n ≤ 4294967295 then 206 :: be4 n else 207 :: be8 n
def encI (n : Int) : List Int := if 0 ≤ n then (if n ≤ 127 then [n] else if n ≤ 32767 then 209 :: be2 n else if n ≤ 2147483647 then 210 :: be4 n else 211 :: be8 n) else if -32 ≤ n then [n + 256] else if -128 ≤ n then 208 :: [n % 256] else if -32768 ≤ n then 209 :: be2 (n % 65536) else if -2147483648 ≤ n then 210 :: be4 (n % 4294967296) else 211 :: be8 (n % 18446744073709551616)
def encArr (n : Int) : List Int := if n ≤ 15 then [n + 144] else if n ≤ 65535 then 220 :: be2 n else 221 :: be4 n
theorem wU64 (base p t N : Nat) (out : List Int) (n : Int) (w : World) (h : WrTo base p t N out w) (hl : out.length ≤ 1099511627776) (h0 : 0 ≤ n) (h1 : n < 18446744073709551616) :
    Calls Try.prog 47 #[.pointer (some ⟨p, 0, none⟩), .int .u64 n] w (WEnd base p t N w (out ++ encU n)) := by
  unfold encU
  split
  · exact wU64_1 base p t N out n w h hl h0 (by omega)
  · split
    · exact wU64_2 base p t N out n w h hl (by omega) (by omega)
    · split
      · exact wU64_3 base p t N out n w h hl (by omega) (by omega)
      · split
        · exact wU64_5 base p t N out n w h hl (by omega) (by omega)
        · exact wU64_9 base p t N out n w h hl (by omega) (by omega)
theorem wI64 (base p t N : Nat) (out : List Int) (n : Int) (w : World) (h : WrTo base p t N out w) (hl : out.length ≤ 1099511627776) (h0 : -9223372036854775808 ≤ n) (h1 : n < 9223372036854775808) :
    Calls Try.prog 48 #[.pointer (some ⟨p, 0, none⟩), .int .i64 n] w (WEnd base p t N w (out ++ encI n)) := by
  unfold encI
  split
  · split
    · exact wI64_1 base p t N out n w h hl (by omega) (by omega)
    · split
      · exact wI64_3 base p t N out n w h hl (by omega) (by omega)
      · split
        · exact wI64_5 base p t N out n w h hl (by omega) (by omega)
        · exact wI64_9 base p t N out n w h hl (by omega) (by omega)
  · split
    · exact wI64_n1 base p t N out n w h hl (by omega) (by omega)
    · split
      · exact wI64_n2 base p t N out n w h hl (by omega) (by omega)
      · split
        · exact wI64_n3 base p t N out n w h hl (by omega) (by omega)
        · split
          · exact wI64_n5 base p t N out n w h hl (by omega) (by omega)
          · exact wI64_n9 base p t N out n w h hl (by omega) (by omega)
theorem wArr (base p t N : Nat) (out : List Int) (n : Int) (w : World) (h : WrTo base p t N out w) (hl : out.length ≤ 1099511627776) (h0 : 0 ≤ n) (h1 : n < 4294967296) :
    Calls Try.prog 24 #[.pointer (some ⟨p, 0, none⟩), .int .u32 n] w (WEnd base p t N w (out ++ encArr n)) := by
  unfold encArr
  split
  · exact wArr_1 base p t N out n w h hl h0 (by omega)
  · split
    · exact wArr_3 base p t N out n w h hl (by omega) (by omega)
    · exact wArr_5 base p t N out n w h hl (by omega) (by omega)
set_option maxHeartbeats 400000 in
theorem wWriteUint8 (base p t N : Nat) (out : List Int) (n : Int) (w : World) (h : WrTo base p t N out w) (hl : out.length ≤ 1099511627776) (h0 : 0 ≤ n) (h1 : n < 256) :
    Calls Try.prog 28 #[.pointer (some ⟨p, 0, none⟩), .int .u8 n] w (WEnd base p t N w (out ++ (encU n))) := by
  go_enter Try.func28, Try.ntmps28
  go_wp2_with (first | (go_at_call 47; refine (wU64 base p t N out n w h hl (by omega) (by omega)).mono ?_; rintro e w1 ⟨rfl, hto, hch⟩))
  go_ret
  exact ⟨rfl, hto, hch⟩
set_option maxHeartbeats 400000 in
theorem wWriteInt8 (base p t N : Nat) (out : List Int) (n : Int) (w : World) (h : WrTo base p t N out w) (hl : out.length ≤ 1099511627776) (h0 : -128 ≤ n) (h1 : n < 128) :
    Calls Try.prog 31 #[.pointer (some ⟨p, 0, none⟩), .int .i8 n] w (WEnd base p t N w (out ++ (encI n))) := by
  go_enter Try.func31, Try.ntmps31
  go_wp2_with (first | (go_at_call 48; refine (wI64 base p t N out n w h hl (by omega) (by omega)).mono ?_; rintro e w1 ⟨rfl, hto, hch⟩))
  go_ret
  exact ⟨rfl, hto, hch⟩
set_option maxHeartbeats 400000 in
theorem wWriteDuration (base p t N : Nat) (out : List Int) (n : Int) (w : World) (h : WrTo base p t N out w) (hl : out.length ≤ 1099511627776) (h0 : -9223372036854775808 ≤ n) (h1 : n < 9223372036854775808) :
    Calls Try.prog 34 #[.pointer (some ⟨p, 0, none⟩), .int .i64 n] w (WEnd base p t N w (out ++ (encI n))) := by
  go_enter Try.func34, Try.ntmps34
  go_wp2_with (first | (go_at_call 48; refine (wI64 base p t N out n w h hl h0 h1).mono ?_; rintro e w1 ⟨rfl, hto, hch⟩))
  go_ret
  exact ⟨rfl, hto, hch⟩
set_option maxHeartbeats 400000 in
theorem wF64 (base p t N : Nat) (out : List Int) (n : Nat) (w : World) (h : WrTo base p t N out w) (hl : out.length ≤ 1099511627776) (h1 : n < 18446744073709551616) :
    Calls Try.prog 18 #[.pointer (some ⟨p, 0, none⟩), .float .f64 n] w (WEnd base p t N w (out ++ (203 :: be8 n))) := by
  have hfb := float64bits_run n
  go_enter Try.func18, Try.ntmps18
  go_wp2_with (first | (go_at_call 37; refine (prefix64_calls base p t N out 203 (n : Int) w h hl (by omega)).mono ?_; rintro e w1 ⟨rfl, hto, hch⟩))
  go_ret
  exact ⟨rfl, hto, hch⟩

end Go.Proofs.Ytdpgbekcjegooaa
