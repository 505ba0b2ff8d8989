/- The walks behind 'a float of 64 bits, appended to bytes, is a value of MessagePack'. No condition. -/
import Derived.Test.YtaialjpcibjmiaaAppended
import Derived.Test.YtaialjpcibjmiaaPutA
import Derived.Test.YtaialjpcibjmiaaExt
import Derived.StillTailTactics
namespace Go.Proofs.Ytaialjpcibjmiaa
set_option linter.unusedVariables false
set_option linter.unusedSimpArgs false
open Go.RowKit

set_option maxHeartbeats 1000000 in
theorem appF64 (A : Option Addr) (c : Nat) (l : List Int) (n : Nat) (w : World) (h : Ow 5 u8 w (.slice A l.length c) l) (hl : l.length ≤ 1099511627776) (hn : (n : Int) < 18446744073709551616) :
    Calls Try.prog 16 #[.slice A l.length c, .float .f64 n] w (AppTo w (.slice A l.length c) l [203, n / 72057594037927936, n / 281474976710656 % 256, n / 1099511627776 % 256, n / 4294967296 % 256, n / 16777216 % 256, n / 65536 % 256, n / 256 % 256, n % 256]) := by
  have hfb := float64bits_run n
  go_enter Try.func16, Try.ntmps16
  go_wp2_with (first | (go_at_call 26; refine (ensure_calls _ _ l _ w h (by omega) (by omega)).mono ?_; rintro e w1 ⟨g, cur, rfl, hrow, htk, hlen, hmx, hch, hor⟩; simp only [Int.reduceToNat] at hlen; have hne : ¬ cur.length = l.length := by omega))

  obtain ⟨A', hk2, hk3, hcut⟩ := Cut.ahead_l 22 5 Try.underlying22 size_u8 (some ⟨g, 0, none⟩) (l.length + 9) cur.length l.length l.length rfl .i64 (by omega)
  have hA' := hcut.at_ g 0 rfl (by omega)
  rw [Nat.zero_add] at hA'
  subst hA'
  clear hcut
  have e9 : l.length + 9 - l.length = 9 := by omega
  rw [e9] at hk2 hk3
  clear e9
  have hrow1 : Row w1.drew g 5 cur := hrow
  go_still_tail 5, (by kernel_rfl)
  change wpList _ _ _ _ _ w1.drew
  go_wp2_with (first | (go_at_call 27; refine (prefixu64_calls g l.length _ _ 203 _ w1.drew (by omega) ⟨by omega, hn⟩ (hrow1.isCell l.length 9 (by omega)) (fun j _ => hrow1.frozen _)).mono ?_; rintro e w2 ⟨rfl, rfl⟩))
  go_ret
  exact app_put [203, n / 72057594037927936, n / 281474976710656 % 256, n / 1099511627776 % 256, n / 4294967296 % 256, n / 16777216 % 256, n / 65536 % 256, n / 256 % 256, n % 256] rfl hrow1 htk hlen hmx hch.drew hor
end Go.Proofs.Ytaialjpcibjmiaa
