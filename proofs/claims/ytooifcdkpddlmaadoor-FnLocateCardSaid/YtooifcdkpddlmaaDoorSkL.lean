/- The walks around MessagePack's search in a map. No condition. -/
import Derived.Test.YtooifcdkpddlmaaDoorSkN
namespace Go.Proofs.YtooifcdkpddlmaaDoor
set_option linter.unusedVariables false
set_option linter.unusedSimpArgs false
open Go.RowKit

def LcTo (s n : Nat) (w : World) (e : Ending) (w' : World) : Prop := e = .returned (.tuple #[.int .i64 s, .int .i64 n]) ∧ Ch No w w'
def BsTo' (x : List Int) (w : World) (e : Ending) (w' : World) : Prop := ∃ A' c', e = .returned (.slice A' x.length c') ∧ Rd u8 w' A' x ∧ x.length ≤ c' ∧ Ch No w w'
set_option maxRecDepth 100000 in
theorem locM_calls (A : Option Addr) (c : Nat) (L : List Int) (key : ByteArray) (s n : Nat) (w : World) (hr : Rd u8 w A L) (hc : L.length ≤ c) (hsn : s ≤ n) (hn : n ≤ L.length) (h : Calls Tryd.prog 36 #[.slice A L.length c, .string key] w (LcTo s n w)) :
    Calls Tryd.prog 20 #[.string key, .slice A L.length c] w (BsTo' ((L.take n).drop s) w) := by
  obtain ⟨A2, hj2, hj3, hcut⟩ := Cut.ahead_lh2 24 5 Tryd.underlying24 size_u8 A L.length c s n s n rfl rfl .i64 .i64 hsn (by omega)
  have hrd := hcut.rd u8 w L hr rfl hc hn
  have hlen : ((L.take n).drop s).length = n - s := by rw [List.length_drop, List.length_take]; omega
  have HL := hid hlen
  have HR := hid hrd
  have HC : Hid (n - s ≤ c - s) := hid (by omega)
  generalize (L.take n).drop s = X at HL HR ⊢
  generalize L.length = M at h hj2 hj3 ⊢
  clear hlen hrd hcut hr hc hn
  generalize n - s = q at hj2 hj3 HL HC
  generalize c - s = c2 at hj2 hj3 HC
  go_enter Tryd.func20, Tryd.ntmps20
  go_wp2_with fail
  refine h.mono ?_
  rintro e w1 ⟨rfl, hch1⟩
  go_wp2_with fail
  go_ret
  obtain rfl := HL.out
  exact ⟨A2, c2, rfl, HR.out.keep0 hch1, HC.out, hch1⟩
theorem locI_calls (A : Option Addr) (c : Nat) (L x : List Int) (key : ByteArray) (w : World) (hx : x.length ≤ 35184372088832) (h : Calls Tryd.prog 20 #[.string key, .slice A L.length c] w (BsTo' x w)) :
    Calls Tryd.prog 10 #[.string key, .slice A L.length c] w fun e w' => ∃ v, e = .returned v ∧ Ow 5 u8 w' v x ∧ Ch No w w' := by
  generalize L.length = M at h ⊢
  go_enter Tryd.func10, Tryd.ntmps10
  go_wp2_with fail
  refine h.mono ?_
  rintro e w1 ⟨A1, c1, rfl, hr1, hc1, hch1⟩
  go_wp2_with fail
  refine (copied_calls A1 c1 x w1 hr1 hx).mono ?_
  rintro e w2 ⟨v2, rfl, ho2, _, hch2⟩
  go_wp2_with fail
  go_ret
  exact ⟨v2, rfl, ho2, hch1.no_no hch2⟩
end Go.Proofs.YtooifcdkpddlmaaDoor
