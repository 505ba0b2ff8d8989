/- The walk of the reference's look at what a value bears, whole; what fits. No condition. -/
import Derived.Test.YtbdgkikipekmlaaDoorValH
import Derived.Test.YtbdgkikipekmlaaDoorValI
namespace Go.Proofs.YtbdgkikipekmlaaDoor
set_option linter.unusedVariables false
set_option linter.unusedSimpArgs false
open Go.RowKit
theorem cont_calls (w0 : World) (k n o : Int) (s : ByteArray) (m d : Nat) (K : Fin m → Va) (D : Fin d → Va) (A B : Option Addr) (cap capB : Nat) (w : World) (hk0 : 0 ≤ k) (hk1 : k < 24) (ht : VaP w0 (.mk k n s m K o d D) [.int .i64 k, .int .u64 n, .string s, .slice A m cap, .int .i64 o, .slice B d capB]) (hw : Ch (Fro w0.heap.size) w0 w) (hmb : m ≤ 9223372036854775807) (hsb : s.size ≤ 9223372036854775807) (hT : Tabs w) (h0 : 0 ≤ n) (h1 : n < 18446744073709551616) :
    Calls Tryd.prog 92 #[.agg #[.int .i64 k, .int .u64 n, .string s, .slice A m cap, .int .i64 o, .slice B d capB]] w (CfTo k n s o K w) := by
  obtain rfl | rfl | rfl | rfl | rfl | rfl | rfl | rfl | rfl | rfl | rfl | rfl | rfl | rfl | rfl | rfl | rfl | rfl | rfl | rfl | rfl | rfl | rfl | rfl : k = 0 ∨ k = 1 ∨ k = 2 ∨ k = 3 ∨ k = 4 ∨ k = 5 ∨ k = 6 ∨ k = 7 ∨ k = 8 ∨ k = 9 ∨ k = 10 ∨ k = 11 ∨ k = 12 ∨ k = 13 ∨ k = 14 ∨ k = 15 ∨ k = 16 ∨ k = 17 ∨ k = 18 ∨ k = 19 ∨ k = 20 ∨ k = 21 ∨ k = 22 ∨ k = 23 := by omega
  · exact cont_0 w0 n o s m d K D A B cap capB w ht hw hmb hsb hT h0 h1
  · exact cont_1 w0 n o s m d K D A B cap capB w ht hw hmb hsb hT h0 h1
  · exact cont_2 w0 n o s m d K D A B cap capB w ht hw hmb hsb hT h0 h1
  · exact cont_3 w0 n o s m d K D A B cap capB w ht hw hmb hsb hT h0 h1
  · exact cont_4 w0 n o s m d K D A B cap capB w ht hw hmb hsb hT h0 h1
  · exact cont_5 w0 n o s m d K D A B cap capB w ht hw hmb hsb hT h0 h1
  · exact cont_6 w0 n o s m d K D A B cap capB w ht hw hmb hsb hT h0 h1
  · exact cont_7 w0 n o s m d K D A B cap capB w ht hw hmb hsb hT h0 h1
  · exact cont_8 w0 n o s m d K D A B cap capB w ht hw hmb hsb hT h0 h1
  · exact cont_9 w0 n o s m d K D A B cap capB w ht hw hmb hsb hT h0 h1
  · exact cont_10 w0 n o s m d K D A B cap capB w ht hw hmb hsb hT h0 h1
  · exact cont_11 w0 n o s m d K D A B cap capB w ht hw hmb hsb hT h0 h1
  · exact cont_12 w0 n o s m d K D A B cap capB w ht hw hmb hsb hT h0 h1
  · exact cont_13 w0 n o s m d K D A B cap capB w ht hw hmb hsb hT h0 h1
  · exact cont_14 w0 n o s m d K D A B cap capB w ht hw hmb hsb hT h0 h1
  · exact cont_15 w0 n o s m d K D A B cap capB w ht hw hmb hsb hT h0 h1
  · exact cont_16 w0 n o s m d K D A B cap capB w ht hw hmb hsb hT h0 h1
  · exact cont_17 w0 n o s m d K D A B cap capB w ht hw hmb hsb hT h0 h1
  · exact cont_18 w0 n o s m d K D A B cap capB w ht hw hmb hsb hT h0 h1
  · exact cont_19 w0 n o s m d K D A B cap capB w ht hw hmb hsb hT h0 h1
  · exact cont_20 w0 n o s m d K D A B cap capB w ht hw hmb hsb hT h0 h1
  · exact cont_21 w0 n o s m d K D A B cap capB w ht hw hmb hsb hT h0 h1
  · exact cont_22 w0 n o s m d K D A B cap capB w ht hw hmb hsb hT h0 h1
  · exact cont_23 w0 n o s m d K D A B cap capB w ht hw hmb hsb hT h0 h1

/-- The value can be written, with so many levels. -/
def FitV : Va → Int → Prop
  | .mk k n s m K o d D, lv => 0 < lv ∧ 0 ≤ k ∧ k < 24 ∧ (k ≠ 21 → k ≠ 22 → k ≠ 23 → m = 0) ∧ (k ≠ 14 → k < 17 ∨ 20 < k → s.toList = []) ∧ (k < 1 ∨ 16 < k ∨ k = 14 → n = 0) ∧ d ≤ 1 ∧ m ≤ 1000 ∧ s.size ≤ 131072 ∧ 0 ≤ n ∧ n < 18446744073709551616 ∧ ContF k n s o K ∧ (∀ i : Fin d, FitV (D i) (lv - 1) ∧ ((D i).kind = 5 ∨ (D i).kind = 20) ∧ (D i).descs = 0) ∧ ∀ i : Fin m, FitV (K i) (lv - 1)
def FvTo (t : Va) (lv : Int) (w : World) (e : Ending) (w' : World) : Prop := ∃ b : Bool, e = .returned (.bool b) ∧ Ch No w w' ∧ (b = true → FitV t lv)
end Go.Proofs.YtbdgkikipekmlaaDoor
