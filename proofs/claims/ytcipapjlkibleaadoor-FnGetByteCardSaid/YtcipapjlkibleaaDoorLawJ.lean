/- The laws of MessagePack's readers of integers, whole. No condition. -/
import Derived.Test.YtcipapjlkibleaaDoorLawU
import Derived.OpenShut
namespace Go.Proofs.YtcipapjlkibleaaDoor
set_option linter.unusedVariables false
set_option linter.unusedSimpArgs false
open Go.RowKit

theorem putD_two {n x : Int} {s : ByteArray} {m : Nat} {K : Fin m → Pk} {d : List Int} (h : PutD (.mk 2 n s x m K) d) : (9223372036854775808 ≤ n ∧ NegD n d) ∨ (n < 9223372036854775808 ∧ PosD n d) := by
  unfold PutD at h
  rcases h with ⟨e, _⟩ | ⟨e, _⟩ | ⟨_, h1, h2⟩ | ⟨_, h1, h2⟩ | ⟨e, _⟩ | ⟨e, _⟩ | ⟨e, _⟩ | ⟨e, _⟩ | ⟨e, _⟩ | ⟨e, _⟩ | ⟨e, _⟩ | ⟨e, _⟩
  all_goals first
  | exact .inl ⟨h1, h2⟩
  | exact .inr ⟨h1, h2⟩
  | (exfalso; omega)
theorem putD_three {n x : Int} {s : ByteArray} {m : Nat} {K : Fin m → Pk} {d : List Int} (h : PutD (.mk 3 n s x m K) d) : PosD n d := by
  unfold PutD at h
  rcases h with ⟨e, _⟩ | ⟨e, _⟩ | ⟨e, _⟩ | ⟨e, _⟩ | ⟨_, h⟩ | ⟨e, _⟩ | ⟨e, _⟩ | ⟨e, _⟩ | ⟨e, _⟩ | ⟨e, _⟩ | ⟨e, _⟩ | ⟨e, _⟩
  all_goals first
  | exact h
  | (exfalso; omega)
theorem fit_one {k n x : Int} {s : ByteArray} {m : Nat} {K : Fin m → Pk} (h : FitP (.mk k n s x m K) 6) : k = 1 → n ≤ 1 := by
  unfold FitP at h
  exact h.2.2.2.2.2.2.2.2.2.1
/-- What is cut off a value that is no integer. -/
theorem oth_cut {d : List Int} (h : ∃ b r, d = b :: r ∧ Oth b) (k : Nat) : RefI (d.take k) ∧ RefU (d.take k) := by
  obtain ⟨b, r, rfl, ho⟩ := h
  cases k with
  | zero => exact ⟨.inl rfl, .inl rfl⟩
  | succ k => exact ho.ref
theorem oth_all {d : List Int} (h : ∃ b r, d = b :: r ∧ Oth b) (l : List Int) : RefI (d ++ l) ∧ RefU (d ++ l) := by
  obtain ⟨b, r, rfl, ho⟩ := h
  exact ho.ref
theorem FnGetIntLaw (t : Pk) (v0 v1 v2 v3 v4 : Value) (f : Int) (sh : Bool) (A : Option Addr) (l : List Int) (cap : Nat) (cut : Int) (w : World) (hs : Sh w) (ht : TrP w t [v0, v1, v2, v3, v4]) (hf0 : 0 ≤ f) (hf1 : f < 18446744073709551616) (hr : Rd u8 w A l) (hle : l.length ≤ cap) (hb : Byt l) :
    Calls Tryd.prog 5 #[.agg #[v0, v1, v2, v3, v4, .int .u64 f, .bool sh, .slice A l.length cap, .int .i64 cut]] w fun e w' => e = .returned (.bool true) ∧ Ch No w w' := by
  obtain ⟨k, n, s, x, m, K⟩ := t
  have ht' := ht
  obtain ⟨Ak, ck, he, _, hwn, _⟩ := ht'
  simp only [List.cons.injEq, and_true] at he
  obtain ⟨rfl, rfl, rfl, rfl, rfl⟩ := he
  have hn := bounds_u64 hwn
  have hn1 : n < 18446744073709551616 := by omega
  by_cases k2 : k = 2
  · subst k2
    have hC : ∀ (d : List Int) (k : Nat) (A : Option Addr) (c : Nat) (W : World), FitP (.mk 2 n s x m K) 6 → PutD (.mk 2 n s x m K) d → (k < d.length ∨ d = []) → Rd u8 W A (d.take k) → (d.take k).length ≤ c → Sh W → Calls Tryd.prog 14 #[.slice A (d.take k).length c] W (GetIntNo W) := fun d k A c W _ hd hk hr hc hs => GetInt_no _ _ (readI_refused A c _ W hr hc hs ((RefI.cut (cut_form (by rcases putD_two hd with h | h; exact .inl h.2; exact .inr h.2) k hk)).1))
    by_cases h63 : 9223372036854775808 ≤ n
    · exact lawGetInt_yes _ n (n - 18446744073709551616) _ _ _ _ f sh A l cap cut w hs ht hf0 hf1 hr hle hC (fun d A c W _ hd hl hr hc hs => GetInt_ok _ _ l W (by omega) (readI_neg A c n d l W (by rcases putD_two hd with h | h; exact h.2; exact absurd h.1 (by omega)) h63 hn1 hb hr hc)) (fun W => fitsInt_2 n _ _ _ W hn.1 hn1) (by simp [IntKind.wrap, IntKind.bits, IntKind.signed]; omega)
    · exact lawGetInt_yes _ n n _ _ _ _ f sh A l cap cut w hs ht hf0 hf1 hr hle hC (fun d A c W _ hd hl hr hc hs => GetInt_ok _ _ l W (by omega) (readI_pos A c n d l W (by rcases putD_two hd with h | h; exact absurd h.1 (by omega); exact h.2) hn.1 (by omega) hb hr hc)) (fun W => fitsInt_2 n _ _ _ W hn.1 hn1) (by simp [IntKind.wrap, IntKind.bits, IntKind.signed]; omega)
  by_cases k3 : k = 3
  · subst k3
    have hC : ∀ (d : List Int) (k : Nat) (A : Option Addr) (c : Nat) (W : World), FitP (.mk 3 n s x m K) 6 → PutD (.mk 3 n s x m K) d → (k < d.length ∨ d = []) → Rd u8 W A (d.take k) → (d.take k).length ≤ c → Sh W → Calls Tryd.prog 14 #[.slice A (d.take k).length c] W (GetIntNo W) := fun d k A c W _ hd hk hr hc hs => GetInt_no _ _ (readI_refused A c _ W hr hc hs ((RefI.cut (cut_form (.inr (putD_three hd)) k hk)).1))
    by_cases h63 : 9223372036854775808 ≤ n
    · exact lawGetInt_no _ n 0 _ _ _ _ f sh A l cap cut w hs ht hf0 hf1 hr hle hC (fun d A c W _ hd hl hr hc hs => GetInt_no _ _ (readI_refused A c _ W hr hc hs (big_form (putD_three hd) h63 hn1 l hb))) (fun W => fitsInt_3n n _ _ _ W h63 hn1)
    · exact lawGetInt_yes _ n n _ _ _ _ f sh A l cap cut w hs ht hf0 hf1 hr hle hC (fun d A c W _ hd hl hr hc hs => GetInt_ok _ _ l W (by omega) (readI_pos A c n d l W (putD_three hd) hn.1 (by omega) hb hr hc)) (fun W => fitsInt_3y n _ _ _ W hn.1 (by omega)) (by simp [IntKind.wrap, IntKind.bits, IntKind.signed]; omega)
  exact lawGetInt_no _ n 0 _ _ _ _ f sh A l cap cut w hs ht hf0 hf1 hr hle (fun d k' A c W hf hd _ hr hc hs => GetInt_no _ _ (readI_refused A c _ W hr hc hs ((oth_cut (oth_form hd hn.1 (fit_one hf) k2 k3) k').1))) (fun d A c W hf hd hl hr hc hs => GetInt_no _ _ (readI_refused A c _ W hr hc hs ((oth_all (oth_form hd hn.1 (fit_one hf) k2 k3) l).1))) (fun W => fitsInt_o k n _ _ _ W hn.1 hn1 k2 k3)
theorem FnGetUintLaw (t : Pk) (v0 v1 v2 v3 v4 : Value) (f : Int) (sh : Bool) (A : Option Addr) (l : List Int) (cap : Nat) (cut : Int) (w : World) (hs : Sh w) (ht : TrP w t [v0, v1, v2, v3, v4]) (hf0 : 0 ≤ f) (hf1 : f < 18446744073709551616) (hr : Rd u8 w A l) (hle : l.length ≤ cap) (hb : Byt l) :
    Calls Tryd.prog 6 #[.agg #[v0, v1, v2, v3, v4, .int .u64 f, .bool sh, .slice A l.length cap, .int .i64 cut]] w fun e w' => e = .returned (.bool true) ∧ Ch No w w' := by
  obtain ⟨k, n, s, x, m, K⟩ := t
  have ht' := ht
  obtain ⟨Ak, ck, he, _, hwn, _⟩ := ht'
  simp only [List.cons.injEq, and_true] at he
  obtain ⟨rfl, rfl, rfl, rfl, rfl⟩ := he
  have hn := bounds_u64 hwn
  have hn1 : n < 18446744073709551616 := by omega
  by_cases k2 : k = 2
  · subst k2
    have hC : ∀ (d : List Int) (k : Nat) (A : Option Addr) (c : Nat) (W : World), FitP (.mk 2 n s x m K) 6 → PutD (.mk 2 n s x m K) d → (k < d.length ∨ d = []) → Rd u8 W A (d.take k) → (d.take k).length ≤ c → Sh W → Calls Tryd.prog 16 #[.slice A (d.take k).length c] W (GetUintNo W) := fun d k A c W _ hd hk hr hc hs => GetUint_no _ _ (readU_refused A c _ W hr hc hs ((RefI.cut (cut_form (by rcases putD_two hd with h | h; exact .inl h.2; exact .inr h.2) k hk)).2))
    by_cases h63 : 9223372036854775808 ≤ n
    · exact lawGetUint_no _ n 0 _ _ _ _ f sh A l cap cut w hs ht hf0 hf1 hr hle hC (fun d A c W _ hd hl hr hc hs => GetUint_no _ _ (readU_refused A c _ W hr hc hs (neg_form (by rcases putD_two hd with h | h; exact h.2; exact absurd h.1 (by omega)) h63 hn1 l hb))) (fun W => fitsUint64_2n n _ _ _ W h63 hn1)
    · exact lawGetUint_yes _ n n _ _ _ _ f sh A l cap cut w hs ht hf0 hf1 hr hle hC (fun d A c W _ hd hl hr hc hs => GetUint_ok _ _ l W (by omega) (readU_pos A c n d l W (by rcases putD_two hd with h | h; exact absurd h.1 (by omega); exact h.2) hn.1 hn1 hb hr hc)) (fun W => fitsUint64_2 n _ _ _ W hn.1 (by omega)) ⟨rfl, hn.1, hn1⟩
  by_cases k3 : k = 3
  · subst k3
    have hC : ∀ (d : List Int) (k : Nat) (A : Option Addr) (c : Nat) (W : World), FitP (.mk 3 n s x m K) 6 → PutD (.mk 3 n s x m K) d → (k < d.length ∨ d = []) → Rd u8 W A (d.take k) → (d.take k).length ≤ c → Sh W → Calls Tryd.prog 16 #[.slice A (d.take k).length c] W (GetUintNo W) := fun d k A c W _ hd hk hr hc hs => GetUint_no _ _ (readU_refused A c _ W hr hc hs ((RefI.cut (cut_form (.inr (putD_three hd)) k hk)).2))
    exact lawGetUint_yes _ n n _ _ _ _ f sh A l cap cut w hs ht hf0 hf1 hr hle hC (fun d A c W _ hd hl hr hc hs => GetUint_ok _ _ l W (by omega) (readU_pos A c n d l W (putD_three hd) hn.1 hn1 hb hr hc)) (fun W => fitsUint64_3 n _ _ _ W hn.1 hn1) ⟨rfl, hn.1, hn1⟩
  exact lawGetUint_no _ n 0 _ _ _ _ f sh A l cap cut w hs ht hf0 hf1 hr hle (fun d k' A c W hf hd _ hr hc hs => GetUint_no _ _ (readU_refused A c _ W hr hc hs ((oth_cut (oth_form hd hn.1 (fit_one hf) k2 k3) k').2))) (fun d A c W hf hd hl hr hc hs => GetUint_no _ _ (readU_refused A c _ W hr hc hs ((oth_all (oth_form hd hn.1 (fit_one hf) k2 k3) l).2))) (fun W => fitsUint64_o k n _ _ _ W hn.1 hn1 k2 k3)
theorem FnGetByteLaw (t : Pk) (v0 v1 v2 v3 v4 : Value) (f : Int) (sh : Bool) (A : Option Addr) (l : List Int) (cap : Nat) (cut : Int) (w : World) (hs : Sh w) (ht : TrP w t [v0, v1, v2, v3, v4]) (hf0 : 0 ≤ f) (hf1 : f < 18446744073709551616) (hr : Rd u8 w A l) (hle : l.length ≤ cap) (hb : Byt l) :
    Calls Tryd.prog 7 #[.agg #[v0, v1, v2, v3, v4, .int .u64 f, .bool sh, .slice A l.length cap, .int .i64 cut]] w fun e w' => e = .returned (.bool true) ∧ Ch No w w' := by
  obtain ⟨k, n, s, x, m, K⟩ := t
  have ht' := ht
  obtain ⟨Ak, ck, he, _, hwn, _⟩ := ht'
  simp only [List.cons.injEq, and_true] at he
  obtain ⟨rfl, rfl, rfl, rfl, rfl⟩ := he
  have hn := bounds_u64 hwn
  have hn1 : n < 18446744073709551616 := by omega
  by_cases k2 : k = 2
  · subst k2
    have hC : ∀ (d : List Int) (k : Nat) (A : Option Addr) (c : Nat) (W : World), FitP (.mk 2 n s x m K) 6 → PutD (.mk 2 n s x m K) d → (k < d.length ∨ d = []) → Rd u8 W A (d.take k) → (d.take k).length ≤ c → Sh W → Calls Tryd.prog 18 #[.slice A (d.take k).length c] W (GetByteNo W) := fun d k A c W _ hd hk hr hc hs => GetByte_no _ _ (readY_no _ _ (readB_no _ _ (readU_refused A c _ W hr hc hs ((RefI.cut (cut_form (by rcases putD_two hd with h | h; exact .inl h.2; exact .inr h.2) k hk)).2))))
    by_cases h63 : 9223372036854775808 ≤ n
    · exact lawGetByte_no _ n 0 _ _ _ _ f sh A l cap cut w hs ht hf0 hf1 hr hle hC (fun d A c W _ hd hl hr hc hs => GetByte_no _ _ (readY_no _ _ (readB_no _ _ (readU_refused A c _ W hr hc hs (neg_form (by rcases putD_two hd with h | h; exact h.2; exact absurd h.1 (by omega)) h63 hn1 l hb))))) (fun W => fitsUint8_2n n _ _ _ W h63 hn1)
    · by_cases h8 : n < 256
      · exact lawGetByte_yes _ n n _ _ _ _ f sh A l cap cut w hs ht hf0 hf1 hr hle hC (fun d A c W _ hd hl hr hc hs => GetByte_ok _ _ l W (by omega) (readY_ok _ _ _ _ (readB_ok _ _ _ _ hn.1 h8 (readU_pos A c n d l W (by rcases putD_two hd with h | h; exact absurd h.1 (by omega); exact h.2) hn.1 hn1 hb hr hc)))) (fun W => by have h := fitsUint8_2 n (.string s) (.int .i64 x) (.slice Ak m ck) W hn.1 (by omega); rwa [decide_eq_true h8] at h) ⟨rfl, hn.1, h8⟩
      · exact lawGetByte_no _ n 0 _ _ _ _ f sh A l cap cut w hs ht hf0 hf1 hr hle hC (fun d A c W _ hd hl hr hc hs => GetByte_no _ _ (readY_no _ _ (readB_big _ n l _ (by omega) (readU_pos A c n d l W (by rcases putD_two hd with h | h; exact absurd h.1 (by omega); exact h.2) hn.1 hn1 hb hr hc)))) (fun W => by have h := fitsUint8_2 n (.string s) (.int .i64 x) (.slice Ak m ck) W hn.1 (by omega); rwa [decide_eq_false h8] at h)
  by_cases k3 : k = 3
  · subst k3
    have hC : ∀ (d : List Int) (k : Nat) (A : Option Addr) (c : Nat) (W : World), FitP (.mk 3 n s x m K) 6 → PutD (.mk 3 n s x m K) d → (k < d.length ∨ d = []) → Rd u8 W A (d.take k) → (d.take k).length ≤ c → Sh W → Calls Tryd.prog 18 #[.slice A (d.take k).length c] W (GetByteNo W) := fun d k A c W _ hd hk hr hc hs => GetByte_no _ _ (readY_no _ _ (readB_no _ _ (readU_refused A c _ W hr hc hs ((RefI.cut (cut_form (.inr (putD_three hd)) k hk)).2))))
    by_cases h8 : n < 256
    · exact lawGetByte_yes _ n n _ _ _ _ f sh A l cap cut w hs ht hf0 hf1 hr hle hC (fun d A c W _ hd hl hr hc hs => GetByte_ok _ _ l W (by omega) (readY_ok _ _ _ _ (readB_ok _ _ _ _ hn.1 h8 (readU_pos A c n d l W (putD_three hd) hn.1 hn1 hb hr hc)))) (fun W => by have h := fitsUint8_3 n (.string s) (.int .i64 x) (.slice Ak m ck) W hn.1 hn1; rwa [decide_eq_true h8] at h) ⟨rfl, hn.1, h8⟩
    · exact lawGetByte_no _ n 0 _ _ _ _ f sh A l cap cut w hs ht hf0 hf1 hr hle hC (fun d A c W _ hd hl hr hc hs => GetByte_no _ _ (readY_no _ _ (readB_big _ n l _ (by omega) (readU_pos A c n d l W (putD_three hd) hn.1 hn1 hb hr hc)))) (fun W => by have h := fitsUint8_3 n (.string s) (.int .i64 x) (.slice Ak m ck) W hn.1 hn1; rwa [decide_eq_false h8] at h)
  exact lawGetByte_no _ n 0 _ _ _ _ f sh A l cap cut w hs ht hf0 hf1 hr hle (fun d k' A c W hf hd _ hr hc hs => GetByte_no _ _ (readY_no _ _ (readB_no _ _ (readU_refused A c _ W hr hc hs ((oth_cut (oth_form hd hn.1 (fit_one hf) k2 k3) k').2))))) (fun d A c W hf hd hl hr hc hs => GetByte_no _ _ (readY_no _ _ (readB_no _ _ (readU_refused A c _ W hr hc hs ((oth_all (oth_form hd hn.1 (fit_one hf) k2 k3) l).2))))) (fun W => fitsUint8_o k n _ _ _ W hn.1 hn1 k2 k3)

end Go.Proofs.YtcipapjlkibleaaDoor
