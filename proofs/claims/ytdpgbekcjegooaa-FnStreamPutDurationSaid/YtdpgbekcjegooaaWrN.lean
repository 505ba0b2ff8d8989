/- The walks of NewWriterSize and of what is written by a Writer. No condition. -/
import Derived.Test.YtdpgbekcjegooaaWrW
import Derived.Deep.LoopGhost
namespace Go.Proofs.Ytdpgbekcjegooaa
set_option linter.unusedVariables false
set_option linter.unusedSimpArgs false
open Go.RowKit

set_option maxHeartbeats 400000 in
theorem newBuf_calls (t g N : Nat) (w : World) (hN : 18 ≤ N) (hN1 : N ≤ 65536) :
    Calls Try.prog 49 #[.iface 76 (.pointer (some ⟨t, 0, none⟩)), .slice (some ⟨g, 0, none⟩) N N] w fun e w' => e = .returned (.pointer (some ⟨w.heap.size, 0, none⟩)) ∧ Row w' w.heap.size 98 [.iface 76 (.pointer (some ⟨t, 0, none⟩)), .slice (some ⟨g, 0, none⟩) N N, .int .i64 0] ∧ Ch No w w' := by
  obtain ⟨hk1, hk1'⟩ := Cut.ahead_h 23 5 Try.underlying23 size_u8 (some ⟨g, 0, none⟩) N N N N rfl .i64 (by omega)
  have hd : decide ((N : Int) < 18) = false := decide_eq_false (by omega)
  go_enter Try.func49, Try.ntmps49
  go_wp2_with fail
  go_ret
  exact ⟨rfl, Row.alloc w [_, _, _] _, (Ch.refl No w).alloc _⟩
theorem Ch.from_ {w w1 w2 : World} {base : Nat} (h : Ch No w w1) (h2 : Ch (From base) w1 w2) (hb : w.heap.size ≤ base) : Ch No w w2 :=
  h.trans h2 (fun _ h => h) (fun b hb' => .inr (Nat.le_trans hb hb'))
set_option maxHeartbeats 400000 in
theorem newSize_calls (t N : Nat) (w : World) (hR : Row w t 74 [.slice none 0 0]) (hN : 18 ≤ N) (hN1 : N ≤ 65536) :
    Calls Try.prog 35 #[.iface 76 (.pointer (some ⟨t, 0, none⟩)), .int .i64 N] w fun e w' => ∃ p, e = .returned (.pointer (some ⟨p, 0, none⟩)) ∧ WrTo t p t N [] w' ∧ Ch No w w' := by
  have hd : decide ((N : Int) < 18) = false := decide_eq_false (by omega)
  have ht := hR.lt
  go_enter Try.func35, Try.ntmps35
  go_wp2_with (first
    | ((with_reducible refine gate (.makeSlice 23 _ _) rfl ?_); refine wp_make rfl 23 5 _ _ rfl (.int .u8 0) 1 Try.underlying23 info_u8 rfl .i64 .i64 (N : Int) (N : Int) N rfl rfl rfl rfl (by omega) (by omega) ?_; intro w1 hrow hch)
    | (go_at_call 49; refine (newBuf_calls t _ N w1 hN hN1).mono ?_; rintro e w2 ⟨rfl, hrow2, hch2⟩))
  go_ret
  have hs1 : w.heap.size < w1.heap.size := hrow.lt
  refine ⟨_, rfl, ⟨_, 0, .slice none 0 0, [], [], ⟨hrow2, ⟨_, hrow.keep0 hch2, by simp, rfl⟩, (hR.keep0 hch).keep0 hch2, Ow.nil _ _ _, rfl, by omega, hN, hN1, by omega, by omega, by omega, fun b hb => absurd hb Blk_nil, by omega, by omega, by omega, Blk_nil, Blk_nil, Blk_nil⟩, rfl⟩, hch.trans hch2 (fun _ h => h) (fun _ h => absurd h id)⟩
theorem flush_end (t p N : Nat) (out : List Int) (w : World) (h : WrTo t p t N out w) (hl : out.length ≤ 1099511627776) :
    Calls Try.prog 36 #[.pointer (some ⟨p, 0, none⟩)] w fun e w' => e = .returned .nilIface ∧ (∃ v, Row w' t 74 [v] ∧ Ow 5 u8 w' v out ∧ ∀ b, Blk v b → t ≤ b) ∧ Ch (From t) w w' := by
  obtain ⟨g, k, vB, bl, done, h, rfl⟩ := h
  go_enter Try.func36, Try.ntmps36
  go_wp2_with (go_at_call 50; refine (flush_any t p t g N k vB bl done w h (by rw [List.length_append] at hl; omega)).mono ?_; rintro e w1 ⟨rfl, ⟨v, h1⟩, hch⟩)
  go_ret
  exact ⟨rfl, ⟨v, h1.rt, h1.ow, h1.bv⟩, hch⟩
theorem zero_text (w : World) : (zeroValue 74).run Try.prog w = .ok (.agg #[.slice none 0 0]) w := by kernel_rfl
theorem flat_take {α : Type} (enc : α → List Int) (l : List α) (i : Nat) : ((l.take i).flatMap enc).length ≤ (l.flatMap enc).length := by
  conv => rhs; rw [← List.take_append_drop i l]
  rw [List.flatMap_append, List.length_append]
  omega
def encF (n : Int) : List Int := 203 :: be8 n
/-- What was written: bytes of the caller's own. -/
def Wrote (w : World) (out : List Int) (e : Ending) (w' : World) : Prop := ∃ v, e = .returned (.tuple #[v, .bool true]) ∧ Ow 5 u8 w' v out ∧ Fr w v ∧ Ch No w w'
set_option maxHeartbeats 400000 in
theorem closurePutUint8 (t p N : Nat) (out : List Int) (x : Int) (w : World) (h : WrTo t p t N out w) (hl : out.length ≤ 1099511627776) (h0 : 0 ≤ x) (h1 : x < 256) :
    Calls Try.prog 27 #[.pointer (some ⟨p, 0, none⟩), .int .u8 x] w (WEnd t p t N w (out ++ (encU x))) := by
  go_enter Try.func27, Try.ntmps27
  go_wp2_with (go_at_call 28; refine (wWriteUint8 t p t N out x w h hl h0 h1).mono ?_; rintro e w1 ⟨rfl, hto, hch⟩)
  go_ret
  exact ⟨rfl, hto, hch⟩
set_option maxHeartbeats 1000000 in
theorem writtenPutUint8 (A : Option Addr) (c : Nat) (l : List Int) (enc : Int → List Int) (b : Int) (N : Nat) (w : World) (hr : Rd (Value.int .u8) w A l) (hb : b = N) (hN : 18 ≤ N) (hN1 : N ≤ 65536) (hl : l.length ≤ 1048576) (hlen : (l.flatMap enc).length ≤ 1099511627776)
    (hcl : ∀ (t p : Nat) (out : List Int) (x : Int) (w : World), x ∈ l → WrTo t p t N out w → out.length ≤ 1099511627776 → Calls Try.prog 27 #[.pointer (some ⟨p, 0, none⟩), .int .u8 x] w (WEnd t p t N w (out ++ enc x))) :
    Calls Try.prog 26 #[.int .i64 b, .slice A l.length c, .func (.func 27) #[] #[]] w (Wrote w (l.flatMap enc)) := by
  subst hb
  have hmx : max (N : Int) 0 = N := by omega
  have hmn : min (N : Int) 65536 = N := by omega
  have hz := zero_text
  go_enter Try.func26, Try.ntmps26
  go_wp2_with (first | (go_at_call 35; refine (newSize_calls w.heap.size N _ (Row.alloc w [.slice none 0 0] 74) hN hN1).mono ?_; rintro e w2 ⟨p, rfl, hto, hch⟩))
  go_loopg [19] l.length (fun k s19 wr => ∃ i : Nat, k + i = l.length ∧ s19 = .int .i64 i ∧ WrTo w.heap.size p w.heap.size N ((l.take i).flatMap enc) wr ∧ Ch No w wr)
  case atStart => exact ⟨0, by omega, rfl, hto, ((Ch.refl No w).alloc _).trans hch (fun _ h => h) (fun _ h => absurd h id)⟩
  case round =>
    obtain ⟨i, hki, rfl, hto2, hch2⟩ := hrel
    by_cases hi : i < l.length
    · obtain ⟨b, o, rfl, hcell⟩ := (hr.keep0 hch2).at_ i hi
      have hx := hid (hcl w.heap.size p _ l[i] wr (List.getElem_mem hi) hto2 (by have := flat_take enc l i; omega))
      clear hcl hto2 hto hr
      have hi' : (i : Int) < l.length := by omega
      have hi0 : (0 : Int) ≤ i := by omega
      go_wp2_with (first | (go_at_call 27; refine hx.out.mono ?_; rintro e w3 ⟨rfl, hto3, hch3⟩))
      go_roundg (gk - 1)
      case measure => omega
      case rel => exact ⟨i + 1, by omega, by go_num, by rw [List.take_succ_eq_append_getElem hi, List.flatMap_append]; simpa using hto3, hch2.from_ hch3 (Nat.le_refl _)⟩
    · obtain rfl : i = l.length := by omega
      clear hcl
      rw [List.take_length] at hto2
      go_wp2_with (first | (go_at_call 36; refine (flush_end w.heap.size p N _ _ hto2 hlen).mono ?_; rintro e w3 ⟨rfl, ⟨v, hrow, how, hbv⟩, hch3⟩; have hc0 := hrow.cell 0 _ rfl))
      go_ret2
      exact ⟨v, rfl, how, hbv, hch2.from_ hch3 (Nat.le_refl _)⟩
set_option maxHeartbeats 400000 in
theorem streamPutUint8 (A : Option Addr) (c : Nat) (l : List Int) (b : Int) (N : Nat) (w : World) (hr : Rd (Value.int .u8) w A l) (hb : b = N) (hN : 18 ≤ N) (hN1 : N ≤ 65536) (hl : l.length ≤ 1048576) (hlen : (l.flatMap encU).length ≤ 1099511627776) (hlo : ∀ x ∈ l, 0 ≤ x ∧ x < 256) :
    Calls Try.prog 13 #[.int .i64 b, .slice A l.length c] w (Wrote w (l.flatMap encU)) := by
  have hx := hid (writtenPutUint8 A c l encU b N w hr hb hN hN1 hl hlen (fun t p out x w hx h hl => closurePutUint8 t p N out x w h hl (hlo x hx).1 (hlo x hx).2))
  clear hr hb hN hN1 hl hlen hlo
  go_enter Try.func13, Try.ntmps13
  go_wp2_with (go_at_call 26; refine hx.out.mono ?_; rintro e w1 ⟨v, rfl, ho, hf, hch⟩)
  go_ret2
  exact ⟨v, rfl, ho, hf, hch⟩
set_option maxHeartbeats 400000 in
theorem closurePutInt8 (t p N : Nat) (out : List Int) (x : Int) (w : World) (h : WrTo t p t N out w) (hl : out.length ≤ 1099511627776) (h0 : -128 ≤ x) (h1 : x < 128) :
    Calls Try.prog 30 #[.pointer (some ⟨p, 0, none⟩), .int .i8 x] w (WEnd t p t N w (out ++ (encI x))) := by
  go_enter Try.func30, Try.ntmps30
  go_wp2_with (go_at_call 31; refine (wWriteInt8 t p t N out x w h hl h0 h1).mono ?_; rintro e w1 ⟨rfl, hto, hch⟩)
  go_ret
  exact ⟨rfl, hto, hch⟩
set_option maxHeartbeats 1000000 in
theorem writtenPutInt8 (A : Option Addr) (c : Nat) (l : List Int) (enc : Int → List Int) (b : Int) (N : Nat) (w : World) (hr : Rd (Value.int .i8) w A l) (hb : b = N) (hN : 18 ≤ N) (hN1 : N ≤ 65536) (hl : l.length ≤ 1048576) (hlen : (l.flatMap enc).length ≤ 1099511627776)
    (hcl : ∀ (t p : Nat) (out : List Int) (x : Int) (w : World), x ∈ l → WrTo t p t N out w → out.length ≤ 1099511627776 → Calls Try.prog 30 #[.pointer (some ⟨p, 0, none⟩), .int .i8 x] w (WEnd t p t N w (out ++ enc x))) :
    Calls Try.prog 29 #[.int .i64 b, .slice A l.length c, .func (.func 30) #[] #[]] w (Wrote w (l.flatMap enc)) := by
  subst hb
  have hmx : max (N : Int) 0 = N := by omega
  have hmn : min (N : Int) 65536 = N := by omega
  have hz := zero_text
  go_enter Try.func29, Try.ntmps29
  go_wp2_with (first | (go_at_call 35; refine (newSize_calls w.heap.size N _ (Row.alloc w [.slice none 0 0] 74) hN hN1).mono ?_; rintro e w2 ⟨p, rfl, hto, hch⟩))
  go_loopg [19] l.length (fun k s19 wr => ∃ i : Nat, k + i = l.length ∧ s19 = .int .i64 i ∧ WrTo w.heap.size p w.heap.size N ((l.take i).flatMap enc) wr ∧ Ch No w wr)
  case atStart => exact ⟨0, by omega, rfl, hto, ((Ch.refl No w).alloc _).trans hch (fun _ h => h) (fun _ h => absurd h id)⟩
  case round =>
    obtain ⟨i, hki, rfl, hto2, hch2⟩ := hrel
    by_cases hi : i < l.length
    · obtain ⟨b, o, rfl, hcell⟩ := (hr.keep0 hch2).at_ i hi
      have hx := hid (hcl w.heap.size p _ l[i] wr (List.getElem_mem hi) hto2 (by have := flat_take enc l i; omega))
      clear hcl hto2 hto hr
      have hi' : (i : Int) < l.length := by omega
      have hi0 : (0 : Int) ≤ i := by omega
      go_wp2_with (first | (go_at_call 30; refine hx.out.mono ?_; rintro e w3 ⟨rfl, hto3, hch3⟩))
      go_roundg (gk - 1)
      case measure => omega
      case rel => exact ⟨i + 1, by omega, by go_num, by rw [List.take_succ_eq_append_getElem hi, List.flatMap_append]; simpa using hto3, hch2.from_ hch3 (Nat.le_refl _)⟩
    · obtain rfl : i = l.length := by omega
      clear hcl
      rw [List.take_length] at hto2
      go_wp2_with (first | (go_at_call 36; refine (flush_end w.heap.size p N _ _ hto2 hlen).mono ?_; rintro e w3 ⟨rfl, ⟨v, hrow, how, hbv⟩, hch3⟩; have hc0 := hrow.cell 0 _ rfl))
      go_ret2
      exact ⟨v, rfl, how, hbv, hch2.from_ hch3 (Nat.le_refl _)⟩
set_option maxHeartbeats 400000 in
theorem streamPutInt8 (A : Option Addr) (c : Nat) (l : List Int) (b : Int) (N : Nat) (w : World) (hr : Rd (Value.int .i8) w A l) (hb : b = N) (hN : 18 ≤ N) (hN1 : N ≤ 65536) (hl : l.length ≤ 1048576) (hlen : (l.flatMap encI).length ≤ 1099511627776) (hlo : ∀ x ∈ l, -128 ≤ x ∧ x < 128) :
    Calls Try.prog 14 #[.int .i64 b, .slice A l.length c] w (Wrote w (l.flatMap encI)) := by
  have hx := hid (writtenPutInt8 A c l encI b N w hr hb hN hN1 hl hlen (fun t p out x w hx h hl => closurePutInt8 t p N out x w h hl (hlo x hx).1 (hlo x hx).2))
  clear hr hb hN hN1 hl hlen hlo
  go_enter Try.func14, Try.ntmps14
  go_wp2_with (go_at_call 29; refine hx.out.mono ?_; rintro e w1 ⟨v, rfl, ho, hf, hch⟩)
  go_ret2
  exact ⟨v, rfl, ho, hf, hch⟩
set_option maxHeartbeats 400000 in
theorem closurePutDuration (t p N : Nat) (out : List Int) (x : Int) (w : World) (h : WrTo t p t N out w) (hl : out.length ≤ 1099511627776) (h0 : -9223372036854775808 ≤ x) (h1 : x < 9223372036854775808) :
    Calls Try.prog 33 #[.pointer (some ⟨p, 0, none⟩), .int .i64 x] w (WEnd t p t N w (out ++ (encI x))) := by
  go_enter Try.func33, Try.ntmps33
  go_wp2_with (go_at_call 34; refine (wWriteDuration t p t N out x w h hl h0 h1).mono ?_; rintro e w1 ⟨rfl, hto, hch⟩)
  go_ret
  exact ⟨rfl, hto, hch⟩
set_option maxHeartbeats 1000000 in
theorem writtenPutDuration (A : Option Addr) (c : Nat) (l : List Int) (enc : Int → List Int) (b : Int) (N : Nat) (w : World) (hr : Rd (Value.int .i64) w A l) (hb : b = N) (hN : 18 ≤ N) (hN1 : N ≤ 65536) (hl : l.length ≤ 1048576) (hlen : (l.flatMap enc).length ≤ 1099511627776)
    (hcl : ∀ (t p : Nat) (out : List Int) (x : Int) (w : World), x ∈ l → WrTo t p t N out w → out.length ≤ 1099511627776 → Calls Try.prog 33 #[.pointer (some ⟨p, 0, none⟩), .int .i64 x] w (WEnd t p t N w (out ++ enc x))) :
    Calls Try.prog 32 #[.int .i64 b, .slice A l.length c, .func (.func 33) #[] #[]] w (Wrote w (l.flatMap enc)) := by
  subst hb
  have hmx : max (N : Int) 0 = N := by omega
  have hmn : min (N : Int) 65536 = N := by omega
  have hz := zero_text
  go_enter Try.func32, Try.ntmps32
  go_wp2_with (first | (go_at_call 35; refine (newSize_calls w.heap.size N _ (Row.alloc w [.slice none 0 0] 74) hN hN1).mono ?_; rintro e w2 ⟨p, rfl, hto, hch⟩))
  go_loopg [19] l.length (fun k s19 wr => ∃ i : Nat, k + i = l.length ∧ s19 = .int .i64 i ∧ WrTo w.heap.size p w.heap.size N ((l.take i).flatMap enc) wr ∧ Ch No w wr)
  case atStart => exact ⟨0, by omega, rfl, hto, ((Ch.refl No w).alloc _).trans hch (fun _ h => h) (fun _ h => absurd h id)⟩
  case round =>
    obtain ⟨i, hki, rfl, hto2, hch2⟩ := hrel
    by_cases hi : i < l.length
    · obtain ⟨b, o, rfl, hcell⟩ := (hr.keep0 hch2).at_ i hi
      have hx := hid (hcl w.heap.size p _ l[i] wr (List.getElem_mem hi) hto2 (by have := flat_take enc l i; omega))
      clear hcl hto2 hto hr
      have hi' : (i : Int) < l.length := by omega
      have hi0 : (0 : Int) ≤ i := by omega
      go_wp2_with (first | (go_at_call 33; refine hx.out.mono ?_; rintro e w3 ⟨rfl, hto3, hch3⟩))
      go_roundg (gk - 1)
      case measure => omega
      case rel => exact ⟨i + 1, by omega, by go_num, by rw [List.take_succ_eq_append_getElem hi, List.flatMap_append]; simpa using hto3, hch2.from_ hch3 (Nat.le_refl _)⟩
    · obtain rfl : i = l.length := by omega
      clear hcl
      rw [List.take_length] at hto2
      go_wp2_with (first | (go_at_call 36; refine (flush_end w.heap.size p N _ _ hto2 hlen).mono ?_; rintro e w3 ⟨rfl, ⟨v, hrow, how, hbv⟩, hch3⟩; have hc0 := hrow.cell 0 _ rfl))
      go_ret2
      exact ⟨v, rfl, how, hbv, hch2.from_ hch3 (Nat.le_refl _)⟩
set_option maxHeartbeats 400000 in
theorem streamPutDuration (A : Option Addr) (c : Nat) (l : List Int) (b : Int) (N : Nat) (w : World) (hr : Rd (Value.int .i64) w A l) (hb : b = N) (hN : 18 ≤ N) (hN1 : N ≤ 65536) (hl : l.length ≤ 1048576) (hlen : (l.flatMap encI).length ≤ 1099511627776) (hlo : ∀ x ∈ l, -9223372036854775808 ≤ x ∧ x < 9223372036854775808) :
    Calls Try.prog 15 #[.int .i64 b, .slice A l.length c] w (Wrote w (l.flatMap encI)) := by
  have hx := hid (writtenPutDuration A c l encI b N w hr hb hN hN1 hl hlen (fun t p out x w hx h hl => closurePutDuration t p N out x w h hl (hlo x hx).1 (hlo x hx).2))
  clear hr hb hN hN1 hl hlen hlo
  go_enter Try.func15, Try.ntmps15
  go_wp2_with (go_at_call 32; refine hx.out.mono ?_; rintro e w1 ⟨v, rfl, ho, hf, hch⟩)
  go_ret2
  exact ⟨v, rfl, ho, hf, hch⟩
set_option maxHeartbeats 400000 in
theorem closurePutFloat64 (t p N : Nat) (out : List Int) (x : Int) (w : World) (h : WrTo t p t N out w) (hl : out.length ≤ 1099511627776) (h0 : 0 ≤ x) (h1 : x < 18446744073709551616) :
    Calls Try.prog 17 #[.pointer (some ⟨p, 0, none⟩), .int .u64 x] w (WEnd t p t N w (out ++ (encF x))) := by
  have hfb := float64frombits_run x
  go_enter Try.func17, Try.ntmps17
  go_wp2_with (go_at_call 18; refine (wF64 t p t N out x.toNat w h hl (by omega)).mono ?_; rintro e w1 ⟨rfl, hto, hch⟩)
  go_ret
  rw [Int.toNat_of_nonneg h0] at hto
  exact ⟨rfl, hto, hch⟩
set_option maxHeartbeats 1000000 in
theorem writtenPutFloat64 (A : Option Addr) (c : Nat) (l : List Int) (enc : Int → List Int) (b : Int) (N : Nat) (w : World) (hr : Rd (Value.int .u64) w A l) (hb : b = N) (hN : 18 ≤ N) (hN1 : N ≤ 65536) (hl : l.length ≤ 1048576) (hlen : (l.flatMap enc).length ≤ 1099511627776)
    (hcl : ∀ (t p : Nat) (out : List Int) (x : Int) (w : World), x ∈ l → WrTo t p t N out w → out.length ≤ 1099511627776 → Calls Try.prog 17 #[.pointer (some ⟨p, 0, none⟩), .int .u64 x] w (WEnd t p t N w (out ++ enc x))) :
    Calls Try.prog 16 #[.int .i64 b, .slice A l.length c, .func (.func 17) #[] #[]] w (Wrote w (l.flatMap enc)) := by
  subst hb
  have hmx : max (N : Int) 0 = N := by omega
  have hmn : min (N : Int) 65536 = N := by omega
  have hz := zero_text
  go_enter Try.func16, Try.ntmps16
  go_wp2_with (first | (go_at_call 35; refine (newSize_calls w.heap.size N _ (Row.alloc w [.slice none 0 0] 74) hN hN1).mono ?_; rintro e w2 ⟨p, rfl, hto, hch⟩))
  go_loopg [19] l.length (fun k s19 wr => ∃ i : Nat, k + i = l.length ∧ s19 = .int .i64 i ∧ WrTo w.heap.size p w.heap.size N ((l.take i).flatMap enc) wr ∧ Ch No w wr)
  case atStart => exact ⟨0, by omega, rfl, hto, ((Ch.refl No w).alloc _).trans hch (fun _ h => h) (fun _ h => absurd h id)⟩
  case round =>
    obtain ⟨i, hki, rfl, hto2, hch2⟩ := hrel
    by_cases hi : i < l.length
    · obtain ⟨b, o, rfl, hcell⟩ := (hr.keep0 hch2).at_ i hi
      have hx := hid (hcl w.heap.size p _ l[i] wr (List.getElem_mem hi) hto2 (by have := flat_take enc l i; omega))
      clear hcl hto2 hto hr
      have hi' : (i : Int) < l.length := by omega
      have hi0 : (0 : Int) ≤ i := by omega
      go_wp2_with (first | (go_at_call 17; refine hx.out.mono ?_; rintro e w3 ⟨rfl, hto3, hch3⟩))
      go_roundg (gk - 1)
      case measure => omega
      case rel => exact ⟨i + 1, by omega, by go_num, by rw [List.take_succ_eq_append_getElem hi, List.flatMap_append]; simpa using hto3, hch2.from_ hch3 (Nat.le_refl _)⟩
    · obtain rfl : i = l.length := by omega
      clear hcl
      rw [List.take_length] at hto2
      go_wp2_with (first | (go_at_call 36; refine (flush_end w.heap.size p N _ _ hto2 hlen).mono ?_; rintro e w3 ⟨rfl, ⟨v, hrow, how, hbv⟩, hch3⟩; have hc0 := hrow.cell 0 _ rfl))
      go_ret2
      exact ⟨v, rfl, how, hbv, hch2.from_ hch3 (Nat.le_refl _)⟩
set_option maxHeartbeats 400000 in
theorem streamPutFloat64 (A : Option Addr) (c : Nat) (l : List Int) (b : Int) (N : Nat) (w : World) (hr : Rd (Value.int .u64) w A l) (hb : b = N) (hN : 18 ≤ N) (hN1 : N ≤ 65536) (hl : l.length ≤ 1048576) (hlen : (l.flatMap encF).length ≤ 1099511627776) (hlo : ∀ x ∈ l, 0 ≤ x ∧ x < 18446744073709551616) :
    Calls Try.prog 8 #[.int .i64 b, .slice A l.length c] w (Wrote w (l.flatMap encF)) := by
  have hx := hid (writtenPutFloat64 A c l encF b N w hr hb hN hN1 hl hlen (fun t p out x w hx h hl => closurePutFloat64 t p N out x w h hl (hlo x hx).1 (hlo x hx).2))
  clear hr hb hN hN1 hl hlen hlo
  go_enter Try.func8, Try.ntmps8
  go_wp2_with (go_at_call 16; refine hx.out.mono ?_; rintro e w1 ⟨v, rfl, ho, hf, hch⟩)
  go_ret2
  exact ⟨v, rfl, ho, hf, hch⟩
set_option maxHeartbeats 400000 in
theorem closurePutArrayHead (t p N : Nat) (out : List Int) (x : Int) (w : World) (h : WrTo t p t N out w) (hl : out.length ≤ 1099511627776) (h0 : 0 ≤ x) (h1 : x < 4294967296) :
    Calls Try.prog 23 #[.pointer (some ⟨p, 0, none⟩), .int .u32 x] w (WEnd t p t N w (out ++ (encArr x))) := by
  go_enter Try.func23, Try.ntmps23
  go_wp2_with (go_at_call 24; refine (wArr t p t N out x w h hl h0 h1).mono ?_; rintro e w1 ⟨rfl, hto, hch⟩)
  go_ret
  exact ⟨rfl, hto, hch⟩
set_option maxHeartbeats 1000000 in
theorem writtenPutArrayHead (A : Option Addr) (c : Nat) (l : List Int) (enc : Int → List Int) (b : Int) (N : Nat) (w : World) (hr : Rd (Value.int .u32) w A l) (hb : b = N) (hN : 18 ≤ N) (hN1 : N ≤ 65536) (hl : l.length ≤ 1048576) (hlen : (l.flatMap enc).length ≤ 1099511627776)
    (hcl : ∀ (t p : Nat) (out : List Int) (x : Int) (w : World), x ∈ l → WrTo t p t N out w → out.length ≤ 1099511627776 → Calls Try.prog 23 #[.pointer (some ⟨p, 0, none⟩), .int .u32 x] w (WEnd t p t N w (out ++ enc x))) :
    Calls Try.prog 22 #[.int .i64 b, .slice A l.length c, .func (.func 23) #[] #[]] w (Wrote w (l.flatMap enc)) := by
  subst hb
  have hmx : max (N : Int) 0 = N := by omega
  have hmn : min (N : Int) 65536 = N := by omega
  have hz := zero_text
  go_enter Try.func22, Try.ntmps22
  go_wp2_with (first | (go_at_call 35; refine (newSize_calls w.heap.size N _ (Row.alloc w [.slice none 0 0] 74) hN hN1).mono ?_; rintro e w2 ⟨p, rfl, hto, hch⟩))
  go_loopg [19] l.length (fun k s19 wr => ∃ i : Nat, k + i = l.length ∧ s19 = .int .i64 i ∧ WrTo w.heap.size p w.heap.size N ((l.take i).flatMap enc) wr ∧ Ch No w wr)
  case atStart => exact ⟨0, by omega, rfl, hto, ((Ch.refl No w).alloc _).trans hch (fun _ h => h) (fun _ h => absurd h id)⟩
  case round =>
    obtain ⟨i, hki, rfl, hto2, hch2⟩ := hrel
    by_cases hi : i < l.length
    · obtain ⟨b, o, rfl, hcell⟩ := (hr.keep0 hch2).at_ i hi
      have hx := hid (hcl w.heap.size p _ l[i] wr (List.getElem_mem hi) hto2 (by have := flat_take enc l i; omega))
      clear hcl hto2 hto hr
      have hi' : (i : Int) < l.length := by omega
      have hi0 : (0 : Int) ≤ i := by omega
      go_wp2_with (first | (go_at_call 23; refine hx.out.mono ?_; rintro e w3 ⟨rfl, hto3, hch3⟩))
      go_roundg (gk - 1)
      case measure => omega
      case rel => exact ⟨i + 1, by omega, by go_num, by rw [List.take_succ_eq_append_getElem hi, List.flatMap_append]; simpa using hto3, hch2.from_ hch3 (Nat.le_refl _)⟩
    · obtain rfl : i = l.length := by omega
      clear hcl
      rw [List.take_length] at hto2
      go_wp2_with (first | (go_at_call 36; refine (flush_end w.heap.size p N _ _ hto2 hlen).mono ?_; rintro e w3 ⟨rfl, ⟨v, hrow, how, hbv⟩, hch3⟩; have hc0 := hrow.cell 0 _ rfl))
      go_ret2
      exact ⟨v, rfl, how, hbv, hch2.from_ hch3 (Nat.le_refl _)⟩
set_option maxHeartbeats 400000 in
theorem streamPutArrayHead (A : Option Addr) (c : Nat) (l : List Int) (b : Int) (N : Nat) (w : World) (hr : Rd (Value.int .u32) w A l) (hb : b = N) (hN : 18 ≤ N) (hN1 : N ≤ 65536) (hl : l.length ≤ 1048576) (hlen : (l.flatMap encArr).length ≤ 1099511627776) (hlo : ∀ x ∈ l, 0 ≤ x ∧ x < 4294967296) :
    Calls Try.prog 11 #[.int .i64 b, .slice A l.length c] w (Wrote w (l.flatMap encArr)) := by
  have hx := hid (writtenPutArrayHead A c l encArr b N w hr hb hN hN1 hl hlen (fun t p out x w hx h hl => closurePutArrayHead t p N out x w h hl (hlo x hx).1 (hlo x hx).2))
  clear hr hb hN hN1 hl hlen hlo
  go_enter Try.func11, Try.ntmps11
  go_wp2_with (go_at_call 22; refine hx.out.mono ?_; rintro e w1 ⟨v, rfl, ho, hf, hch⟩)
  go_ret2
  exact ⟨v, rfl, ho, hf, hch⟩

end Go.Proofs.Ytdpgbekcjegooaa
