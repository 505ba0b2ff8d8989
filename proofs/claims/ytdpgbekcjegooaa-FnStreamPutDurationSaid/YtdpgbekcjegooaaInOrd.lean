/- The walk of laws.inOrder: values written one behind the other are read back in order. No condition. -/
import Derived.Test.YtdpgbekcjegooaaPacks
import Derived.Test.YtdpgbekcjegooaaTakeP
import Derived.Test.YtdpgbekcjegooaaSame
namespace Go.Proofs.Ytdpgbekcjegooaa
set_option linter.unusedVariables false
set_option linter.unusedSimpArgs false
open Go.RowKit

theorem flat5 (f : Int → List Value) (h5 : ∀ x, (f x).length = 5) : ∀ (l : List Int) (i : Nat) (hi : i < l.length) (j : Nat), j < 5 → (l.flatMap f)[i * 5 + j]? = (f l[i])[j]?
  | [], i, hi, _, _ => absurd hi (by simp)
  | x :: l, 0, _, j, hj => by
    rw [List.flatMap_cons, Nat.zero_mul, Nat.zero_add, List.getElem?_append_left (by rw [h5]; exact hj)]
    rfl
  | x :: l, i + 1, hi, j, hj => by
    rw [List.flatMap_cons, List.getElem?_append_right (by rw [h5]; omega), h5, show (i + 1) * 5 + j - 5 = i * 5 + j by omega]
    exact flat5 f h5 l i (by simpa using hi) j hj
set_option maxRecDepth 100000 in
set_option maxHeartbeats 1000000 in
theorem inOrd (enc : Int → List Int) (kd num kr nr : Int → Int) (A B : Option Addr) (c cb : Nat) (l : List Int) (w : World) (hr : Rd u8 w A (l.flatMap enc)) (hq : OwP w (.slice B l.length cb) l.length (l.flatMap fun x => pkc (kd x) (num x))) (hc : (l.flatMap enc).length ≤ c) (hll : l.length ≤ 1048576) (hlen : (l.flatMap enc).length ≤ 35184372088832)
    (hbyt : ∀ x ∈ l, Byt (enc x)) (hread : ∀ x ∈ l, Reads (enc x) (kr x) (nr x) ⟨#[]⟩ 0)
    (hsame : ∀ x ∈ l, ∀ w, Calls Try.prog 21 #[pk (kd x) (num x) ⟨#[]⟩ 0, pk (kr x) (nr x) ⟨#[]⟩ 0] w fun e w' => e = .returned (.bool true) ∧ Ch No w w') :
    Calls Try.prog 10 #[.slice A (l.flatMap enc).length c, .bool true, .slice B l.length cb] w fun e w' => e = .returned (.bool true) ∧ Ch No w w' := by
  go_enter Try.func10, Try.ntmps10
  go_wp2_with fail
  go_loopg [0, 14] l.length (fun k s0 s14 wr => ∃ (i : Nat) (A' : Option Addr) (c' : Nat), k + i = l.length ∧ s14 = .int .i64 i ∧ s0 = .slice A' ((l.drop i).flatMap enc).length c' ∧ ((l.drop i).flatMap enc).length ≤ c' ∧ ((l.drop i).flatMap enc).length ≤ 35184372088832 ∧ Rd Go.Proofs.Ytdpgbekcjegooaa.u8 wr A' ((l.drop i).flatMap enc) ∧ Ch No w wr)
  case atStart => exact ⟨0, A, c, by omega, rfl, rfl, hc, hlen, hr, Ch.refl _ _⟩
  case round =>
    obtain ⟨i, A', c', hki, rfl, rfl, hc', hlen', hr', hch⟩ := hrel
    clear hr hc hlen
    by_cases hi : i < l.length
    · obtain ⟨g, rfl, hcells⟩ := (hq.keep0 hch).cell (by omega)
      have hcj : ∀ j u, (pkc (kd l[i]) (num l[i]))[j]? = some u → j < 5 → wr.cell? ⟨g, i * 5 + j, none⟩ = some u := fun j u hu hj => hcells _ u (by rw [flat5 _ (fun _ => rfl) l i hi j hj]; exact hu)
      have hb : Byt ((l.drop (i + 1)).flatMap enc) := byt_flat fun x h => hbyt x (List.mem_of_mem_drop h)
      have hx' := hread l[i] (List.getElem_mem hi)
      have hs' := hsame l[i] (List.getElem_mem hi)
      rw [List.drop_eq_getElem_cons hi, List.flatMap_cons] at hr' hc' hlen' ⊢
      have hfin : ∀ (w' : World) (A' : Option Addr) (c' : Nat), Ch No w w' → ((l.drop (i + 1)).flatMap enc).length ≤ c' → ((l.drop (i + 1)).flatMap enc).length ≤ 35184372088832 → Rd Go.Proofs.Ytdpgbekcjegooaa.u8 w' A' ((l.drop (i + 1)).flatMap enc) → Hid (∃ (i' : Nat) (A'' : Option Addr) (c'' : Nat), gk - 1 + i' = l.length ∧ Value.int .i64 ((i : Int) + 1) = .int .i64 i' ∧ Value.slice A' ((l.drop (i + 1)).flatMap enc).length c' = .slice A'' ((l.drop i').flatMap enc).length c'' ∧ ((l.drop i').flatMap enc).length ≤ c'' ∧ ((l.drop i').flatMap enc).length ≤ 35184372088832 ∧ Rd Go.Proofs.Ytdpgbekcjegooaa.u8 w' A'' ((l.drop i').flatMap enc) ∧ Ch No w w') := fun _ _ _ h1 h2 h3 h4 => ⟨i + 1, _, _, by omega, by go_num, rfl, h2, h3, h4, h1⟩
      have hgk : gk - 1 < gk := by omega
      generalize (l.drop (i + 1)).flatMap enc = rest at hr' hc' hlen' hb hfin ⊢
      generalize l[i] = x at hr' hc' hlen' hx' hs' hcj ⊢
      have hi' : (i : Int) < l.length := by omega
      have hi0 : (0 : Int) ≤ i := by omega
      have hx' := hx' rest 2 A' c' (wr.alloc (.cells #[.int .i64 (kd x), .int .u64 (num x), .string ⟨#[]⟩, .int .i64 0, .slice none 0 0] 30)) hb (by omega) (hr'.keep0 ((Ch.refl _ _).alloc _)) hc' hlen'
      have hrow := Row.alloc wr (pkc (kd x) (num x)) 30
      obtain ⟨m, hm⟩ : ∃ m, (enc x ++ rest).length = m := ⟨_, rfl⟩
      rw [hm] at hx' hc' hlen' ⊢
      have HX := hid hx'
      have HS := hid hs'
      have HM := hid hm
      have HF := hid hfin
      have HG := hid hgk
      have HC := hid hch
      have HR := hid hr'
      have HL := hid hc'
      have HN := hid hlen'
      have d0 : wr.cell? ⟨g, i * 5, none⟩ = some (.int .i64 (kd x)) := hcj 0 _ rfl (by omega)
      have d1 : wr.cell? ⟨g, i * 5 + 1, none⟩ = some (.int .u64 (num x)) := hcj 1 _ rfl (by omega)
      have d2 : wr.cell? ⟨g, i * 5 + 2, none⟩ = some (.string ⟨#[]⟩) := hcj 2 _ rfl (by omega)
      have d3 : wr.cell? ⟨g, i * 5 + 3, none⟩ = some (.int .i64 0) := hcj 3 _ rfl (by omega)
      have d4 : wr.cell? ⟨g, i * 5 + 4, none⟩ = some (.slice none 0 0) := hcj 4 _ rfl (by omega)
      clear hx' hs' hm hfin hgk hch hr' hc' hlen' hki hi hq hread hsame hbyt hcells hcj
      have HW := hid hrow
      clear hrow
      go_upto_region 5 with (first | (go_at_call 20; refine HX.out.mono ?_; rintro e w4 ⟨hch4, A4, rfl, hcut⟩; obtain ⟨j, hj⟩ : ∃ j, (enc x ++ rest).length - (enc x).length = j := ⟨_, rfl⟩; rw [hj]; have HJ := hid hj; clear hj; have HK := hid hcut; clear hcut; unfold pk))
      unfold pk at HS
      have hrow5 := (HW.out.keep0 hch4).keep0 ((Ch.refl No w4).alloc (.cells #[.int .i64 (kr x), .int .u64 (nr x), .string ⟨#[]⟩, .int .i64 0, .slice none 0 0] 30))
      obtain ⟨e0, e1, e2, e3, e4⟩ := pk_cells hrow5
      obtain ⟨f0, f1, f2, f3, f4⟩ := pk_cells (Row.alloc w4 [.int .i64 (kr x), .int .u64 (nr x), .string ⟨#[]⟩, .int .i64 0, .slice none 0 0] 30)
      clear d0 d1 d2 d3 d4 hrow5
      go_wp2_with (first | (go_at_call 21; refine (HS.out _).mono ?_; rintro e w5 ⟨rfl, hch5⟩))
      go_roundg (gk - 1)
      case measure => exact HG.out
      case rel =>
        have hm := HM.out
        have hl := HL.out
        have hn := HN.out
        rw [List.length_append] at hm
        obtain rfl : j = rest.length := by have := HJ.out; rw [List.length_append] at this; omega
        have hch6 : Ch No wr w5 := (((Ch.refl No wr).alloc _).no_no hch4).no_no (((Ch.refl No w4).alloc _).no_no hch5)
        have hrd := HK.out.drop (HR.out.keep0 ((Ch.refl No wr).alloc (.cells #[.int .i64 (kd x), .int .u64 (num x), .string ⟨#[]⟩, .int .i64 0, .slice none 0 0] 30))) rfl (by rw [HM.out]; exact hl)
        rw [List.drop_left] at hrd
        exact (HF.out w5 A4 (c' - (enc x).length) (HC.out.no_no hch6) (by omega) (by omega) ((hrd.keep0 hch4).keep0 (((Ch.refl No w4).alloc _).no_no hch5))).out
    · obtain rfl : i = l.length := by omega
      clear hread hsame hbyt hq hr' hlen'
      rw [List.drop_length] at hc' ⊢
      go_wp2_with fail
      go_ret
      exact ⟨rfl, hch⟩
end Go.Proofs.Ytdpgbekcjegooaa
