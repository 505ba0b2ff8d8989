/- What an array of AMQP is, in bytes; that it is read as one; the walk of what writes its head. No condition. -/
import Derived.Test.YtckjclkpgdhcoaaDoorAmpK2
import Derived.Test.YtckjclkpgdhcoaaDoorAmpW
namespace Go.Proofs.YtckjclkpgdhcoaaDoor
set_option linter.unusedVariables false
set_option linter.unusedSimpArgs false
open Go.RowKit

def hdrB (n S ec : Int) : List Int := if n * S + 2 ≤ 255 then [224, n * S + 2, n, ec] else 240 :: (be4 (n * S + 5) ++ (be4 n ++ [ec]))
theorem flat_S {E : It → List Int} {S : Nat} : ∀ {q : List It}, (∀ x ∈ q, (E x).length = S) → (q.flatMap E).length = q.length * S
  | [], _ => by simp
  | x :: q, h => by
    rw [List.flatMap_cons, List.length_append, h x (by simp), flat_S fun y hy => h y (List.mem_cons_of_mem _ hy), List.length_cons, Nat.succ_mul]
    omega
theorem within_q (ec kk ss : Int) (S : Nat) (E : It → List Int) (q : List It) (sz : Nat) (hd : List Int) (hE : Elem 7 ec S E q) (hkind : ∀ w, Calls Tryd.prog 45 #[.int .i64 ec] w fun e w' => e = .returned (.tuple #[.int .i64 kk, .int .i64 ss, .bool true]) ∧ Ch No w w') (hsz : hd.length = sz) (hs0 : 0 < sz) (hs8 : sz ≤ 8) (hcnt : beN hd = q.length) (hbd : Byt hd) (he0 : 0 < ec) (he1 : ec < 256) (hq : q.length ≤ 1048576) (hlen : (hd ++ ec :: q.flatMap E).length ≤ 1099511627776) (A : Option Addr) (c : Nat) (w : World)
    (hr : Rd u8 w A (hd ++ ec :: q.flatMap E)) (hc : (hd ++ ec :: q.flatMap E).length ≤ c) :
    Calls Tryd.prog 47 #[av 23 0 ⟨#[]⟩ (.slice none 0 0), .int .u64 (hd ++ ec :: q.flatMap E).length, .int .i64 sz, .slice A (hd ++ ec :: q.flatMap E).length c, .int .i64 8] w (AOkV w A (hd ++ ec :: q.flatMap E) (hd ++ ec :: q.flatMap E).length c 23 0 ⟨#[]⟩ q.length (q.flatMap It.c)) := by
  by_cases h0 : 0 < q.length
  · exact within_arr 8 ec S E q sz A c hd w hE hsz hs0 hs8 hcnt hbd he0 he1 (by omega) (by omega) hq h0 hlen hr hc
  · obtain rfl : q = [] := List.eq_nil_of_length_eq_zero (by omega)
    exact within_nil 8 ec kk ss sz A c hd w hkind hsz hs0 hs8 hcnt hbd he0 he1 (by omega) (by omega) hlen hr hc
theorem tv_arr (ec kk ss : Int) (S : Nat) (E : It → List Int) (q : List It) (hE : Elem 7 ec S E q) (hkind : ∀ w, Calls Tryd.prog 45 #[.int .i64 ec] w fun e w' => e = .returned (.tuple #[.int .i64 kk, .int .i64 ss, .bool true]) ∧ Ch No w w') (he0 : 0 < ec) (he1 : ec < 256) (hq : q.length ≤ 1000) (hS0 : 0 < S) (hS : S ≤ 16) :
    TV 8 (hdrB q.length S ec ++ q.flatMap E) 23 0 ⟨#[]⟩ q := fun A c w hr hc => by
  have hfl := flat_S hE.len
  have hbE : Byt (q.flatMap E) := byt_flatE hE.byt
  have hmul : q.length * S ≤ 1000 * 16 := Nat.mul_le_mul hq hS
  have hmul1 : q.length ≤ q.length * S := Nat.le_mul_of_pos_right _ hS0
  obtain ⟨x, hx⟩ : ∃ x : Nat, x = q.length * S := ⟨_, rfl⟩
  have hxi : (q.length : Int) * S = x := by rw [hx]; simp
  rw [← hx] at hfl hmul hmul1
  unfold hdrB at hr hc ⊢
  rw [hxi] at hr hc ⊢
  by_cases h : (x : Int) + 2 ≤ 255
  · simp only [if_pos h] at hr hc ⊢
    have e : ([224, (x : Int) + 2, (q.length : Int), ec] ++ q.flatMap E) = 224 :: ([(x : Int) + 2] ++ ([(q.length : Int)] ++ ec :: q.flatMap E)) := by simp
    rw [e] at hr hc ⊢
    obtain ⟨bk, off, rfl, _⟩ := hr.at_ 0 (by simp)
    have hb : Byt ([(x : Int) + 2] ++ ([(q.length : Int)] ++ ec :: q.flatMap E)) := by
      refine Byt.cons (by omega) (by omega) (Byt.cons (by omega) (by omega) (Byt.cons (by omega) he1 hbE))
    have hT := takeVal bk off c 224 ([(x : Int) + 2] ++ ([(q.length : Int)] ++ ec :: q.flatMap E)) 8 w hr (by omega) (by omega) hc (by omega) (n := ([(x : Int) + 2] ++ ([(q.length : Int)] ++ ec :: q.flatMap E)).length) (fun A' c' w' h1 h2 => takeArr_224 A' c' q.length [(x : Int) + 2] ([(q.length : Int)] ++ ec :: q.flatMap E) 8 (q.flatMap It.c) w' rfl (by rw [beN_1]; simp [hfl]; omega) hb (by simp [hfl]; omega) h1 h2 (fun A'' c'' w'' h3 h4 => within_q ec kk ss S E q 1 [(q.length : Int)] hE hkind rfl (by omega) (by omega) (by rw [beN_1]) (Byt.nil.cons (by omega) (by omega)) he0 he1 (by omega) (by simp [hfl]; omega) A'' c'' w'' h3 h4))
    rw [Nat.add_comm 1] at hT
    exact hT
  · simp only [if_neg h] at hr hc ⊢
    have e : (240 :: (be4 ((x : Int) + 5) ++ (be4 (q.length : Int) ++ [ec])) ++ q.flatMap E) = 240 :: (be4 ((x : Int) + 5) ++ (be4 (q.length : Int) ++ ec :: q.flatMap E)) := by simp
    rw [e] at hr hc ⊢
    obtain ⟨bk, off, rfl, _⟩ := hr.at_ 0 (by simp)
    have hb : Byt (be4 ((x : Int) + 5) ++ (be4 (q.length : Int) ++ ec :: q.flatMap E)) := (byt_be4 (by omega) (by omega)).append ((byt_be4 (by omega) (by omega)).append (Byt.cons (by omega) he1 hbE))
    have hT := takeVal bk off c 240 (be4 ((x : Int) + 5) ++ (be4 (q.length : Int) ++ ec :: q.flatMap E)) 8 w hr (by omega) (by omega) hc (by omega) (n := (be4 ((x : Int) + 5) ++ (be4 (q.length : Int) ++ ec :: q.flatMap E)).length) (fun A' c' w' h1 h2 => takeArr_240 A' c' q.length (be4 ((x : Int) + 5)) (be4 (q.length : Int) ++ ec :: q.flatMap E) 8 (q.flatMap It.c) w' rfl (by rw [beN_be4]; simp [hfl, be4]; omega) hb (by simp [hfl, be4]; omega) h1 h2 (fun A'' c'' w'' h3 h4 => within_q ec kk ss S E q 4 (be4 (q.length : Int)) hE hkind rfl (by omega) (by omega) (by rw [beN_be4]) (byt_be4 (by omega) (by omega)) he0 he1 (by omega) (by simp [hfl, be4]; omega) A'' c'' w'' h3 h4))
    rw [Nat.add_comm 1] at hT
    exact hT
set_option maxHeartbeats 1000000 in
theorem arrHead_1 (base p : Nat) (l : List Int) (n ec : Int) (w : World) (hB : Bf base p l w) (hl : l.length ≤ 1099511620000) (hn0 : 0 ≤ n) (hn : n ≤ 1000) (he0 : 0 < ec) (he1 : ec < 256) :
    Calls Tryd.prog 36 #[.pointer (some ⟨p, 0, none⟩), .int .i64 n, .int .i64 1, .int .u8 ec] w (BfTo base p (l ++ hdrB n 1 ec) w) := by
  unfold hdrB
  by_cases h : n * 1 + 2 ≤ 255
  · have hd : decide (n + 2 ≤ 255) = true := decide_eq_true (by omega)
    rw [if_pos h]
    go_enter Tryd.func36, Tryd.ntmps36
    go_wp2_with (go_at_call 37; refine (bufAppend base p l _ _ 4 [224, n + 2, n, ec] _ (hB.keep0 ((Ch.refl No w).alloc _)) (by omega) ((Row.alloc w [u8 224, u8 (n + 2), u8 n, u8 ec] 5).rd (l := [224, n + 2, n, ec]) rfl) rfl (by omega)).mono ?_; rintro e w1 ⟨rfl, hB1, hch1⟩)
    first | go_end0 | refine bodyPost_ret (results_none rfl _ _ _) rfl ?_
    exact ⟨rfl, by simpa using hB1, ((Ch.refl (From base) w).alloc _).from_from hch1⟩
  · have hd : decide (n + 2 ≤ 255) = false := decide_eq_false (by omega)
    rw [if_neg h]
    go_enter Tryd.func36, Tryd.ntmps36
    go_wp2_with fail
    refine (bufByte base p l _ w hB (by omega)).mono ?_
    rintro e w1 ⟨rfl, hB1, hch1⟩
    go_wp2_with fail
    refine (buf32 base p _ _ w1 hB1 (by simp; omega) (by omega) (by omega)).mono ?_
    rintro e w2 ⟨rfl, hB2, hch2⟩
    go_wp2_with fail
    refine (buf32 base p _ _ w2 hB2 (by simp [be4]; omega) (by omega) (by omega)).mono ?_
    rintro e w3 ⟨rfl, hB3, hch3⟩
    go_wp2_with fail
    refine (bufByte base p _ _ w3 hB3 (by simp [be4]; omega)).mono ?_
    rintro e w4 ⟨rfl, hB4, hch4⟩
    go_wp2_with fail
    first | go_end0 | refine bodyPost_ret (results_none rfl _ _ _) rfl ?_
    exact ⟨rfl, by simpa using hB4, ((hch1.from_from hch2).from_from hch3).from_from hch4⟩
set_option maxHeartbeats 1000000 in
theorem arrHead_2 (base p : Nat) (l : List Int) (n ec : Int) (w : World) (hB : Bf base p l w) (hl : l.length ≤ 1099511620000) (hn0 : 0 ≤ n) (hn : n ≤ 1000) (he0 : 0 < ec) (he1 : ec < 256) :
    Calls Tryd.prog 36 #[.pointer (some ⟨p, 0, none⟩), .int .i64 n, .int .i64 2, .int .u8 ec] w (BfTo base p (l ++ hdrB n 2 ec) w) := by
  unfold hdrB
  by_cases h : n * 2 + 2 ≤ 255
  · have hd : decide (n * 2 + 2 ≤ 255) = true := decide_eq_true (by omega)
    rw [if_pos h]
    go_enter Tryd.func36, Tryd.ntmps36
    go_wp2_with (go_at_call 37; refine (bufAppend base p l _ _ 4 [224, n * 2 + 2, n, ec] _ (hB.keep0 ((Ch.refl No w).alloc _)) (by omega) ((Row.alloc w [u8 224, u8 (n * 2 + 2), u8 n, u8 ec] 5).rd (l := [224, n * 2 + 2, n, ec]) rfl) rfl (by omega)).mono ?_; rintro e w1 ⟨rfl, hB1, hch1⟩)
    first | go_end0 | refine bodyPost_ret (results_none rfl _ _ _) rfl ?_
    exact ⟨rfl, by simpa using hB1, ((Ch.refl (From base) w).alloc _).from_from hch1⟩
  · have hd : decide (n * 2 + 2 ≤ 255) = false := decide_eq_false (by omega)
    rw [if_neg h]
    go_enter Tryd.func36, Tryd.ntmps36
    go_wp2_with fail
    refine (bufByte base p l _ w hB (by omega)).mono ?_
    rintro e w1 ⟨rfl, hB1, hch1⟩
    go_wp2_with fail
    refine (buf32 base p _ _ w1 hB1 (by simp; omega) (by omega) (by omega)).mono ?_
    rintro e w2 ⟨rfl, hB2, hch2⟩
    go_wp2_with fail
    refine (buf32 base p _ _ w2 hB2 (by simp [be4]; omega) (by omega) (by omega)).mono ?_
    rintro e w3 ⟨rfl, hB3, hch3⟩
    go_wp2_with fail
    refine (bufByte base p _ _ w3 hB3 (by simp [be4]; omega)).mono ?_
    rintro e w4 ⟨rfl, hB4, hch4⟩
    go_wp2_with fail
    first | go_end0 | refine bodyPost_ret (results_none rfl _ _ _) rfl ?_
    exact ⟨rfl, by simpa using hB4, ((hch1.from_from hch2).from_from hch3).from_from hch4⟩
set_option maxHeartbeats 1000000 in
theorem arrHead_8 (base p : Nat) (l : List Int) (n ec : Int) (w : World) (hB : Bf base p l w) (hl : l.length ≤ 1099511620000) (hn0 : 0 ≤ n) (hn : n ≤ 1000) (he0 : 0 < ec) (he1 : ec < 256) :
    Calls Tryd.prog 36 #[.pointer (some ⟨p, 0, none⟩), .int .i64 n, .int .i64 8, .int .u8 ec] w (BfTo base p (l ++ hdrB n 8 ec) w) := by
  unfold hdrB
  by_cases h : n * 8 + 2 ≤ 255
  · have hd : decide (n * 8 + 2 ≤ 255) = true := decide_eq_true (by omega)
    rw [if_pos h]
    go_enter Tryd.func36, Tryd.ntmps36
    go_wp2_with (go_at_call 37; refine (bufAppend base p l _ _ 4 [224, n * 8 + 2, n, ec] _ (hB.keep0 ((Ch.refl No w).alloc _)) (by omega) ((Row.alloc w [u8 224, u8 (n * 8 + 2), u8 n, u8 ec] 5).rd (l := [224, n * 8 + 2, n, ec]) rfl) rfl (by omega)).mono ?_; rintro e w1 ⟨rfl, hB1, hch1⟩)
    first | go_end0 | refine bodyPost_ret (results_none rfl _ _ _) rfl ?_
    exact ⟨rfl, by simpa using hB1, ((Ch.refl (From base) w).alloc _).from_from hch1⟩
  · have hd : decide (n * 8 + 2 ≤ 255) = false := decide_eq_false (by omega)
    rw [if_neg h]
    go_enter Tryd.func36, Tryd.ntmps36
    go_wp2_with fail
    refine (bufByte base p l _ w hB (by omega)).mono ?_
    rintro e w1 ⟨rfl, hB1, hch1⟩
    go_wp2_with fail
    refine (buf32 base p _ _ w1 hB1 (by simp; omega) (by omega) (by omega)).mono ?_
    rintro e w2 ⟨rfl, hB2, hch2⟩
    go_wp2_with fail
    refine (buf32 base p _ _ w2 hB2 (by simp [be4]; omega) (by omega) (by omega)).mono ?_
    rintro e w3 ⟨rfl, hB3, hch3⟩
    go_wp2_with fail
    refine (bufByte base p _ _ w3 hB3 (by simp [be4]; omega)).mono ?_
    rintro e w4 ⟨rfl, hB4, hch4⟩
    go_wp2_with fail
    first | go_end0 | refine bodyPost_ret (results_none rfl _ _ _) rfl ?_
    exact ⟨rfl, by simpa using hB4, ((hch1.from_from hch2).from_from hch3).from_from hch4⟩
set_option maxHeartbeats 1000000 in
theorem arrHead_16 (base p : Nat) (l : List Int) (n ec : Int) (w : World) (hB : Bf base p l w) (hl : l.length ≤ 1099511620000) (hn0 : 0 ≤ n) (hn : n ≤ 1000) (he0 : 0 < ec) (he1 : ec < 256) :
    Calls Tryd.prog 36 #[.pointer (some ⟨p, 0, none⟩), .int .i64 n, .int .i64 16, .int .u8 ec] w (BfTo base p (l ++ hdrB n 16 ec) w) := by
  unfold hdrB
  by_cases h : n * 16 + 2 ≤ 255
  · have hd : decide (n * 16 + 2 ≤ 255) = true := decide_eq_true (by omega)
    rw [if_pos h]
    go_enter Tryd.func36, Tryd.ntmps36
    go_wp2_with (go_at_call 37; refine (bufAppend base p l _ _ 4 [224, n * 16 + 2, n, ec] _ (hB.keep0 ((Ch.refl No w).alloc _)) (by omega) ((Row.alloc w [u8 224, u8 (n * 16 + 2), u8 n, u8 ec] 5).rd (l := [224, n * 16 + 2, n, ec]) rfl) rfl (by omega)).mono ?_; rintro e w1 ⟨rfl, hB1, hch1⟩)
    first | go_end0 | refine bodyPost_ret (results_none rfl _ _ _) rfl ?_
    exact ⟨rfl, by simpa using hB1, ((Ch.refl (From base) w).alloc _).from_from hch1⟩
  · have hd : decide (n * 16 + 2 ≤ 255) = false := decide_eq_false (by omega)
    rw [if_neg h]
    go_enter Tryd.func36, Tryd.ntmps36
    go_wp2_with fail
    refine (bufByte base p l _ w hB (by omega)).mono ?_
    rintro e w1 ⟨rfl, hB1, hch1⟩
    go_wp2_with fail
    refine (buf32 base p _ _ w1 hB1 (by simp; omega) (by omega) (by omega)).mono ?_
    rintro e w2 ⟨rfl, hB2, hch2⟩
    go_wp2_with fail
    refine (buf32 base p _ _ w2 hB2 (by simp [be4]; omega) (by omega) (by omega)).mono ?_
    rintro e w3 ⟨rfl, hB3, hch3⟩
    go_wp2_with fail
    refine (bufByte base p _ _ w3 hB3 (by simp [be4]; omega)).mono ?_
    rintro e w4 ⟨rfl, hB4, hch4⟩
    go_wp2_with fail
    first | go_end0 | refine bodyPost_ret (results_none rfl _ _ _) rfl ?_
    exact ⟨rfl, by simpa using hB4, ((hch1.from_from hch2).from_from hch3).from_from hch4⟩

end Go.Proofs.YtckjclkpgdhcoaaDoor
