/- The walks of the laws that a number of AMQP is written as one. No condition. -/
import Derived.Test.YtckjclkpgdhcoaaDoorAmpS
import Derived.Test.YtckjclkpgdhcoaaDoorAmpW
namespace Go.Proofs.YtckjclkpgdhcoaaDoor
set_option linter.unusedVariables false
set_option linter.unusedSimpArgs false
open Go.RowKit

/-- The bytes L are read as one value, whole. -/
def TV (lv : Int) (L : List Int) (k n : Int) (s : ByteArray) (q : List It) : Prop :=
  ∀ (A : Option Addr) (c : Nat) (w : World), Rd u8 w A L → L.length ≤ c → Calls Tryd.prog 23 #[.slice A L.length c, .int .i64 lv] w (AOkV w A L L.length c k n s q.length (q.flatMap It.c))
theorem tv_num {lv code : Int} {r : List Int} {k num : Int} (hlv : 0 < lv) (h0 : 0 < code) (h1 : code < 256)
    (ht : ∀ (A' : Option Addr) (c' : Nat) (w' : World), Rd u8 w' A' r → r.length ≤ c' → Calls Tryd.prog 34 #[cons code, .slice A' r.length c', .int .i64 lv] w' (AOk w' A' r r.length c' (av k num ⟨#[]⟩ (.slice none 0 0)))) : TV lv (code :: r) k num ⟨#[]⟩ [] := fun A c w hr hc => by
  obtain ⟨bk, off, rfl, _⟩ := hr.at_ 0 (by simp)
  have h := takeVal bk off c code r lv w hr h0 h1 hc hlv (n := r.length) (m := 0) (cells := []) (fun A' c' w' h1 h2 => (ht A' c' w' h1 h2).mono fun e w' h => h.v)
  rw [show 1 + r.length = r.length + 1 from Nat.add_comm _ _] at h
  exact h
theorem tv_114 (N : Int) (h0 : 0 ≤ N) (h1 : N < 4294967296) : TV 8 (114 :: be4 N) 10 N ⟨#[]⟩ [] :=
  tv_num (by omega) (by omega) (by omega) fun A c w hr hc => by
    have h := take_114 A c (be4 N) 8 w hr (byt_be4 h0 h1) hc (by simp [be4])
    rwa [List.take_of_length_le (by simp [be4]), beN_be4] at h
theorem tv_ulong (n : Int) (h0 : 0 ≤ n) (h1 : n < 18446744073709551616) : TV 8 (encUl n) 5 n ⟨#[]⟩ [] := by
  unfold encUl
  split
  · rename_i hz
    subst hz
    exact tv_num (by omega) (by omega) (by omega) fun A c w hr hc => take_68 A c [] 8 w hr Byt.nil hc (by simp)
  · split
    · refine tv_num (by omega) (by omega) (by omega) fun A c w hr hc => ?_
      have h := take_83 A c [n] 8 w hr (Byt.nil.cons h0 (by omega)) hc (by simp)
      rwa [List.take_of_length_le (by simp), beN_1] at h
    · refine tv_num (by omega) (by omega) (by omega) fun A c w hr hc => ?_
      have h := take_128 A c (be8 n) 8 w hr (byt_be8 h0 h1) hc (by simp [be8])
      rwa [List.take_of_length_le (by simp [be8]), beN_be8] at h
set_option maxRecDepth 100000 in
set_option maxHeartbeats 2000000 in
theorem wrote_yes (A B : Option Addr) (c cb : Nat) (L : List Int) (k n : Int) (s : ByteArray) (q : List It) (w : World) (hr : Rd u8 w A L) (hc : L.length ≤ c) (hB : RdV w B q) (hq : q.length ≤ 1048576) (ht : TV 8 L k n s q) :
    Calls Tryd.prog 10 #[.slice A L.length c, .bool true, av k n s (.slice B q.length cb)] w fun e w' => e = .returned (.bool true) ∧ Ch No w w' := by
  have HT := hid ht
  have HB := hid hB
  have K0 := Row.alloc w (avc k n s (.slice B q.length cb)) 30
  have HK := hid K0
  clear ht hB K0
  unfold av
  go_enter Tryd.func10, Tryd.ntmps10
  go_wp2_with (first | (go_at_call 23; refine (HT.out A c _ (hr.keep0 ((Ch.refl No w).alloc _)) hc).mono ?_; rintro e w1 ⟨HC1, A1, kids, of, rfl, _, how, hfr⟩; obtain ⟨KA, kc, rfl⟩ := how.slice; unfold avo; have HW := hid how.rd; clear how hfr; obtain ⟨k0, k1, k2, k3, k4, k5⟩ := av_cells ((HK.out.keep0 HC1).keep0 ((Ch.refl No w1).alloc (.cells #[.int .i64 k, .int .u64 n, .string s, .slice KA q.length kc, .int .i64 of, .slice none 0 0] 30))); have HC2 := hid HC1; clear HC1) | (go_at_call 24; have hs := sameV_list k n of s B KA cb kc q (w1.alloc (.cells (avoc k n s (.slice KA q.length kc) of).toArray 30)) ((HB.out.keep0 (((Ch.refl No w).alloc _).no_no HC2.out)).keep0 ((Ch.refl No w1).alloc _)) (HW.out.keep0 ((Ch.refl No w1).alloc _)) hq; unfold av avo at hs; refine hs.mono ?_; rintro e w2 ⟨rfl, HC3⟩; have HC4 := hid HC3; clear HC3))

  go_ret
  exact ⟨rfl, ((((Ch.refl No w).alloc _).no_no HC2.out).alloc _).no_no HC4.out⟩
end Go.Proofs.YtckjclkpgdhcoaaDoor
