/- The walk of the law that a list is written as an array of timestamps. No condition. -/
import Derived.Test.YtckjclkpgdhcoaaDoorAmpF
namespace Go.Proofs.YtckjclkpgdhcoaaDoor
set_option linter.unusedVariables false
set_option linter.unusedSimpArgs false
open Go.RowKit

def itTs (x : Int) : It := ⟨16, IntKind.u64.wrap x, ⟨#[]⟩⟩
theorem tvTs (l : List Int) (_hx : ∀ x ∈ l, -9200000000000 ≤ x ∧ x ≤ 9200000000000) (hn : l.length ≤ 1000) : TV 8 (hdrB l.length 8 131 ++ l.flatMap fun x => be8 (x % 18446744073709551616)) 23 0 ⟨#[]⟩ (l.map itTs) := by
  have hwx : ∀ x : Int, IntKind.u64.wrap x = x % 18446744073709551616 := fun x => by simp [IntKind.wrap, IntKind.bits, IntKind.signed]
  have hE : Elem 7 131 8 (fun x : It => be8 x.n) (l.map itTs) := by
    refine ⟨fun x _ => rfl, fun y hy => ?_, fun y hy r A c w hr hb hc => ?_⟩
    · obtain ⟨x, hxl, rfl⟩ := List.mem_map.1 hy
      have e : (itTs x).n = x % 18446744073709551616 := hwx x
      exact byt_be8 (by omega) (by omega)
    · obtain ⟨x, hxl, rfl⟩ := List.mem_map.1 hy
      have h := take_131 A c (be8 (itTs x).n ++ r) 7 w hr hb hc (by simp [be8])
      rw [show (be8 (itTs x).n ++ r).take 8 = be8 (itTs x).n from rfl, beN_be8] at h
      exact h
  have h := tv_arr 131 16 8 8 _ _ hE kindOf_131 (by omega) (by omega) (by simpa using hn) (by omega) (by omega)
  rw [List.length_map, flatMap_map'] at h
  have e : (l.flatMap fun x => be8 (itTs x).n) = l.flatMap fun x => be8 (x % 18446744073709551616) := flatMap_eq fun x _ => by rw [show (itTs x).n = x % 18446744073709551616 from hwx x]
  rw [e] at h
  exact h
def AskTo (l : List Int) (w : World) (e : Ending) (w' : World) : Prop := ∃ b, e = .returned (.bool b) ∧ (b = true → ∀ x ∈ l, -9200000000000 ≤ x ∧ x ≤ 9200000000000) ∧ Ch No w w'
set_option maxRecDepth 100000 in
set_option maxHeartbeats 2000000 in
theorem asked_ts (A : Option Addr) (c : Nat) (l : List Int) (w : World) (hr : RdV w A (l.map itTs)) (hl : l.length ≤ 1048576) (hx : ∀ x ∈ l, -9223372036854775808 ≤ x ∧ x < 9223372036854775808) :
    Calls Tryd.prog 17 #[.slice A l.length c] w (AskTo l w) := by
  have HR := hid hr
  clear hr
  go_enter Tryd.func17, Tryd.ntmps17
  go_wp2_with fail
  go_loopg [3, 4, 10] l.length (fun kk s3 s4 s10 wr => ∃ i : Nat, kk + i = l.length ∧ s3 = .bool false ∧ s4 = .bool false ∧ s10 = .int .i64 i ∧ (∀ x ∈ l.take i, -9200000000000 ≤ x ∧ x ≤ 9200000000000) ∧ Ch No w wr)
  case atStart => exact ⟨0, by omega, rfl, rfl, rfl, by simp, Ch.refl _ _⟩
  case round =>
    obtain ⟨i, hki, rfl, rfl, rfl, hok, hch⟩ := hrel
    by_cases hi : i < l.length
    · obtain ⟨b1, rfl, a0, a1, a2, a3, a4, a5⟩ := (HR.out.keep0 hch).at_ i (by simpa using hi)
      rw [List.getElem_map] at a0 a1 a2
      have E0 := hid a0
      have E1 := hid a1
      have E2 := hid a2
      clear a0 a1 a2
      have hxi := hx l[i] (List.getElem_mem hi)
      have hi' : (i : Int) < l.length := by omega
      have hi0 : (0 : Int) ≤ i := by omega
      have HT := hid (List.take_succ_eq_append_getElem hi)
      have HOK := hid hok
      clear hok
      generalize l[i] = x at E0 E1 E2 hxi HT
      obtain ⟨z, hz⟩ : ∃ z, z = IntKind.u64.wrap x := ⟨_, rfl⟩
      have hwz : wrap64 z = x := by rw [hz]; simp [IntKind.wrap, IntKind.bits, IntKind.signed, wrap64]; omega
      have a0 : wr.cell? ⟨b1, i * 6, none⟩ = some (.int .i64 16) := E0.out
      have a1 : wr.cell? ⟨b1, i * 6 + 1, none⟩ = some (.int .u64 z) := by rw [hz]; exact E1.out
      have a2 : wr.cell? ⟨b1, i * 6 + 2, none⟩ = some (.string ⟨#[]⟩) := E2.out
      clear hz
      by_cases h1 : x < -9200000000000
      · have d1 : decide (x < -9200000000000) = true := decide_eq_true h1
        go_wp2_with fail
        go_ret
        exact ⟨false, rfl, (fun h => by cases h), hch.alloc _⟩
      · have d1 : decide (x < -9200000000000) = false := decide_eq_false h1
        by_cases h2 : 9200000000000 < x
        · have d2 : decide (9200000000000 < x) = true := decide_eq_true h2
          go_wp2_with fail
          go_ret
          exact ⟨false, rfl, (fun h => by cases h), hch.alloc _⟩
        · have d2 : decide (9200000000000 < x) = false := decide_eq_false h2
          go_wp2_with fail
          go_roundg (gk - 1)
          case measure => omega
          case rel =>
            refine ⟨i + 1, by omega, rfl, rfl, by go_num, fun y hy => ?_, hch.alloc _⟩
            rw [HT.out] at hy
            rcases List.mem_append.1 hy with h | h
            · exact HOK.out y h
            · have := List.mem_singleton.1 h
              omega
    · obtain rfl : i = l.length := by omega
      rw [List.take_length] at hok
      have HOK := hid hok
      clear hok
      go_wp2_with fail
      go_ret
      exact ⟨true, rfl, fun _ => HOK.out, hch⟩
set_option maxRecDepth 100000 in
set_option maxHeartbeats 2000000 in
theorem lawFnWriteArrayTimestamp (A : Option Addr) (c : Nat) (l : List Int) (w : World) (hr : Rd (Value.int .i64) w A l) (hx : ∀ x ∈ l, -9223372036854775808 ≤ x ∧ x < 9223372036854775808) :
    Calls Tryd.prog 8 #[.slice A l.length c] w fun e w' => e = .returned (.bool true) ∧ Ch No w w' := by
  by_cases hbig : 2147483647 < l.length
  · have hg : decide ((2147483647 : Int) < l.length) = true := decide_eq_true (by omega)
    go_enter Tryd.func8, Tryd.ntmps8
    go_wp2_with fail
    go_ret
    exact ⟨rfl, Ch.refl _ _⟩
  have hg : decide ((2147483647 : Int) < l.length) = false := decide_eq_false (by omega)
  have t5 := tvTs [5] (by simp) (by simp)
  have i5 := implArrTs (some ⟨w.heap.size, 0, none⟩) 1 [5] (w.alloc (.cells #[.int .i64 5] 2)) ((Row.alloc w [.int .i64 5] 2).rd (l := [5]) rfl) (by simp) (by simp)
  obtain ⟨L5, hL5⟩ : ∃ L, L = hdrB ([5] : List Int).length 8 131 ++ ([5] : List Int).flatMap fun x => be8 (x % 18446744073709551616) := ⟨_, rfl⟩
  rw [← hL5] at t5 i5
  have T5 := hid t5
  have I5 := hid i5
  clear t5 i5 hL5
  by_cases hm : l.length ≤ 300
  · have hg2 : decide ((300 : Int) < l.length) = false := decide_eq_false (by omega)
    go_enter Tryd.func8, Tryd.ntmps8
    go_wp2_with (go_at_call 16; refine I5.out.mono ?_; rintro e w1 ⟨A1, c1, rfl, hr1, hc1, HC1⟩)
    go_wp2_with (go_at_call 10; refine (wrote_yes A1 (some ⟨w1.heap.size, 0, none⟩) c1 1 L5 23 0 ⟨#[]⟩ (([5] : List Int).map itTs) (w1.alloc (.cells (itTs 5).c.toArray 30)) (hr1.keep0 ((Ch.refl No w1).alloc _)) hc1 (fun _ => ⟨w1.heap.size, rfl, fun j u hu => (Row.alloc w1 (itTs 5).c 30).cell j u (by simpa using hu)⟩) (by simp) T5.out).mono ?_; rintro e w2 ⟨rfl, HC2⟩)
    have C2 : Ch No w w2 := ((((Ch.refl No w).alloc _).no_no HC1).alloc _).no_no HC2
    have hrW := (hr.keep0 C2).keep0 ((Ch.refl No w2).alloc AZ)
    have hR0 := Row.alloc w2 (avc 23 0 ⟨#[]⟩ (.slice none 0 0)) 30
    have hW : (w2.alloc (.cells #[.int .i64 23, .int .u64 0, .string ⟨#[]⟩, .slice none 0 0, .int .i64 0, .slice none 0 0] 30)).heap.size = w2.heap.size + 1 := by simp
    have HW := hid hW
    have CW : Ch No w (w2.alloc (.cells #[.int .i64 23, .int .u64 0, .string ⟨#[]⟩, .slice none 0 0, .int .i64 0, .slice none 0 0] 30)) := C2.alloc _
    have hA0 : ∀ ad, A = some ad → 0 < l.length → ad.block < w.heap.size := fun ad had hp => by
      obtain ⟨b, o, e, hcell⟩ := hr.at_ 0 hp
      rw [e] at had
      injection had with had
      subst had
      exact World.block_lt_of_cell? w _ hcell
    have s2 := C2.size
    clear hW
    go_loopg [28] l.length (fun kk s28 wr => ∃ (i : Nat) (kv : Value), kk + i = l.length ∧ s28 = .int .i64 i ∧ Row wr w2.heap.size 30 (avc 23 0 ⟨#[]⟩ kv) ∧ OwV wr kv i (((l.map itTs).take i).flatMap It.c) ∧ (∀ b, Blk kv b → w2.heap.size + 1 ≤ b) ∧ Ch (fun b => b = w2.heap.size) (w2.alloc (.cells #[.int .i64 23, .int .u64 0, .string ⟨#[]⟩, .slice none 0 0, .int .i64 0, .slice none 0 0] 30)) wr)
    case atStart => exact ⟨0, _, by omega, rfl, hR0, OwV.nil _, fun b hb => absurd hb Blk_nil, Ch.refl _ _⟩
    case round =>
      obtain ⟨i, kv, hki, rfl, hR, hO, hF, hch⟩ := hrel
      by_cases hi : i < l.length
      · obtain ⟨bk, off, rfl, hcell⟩ := (hr.keep (CW.trans (T := fun b => b = w2.heap.size) hch (fun _ h => h.elim) (fun _ h => .inl h)) (fun ad had h => by have := hA0 ad had (by omega); have h' : ad.block = w2.heap.size := h; omega)).at_ i hi
        have hxi := hx l[i] (List.getElem_mem hi)
        have hi' : (i : Int) < l.length := by omega
        have hi0 : (0 : Int) ≤ i := by omega
        have HT := hid (List.take_succ_eq_append_getElem (l := l.map itTs) (i := i) (by simpa using hi))
        rw [List.getElem_map] at HT
        generalize l[i] = x at hcell hxi HT ⊢
        obtain ⟨z0, z1, z2, z3, z4, z5⟩ := av_cells hR
        have hwr : w2.heap.size < wr.heap.size := hR.lt
        go_wp2_with (first | ((with_reducible refine gate (.call { callee := .builtin .append, args := #[.tmp _, .tmp _], argTypes := #[28, 28] }) rfl ?_); refine wp_appendV rfl _ _ rfl kv i _ wr.heap.size 1 (itTs x) rfl rfl (hO.keep0 ((Ch.refl No wr).alloc _)) (Row.alloc wr (itTs x).c _) (by omega) ?_; intro v1 w7 ho7 hch7 hat7; have R7 := (hR.keep0 ((Ch.refl No wr).alloc (.cells (itTs x).c.toArray 30))).keep hch7 (fun h => by have := hF _ h; omega)) | ((with_reducible refine gate (.store 28 _ _) rfl ?_); refine wp_store rfl rfl 28 _ _ rfl w2.heap.size 3 30 (avc 23 0 ⟨#[]⟩ kv) v1 rfl rfl [v1] (by obtain ⟨A', c', rfl⟩ := ho7.slice; rfl) size_slv (by obtain ⟨A', c', rfl⟩ := ho7.slice; simp [Value.oneCell']) R7 (by simp [avc]) ?_; intro w8 hrow8 hch8))
        go_roundg (gk - 1)
        case measure => omega
        case rel =>
          have hfr : ∀ b, Blk v1 b → w2.heap.size + 1 ≤ b := fun b hb => by
            rcases hat7 b hb with h | h
            · exact hF b h
            · simp only [World.size_alloc] at h
              omega
          refine ⟨i + 1, v1, by omega, by go_num, hrow8, ?_, hfr, ?_⟩
          · rw [HT.out, List.flatMap_append]
            have h := ho7.keep hch8 (fun b hb h => by have h9 : b = w2.heap.size := h; have := hfr b hb; omega)
            simpa using h
          · exact ((hch.alloc _).trans hch7 (fun _ h => h) (fun x hx => .inr (by rw [HW.out]; exact hF x hx))).trans hch8 (fun _ h => h) (fun x hx => .inl hx)
      · obtain rfl : i = l.length := by omega
        have hO' : OwV wr kv (l.map itTs).length ((l.map itTs).flatMap It.c) := by
          rw [List.take_of_length_le (by simp)] at hO
          simpa using hO
        obtain ⟨KB, cb, rfl⟩ := hO'.slice
        obtain ⟨z0, z1, z2, z3, z4, z5⟩ := av_cells hR
        have C9 : Ch No w wr := CW.trans hch (fun _ h => h) (fun x hx => .inr (by have h' : x = w2.heap.size := hx; omega))
        have hks : (l.map itTs).length = l.length := by simp
        rw [hks] at z3
        have hcap := cb
        go_wp2_with fail
        refine (asked_ts KB cb l wr hO'.rd (by omega) hx).mono ?_
        rintro e wa ⟨b, rfl, hb, HCa⟩
        have hR := hR.keep0 HCa
        have hO' := hO'.keep0 HCa
        have C9 := C9.no_no HCa
        obtain ⟨z0, z1, z2, z3, z4, z5⟩ := av_cells hR
        cases b
        · go_wp2_with fail
          go_ret
          exact ⟨rfl, C9⟩
        have hxA := hb rfl
        clear hb
        have iN := fun W (h : Rd (Value.int .i64) W A l) => implArrTs A c l W h hm hxA
        have tN := tvTs l hxA (by omega)
        have hrN := hr.keep0 C9
        obtain ⟨LN, hLN⟩ : ∃ L, L = hdrB l.length 8 131 ++ l.flatMap fun x => be8 (x % 18446744073709551616) := ⟨_, rfl⟩
        simp only [← hLN] at iN tN
        have IN := hid (iN wa hrN)
        have TN := hid tN
        have HO := hid hO'
        have hql : (l.map itTs).length ≤ 1048576 := by simp; omega
        have hkl : (l.map itTs).length = l.length := by simp
        rw [hkl] at z3 hR
        clear iN tN hLN hO hO'
        go_wp2_with (go_at_call 16; refine IN.out.mono ?_; rintro e w3 ⟨A3, c3, rfl, hr3, hc3, HC3⟩; obtain ⟨y0, y1, y2, y3, y4, y5⟩ := av_cells (hR.keep0 HC3))
        have hww := wrote_yes A3 KB c3 cb LN 23 0 ⟨#[]⟩ (l.map itTs) w3 hr3 hc3 (HO.out.keep0 HC3).rd hql TN.out
        rw [hkl] at hww
        go_wp2_with (go_at_call 10; refine hww.mono ?_; rintro e w4 ⟨rfl, HC4⟩)
        go_ret
        exact ⟨rfl, (C9.no_no HC3).no_no HC4⟩
  · have hg2 : decide ((300 : Int) < l.length) = true := decide_eq_true (by omega)
    go_enter Tryd.func8, Tryd.ntmps8
    go_wp2_with (go_at_call 16; refine I5.out.mono ?_; rintro e w1 ⟨A1, c1, rfl, hr1, hc1, HC1⟩)
    go_wp2_with (go_at_call 10; refine (wrote_yes A1 (some ⟨w1.heap.size, 0, none⟩) c1 1 L5 23 0 ⟨#[]⟩ (([5] : List Int).map itTs) (w1.alloc (.cells (itTs 5).c.toArray 30)) (hr1.keep0 ((Ch.refl No w1).alloc _)) hc1 (fun _ => ⟨w1.heap.size, rfl, fun j u hu => (Row.alloc w1 (itTs 5).c 30).cell j u (by simpa using hu)⟩) (by simp) T5.out).mono ?_; rintro e w2 ⟨rfl, HC2⟩)
    have C2 : Ch No w w2 := ((((Ch.refl No w).alloc _).no_no HC1).alloc _).no_no HC2
    have hrW := (hr.keep0 C2).keep0 ((Ch.refl No w2).alloc AZ)
    have hR0 := Row.alloc w2 (avc 23 0 ⟨#[]⟩ (.slice none 0 0)) 30
    have hW : (w2.alloc (.cells #[.int .i64 23, .int .u64 0, .string ⟨#[]⟩, .slice none 0 0, .int .i64 0, .slice none 0 0] 30)).heap.size = w2.heap.size + 1 := by simp
    have HW := hid hW
    have CW : Ch No w (w2.alloc (.cells #[.int .i64 23, .int .u64 0, .string ⟨#[]⟩, .slice none 0 0, .int .i64 0, .slice none 0 0] 30)) := C2.alloc _
    have hA0 : ∀ ad, A = some ad → 0 < l.length → ad.block < w.heap.size := fun ad had hp => by
      obtain ⟨b, o, e, hcell⟩ := hr.at_ 0 hp
      rw [e] at had
      injection had with had
      subst had
      exact World.block_lt_of_cell? w _ hcell
    have s2 := C2.size
    clear hW
    go_loopg [28] l.length (fun kk s28 wr => ∃ (i : Nat) (kv : Value), kk + i = l.length ∧ s28 = .int .i64 i ∧ Row wr w2.heap.size 30 (avc 23 0 ⟨#[]⟩ kv) ∧ OwV wr kv i (((l.map itTs).take i).flatMap It.c) ∧ (∀ b, Blk kv b → w2.heap.size + 1 ≤ b) ∧ Ch (fun b => b = w2.heap.size) (w2.alloc (.cells #[.int .i64 23, .int .u64 0, .string ⟨#[]⟩, .slice none 0 0, .int .i64 0, .slice none 0 0] 30)) wr)
    case atStart => exact ⟨0, _, by omega, rfl, hR0, OwV.nil _, fun b hb => absurd hb Blk_nil, Ch.refl _ _⟩
    case round =>
      obtain ⟨i, kv, hki, rfl, hR, hO, hF, hch⟩ := hrel
      by_cases hi : i < l.length
      · obtain ⟨bk, off, rfl, hcell⟩ := (hr.keep (CW.trans (T := fun b => b = w2.heap.size) hch (fun _ h => h.elim) (fun _ h => .inl h)) (fun ad had h => by have := hA0 ad had (by omega); have h' : ad.block = w2.heap.size := h; omega)).at_ i hi
        have hxi := hx l[i] (List.getElem_mem hi)
        have hi' : (i : Int) < l.length := by omega
        have hi0 : (0 : Int) ≤ i := by omega
        have HT := hid (List.take_succ_eq_append_getElem (l := l.map itTs) (i := i) (by simpa using hi))
        rw [List.getElem_map] at HT
        generalize l[i] = x at hcell hxi HT ⊢
        obtain ⟨z0, z1, z2, z3, z4, z5⟩ := av_cells hR
        have hwr : w2.heap.size < wr.heap.size := hR.lt
        go_wp2_with (first | ((with_reducible refine gate (.call { callee := .builtin .append, args := #[.tmp _, .tmp _], argTypes := #[28, 28] }) rfl ?_); refine wp_appendV rfl _ _ rfl kv i _ wr.heap.size 1 (itTs x) rfl rfl (hO.keep0 ((Ch.refl No wr).alloc _)) (Row.alloc wr (itTs x).c _) (by omega) ?_; intro v1 w7 ho7 hch7 hat7; have R7 := (hR.keep0 ((Ch.refl No wr).alloc (.cells (itTs x).c.toArray 30))).keep hch7 (fun h => by have := hF _ h; omega)) | ((with_reducible refine gate (.store 28 _ _) rfl ?_); refine wp_store rfl rfl 28 _ _ rfl w2.heap.size 3 30 (avc 23 0 ⟨#[]⟩ kv) v1 rfl rfl [v1] (by obtain ⟨A', c', rfl⟩ := ho7.slice; rfl) size_slv (by obtain ⟨A', c', rfl⟩ := ho7.slice; simp [Value.oneCell']) R7 (by simp [avc]) ?_; intro w8 hrow8 hch8))
        go_roundg (gk - 1)
        case measure => omega
        case rel =>
          have hfr : ∀ b, Blk v1 b → w2.heap.size + 1 ≤ b := fun b hb => by
            rcases hat7 b hb with h | h
            · exact hF b h
            · simp only [World.size_alloc] at h
              omega
          refine ⟨i + 1, v1, by omega, by go_num, hrow8, ?_, hfr, ?_⟩
          · rw [HT.out, List.flatMap_append]
            have h := ho7.keep hch8 (fun b hb h => by have h9 : b = w2.heap.size := h; have := hfr b hb; omega)
            simpa using h
          · exact ((hch.alloc _).trans hch7 (fun _ h => h) (fun x hx => .inr (by rw [HW.out]; exact hF x hx))).trans hch8 (fun _ h => h) (fun x hx => .inl hx)
      · obtain rfl : i = l.length := by omega
        have hO' : OwV wr kv (l.map itTs).length ((l.map itTs).flatMap It.c) := by
          rw [List.take_of_length_le (by simp)] at hO
          simpa using hO
        obtain ⟨KB, cb, rfl⟩ := hO'.slice
        obtain ⟨z0, z1, z2, z3, z4, z5⟩ := av_cells hR
        have C9 : Ch No w wr := CW.trans hch (fun _ h => h) (fun x hx => .inr (by have h' : x = w2.heap.size := hx; omega))
        go_wp2_with fail
        go_ret
        exact ⟨rfl, C9⟩

end Go.Proofs.YtckjclkpgdhcoaaDoor
