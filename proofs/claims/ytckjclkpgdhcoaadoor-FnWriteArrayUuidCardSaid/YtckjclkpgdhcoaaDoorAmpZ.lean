/- The walk of the law that a list is written as an array of uuids. No condition. -/
import Derived.Test.YtckjclkpgdhcoaaDoorAmpY
namespace Go.Proofs.YtckjclkpgdhcoaaDoor
set_option linter.unusedVariables false
set_option linter.unusedSimpArgs false
open Go.RowKit

def itUu (x : ByteArray) : It := ⟨17, 0, x⟩
theorem tvUu (l : List ByteArray) (hx : ∀ x ∈ l, x.size = 16) (hn : l.length ≤ 1000) : TV 8 (hdrB l.length 16 152 ++ l.flatMap bys) 23 0 ⟨#[]⟩ (l.map itUu) := by
  have hE : Elem 7 152 16 (fun x : It => bys x.s) (l.map itUu) := by
    refine ⟨fun y hy => ?_, fun y hy => byt_bys _, fun y hy r A c w hr hb hc => ?_⟩
    · obtain ⟨x, hxl, rfl⟩ := List.mem_map.1 hy
      rw [bys_len]
      exact hx x hxl
    · obtain ⟨x, hxl, rfl⟩ := List.mem_map.1 hy
      have hlb : (bys (itUu x).s).length = 16 := by rw [bys_len]; exact hx x hxl
      have h := take_152 A c (bys (itUu x).s ++ r) 7 w hr hc (by rw [List.length_append, hlb]; omega)
      rw [List.take_left' hlb, str_bys] at h
      exact h
  have h := tv_arr 152 17 16 16 _ _ hE kindOf_152 (by omega) (by omega) (by simpa using hn) (by omega) (by omega)
  rw [List.length_map, flatMap_map'] at h
  exact h
def FitTo (n : Nat) (w : World) (e : Ending) (w' : World) : Prop := ∃ b, e = .returned (.bool b) ∧ (b = true → n ≤ 2147483647) ∧ Ch No w w'
set_option maxRecDepth 100000 in
set_option maxHeartbeats 1000000 in
theorem fits2 (A : Option Addr) (c : Nat) (l : List ByteArray) (w : World) (hr : Rd Value.string w A l) :
    Calls Tryd.prog 14 #[.slice A l.length c] w (FitTo l.length w) := by
  by_cases hbig : 2147483647 < l.length
  · have hg : decide ((2147483647 : Int) < l.length) = true := decide_eq_true (by omega)
    go_enter Tryd.func14, Tryd.ntmps14
    go_wp2_with fail
    go_ret
    exact ⟨false, rfl, (fun h => by cases h), Ch.refl _ _⟩
  have hg : decide ((2147483647 : Int) < l.length) = false := decide_eq_false (by omega)
  go_enter Tryd.func14, Tryd.ntmps14
  go_wp2_with fail
  go_loopg [10] l.length (fun kk s10 wr => ∃ i : Nat, kk + i = l.length ∧ s10 = .int .i64 i ∧ Ch No w wr)
  case atStart => exact ⟨0, by omega, rfl, Ch.refl _ _⟩
  case round =>
    obtain ⟨i, hki, rfl, hch⟩ := hrel
    by_cases hi : i < l.length
    · obtain ⟨b1, off, rfl, hcell⟩ := (hr.keep0 hch).at_ i hi
      have hi' : (i : Int) < l.length := by omega
      have hi0 : (0 : Int) ≤ i := by omega
      generalize l[i] = x at hcell
      by_cases h1 : 2147483647 < x.size
      · have d1 : decide ((2147483647 : Int) < x.size) = true := decide_eq_true (by omega)
        go_wp2_with fail
        go_ret
        exact ⟨false, rfl, (fun h => by cases h), hch⟩
      · have d1 : decide ((2147483647 : Int) < x.size) = false := decide_eq_false (by omega)
        go_wp2_with fail
        go_roundg (gk - 1)
        case measure => omega
        case rel => exact ⟨i + 1, by omega, by go_num, hch⟩
    · obtain rfl : i = l.length := by omega
      go_wp2_with fail
      go_ret
      exact ⟨true, rfl, (fun _ => by omega), hch⟩
abbrev abcp : ByteArray := ⟨#[97, 98, 99, 100, 101, 102, 103, 104, 105, 106, 107, 108, 109, 110, 111, 112]⟩
set_option maxRecDepth 100000 in
set_option maxHeartbeats 2000000 in
theorem lawFnWriteArrayUuid (A : Option Addr) (c : Nat) (l : List ByteArray) (w : World) (hr : Rd Value.string w A l) :
    Calls Tryd.prog 7 #[.slice A l.length c] w fun e w' => e = .returned (.bool true) ∧ Ch No w w' := by
  have t5 := tvUu [abcp] (by simp; rfl) (by simp)
  have i5 := fun w0 : World => implArrUu (some ⟨w0.heap.size, 0, none⟩) 1 [abcp] (w0.alloc (.cells #[.string abcp] 9)) ((Row.alloc w0 [.string abcp] 9).rd (l := [abcp]) rfl) (by simp) (by simp; rfl)
  obtain ⟨L5, hL5⟩ : ∃ L, L = hdrB ([abcp] : List ByteArray).length 16 152 ++ ([abcp] : List ByteArray).flatMap bys := ⟨_, rfl⟩
  rw [← hL5] at t5
  simp only [← hL5] at i5
  have T5 := hid t5
  have I5 := hid i5
  clear t5 i5 hL5
  have hfit := fits2 A c l w hr
  by_cases hm : l.length ≤ 300
  · have hg2 : decide ((300 : Int) < l.length) = false := decide_eq_false (by omega)
    go_enter Tryd.func7, Tryd.ntmps7
    go_wp2_with fail
    refine hfit.mono ?_
    rintro e w0 ⟨b, rfl, hb, HC0⟩
    cases b
    · go_wp2_with fail
      go_ret
      exact ⟨rfl, HC0⟩
    have hbig := hb rfl
    clear hb
    go_wp2_with (go_at_call 15; refine (I5.out w0).mono ?_; rintro e w1 ⟨A1, c1, rfl, hr1, hc1, HC1⟩)
    go_wp2_with (go_at_call 10; refine (wrote_yes A1 (some ⟨w1.heap.size, 0, none⟩) c1 1 L5 23 0 ⟨#[]⟩ (([abcp] : List ByteArray).map itUu) (w1.alloc (.cells (itUu abcp).c.toArray 30)) (hr1.keep0 ((Ch.refl No w1).alloc _)) hc1 (fun _ => ⟨w1.heap.size, rfl, fun j u hu => (Row.alloc w1 (itUu abcp).c 30).cell j u (by simpa using hu)⟩) (by simp) T5.out).mono ?_; rintro e w2 ⟨rfl, HC2⟩)
    have C2 : Ch No w w2 := (((HC0.alloc _).no_no HC1).alloc _).no_no HC2
    have hR0 := Row.alloc w2 (avc 23 0 ⟨#[]⟩ (.slice none 0 0)) 30
    have hW : (w2.alloc (.cells #[.int .i64 23, .int .u64 0, .string ⟨#[]⟩, .slice none 0 0, .int .i64 0, .slice none 0 0] 30)).heap.size = w2.heap.size + 1 := by simp
    have HW := hid hW
    have CW : Ch No w (w2.alloc (.cells #[.int .i64 23, .int .u64 0, .string ⟨#[]⟩, .slice none 0 0, .int .i64 0, .slice none 0 0] 30)) := C2.alloc _
    have hA0 : ∀ ad, A = some ad → 0 < l.length → ad.block < w.heap.size := fun ad had hp => by
      obtain ⟨b, o, e, hcell⟩ := hr.at_ 0 hp
      rw [e] at had
      injection had with had
      subst had
      exact World.block_lt_of_cell? w _ hcell
    have s2 := C2.size
    clear hW
    go_loopg [28] l.length (fun kk s28 wr => ∃ (i : Nat) (kv : Value), kk + i = l.length ∧ s28 = .int .i64 i ∧ (∀ x ∈ l.take i, x.size = 16) ∧ Row wr w2.heap.size 30 (avc 23 0 ⟨#[]⟩ kv) ∧ OwV wr kv i (((l.map itUu).take i).flatMap It.c) ∧ (∀ b, Blk kv b → w2.heap.size + 1 ≤ b) ∧ Ch (fun b => b = w2.heap.size) (w2.alloc (.cells #[.int .i64 23, .int .u64 0, .string ⟨#[]⟩, .slice none 0 0, .int .i64 0, .slice none 0 0] 30)) wr)
    case atStart => exact ⟨0, _, by omega, rfl, by simp, hR0, OwV.nil _, fun b hb => absurd hb Blk_nil, Ch.refl _ _⟩
    case round =>
      obtain ⟨i, kv, hki, rfl, hok, hR, hO, hF, hch⟩ := hrel
      have HOK := hid hok
      clear hok
      by_cases hi : i < l.length
      · obtain ⟨bk, off, rfl, hcell⟩ := (hr.keep (CW.trans (T := fun b => b = w2.heap.size) hch (fun _ h => h.elim) (fun _ h => .inl h)) (fun ad had h => by have := hA0 ad had (by omega); have h' : ad.block = w2.heap.size := h; omega)).at_ i hi
        have hi' : (i : Int) < l.length := by omega
        have hi0 : (0 : Int) ≤ i := by omega
        have HT := hid (List.take_succ_eq_append_getElem (l := l.map itUu) (i := i) (by simpa using hi))
        have HT2 := hid (List.take_succ_eq_append_getElem hi)
        rw [List.getElem_map] at HT
        generalize l[i] = x at hcell HT HT2 ⊢
        obtain ⟨z0, z1, z2, z3, z4, z5⟩ := av_cells hR
        have hwr : w2.heap.size < wr.heap.size := hR.lt
        by_cases hx16 : x.size = 16
        · have d1 : ((x.size : Int) != 16) = false := by rw [hx16]; rfl
          have d2 : decide ((4096 : Int) < x.size) = false := decide_eq_false (by omega)
          go_wp2_with (first | ((with_reducible refine gate (.call { callee := .builtin .append, args := #[.tmp _, .tmp _], argTypes := #[28, 28] }) rfl ?_); refine wp_appendV rfl _ _ rfl kv i _ wr.heap.size 1 (itUu x) rfl rfl (hO.keep0 ((Ch.refl No wr).alloc _)) (Row.alloc wr (itUu x).c _) (by omega) ?_; intro v1 w7 ho7 hch7 hat7; have R7 := (hR.keep0 ((Ch.refl No wr).alloc (.cells (itUu x).c.toArray 30))).keep hch7 (fun h => by have := hF _ h; omega)) | ((with_reducible refine gate (.store 28 _ _) rfl ?_); refine wp_store rfl rfl 28 _ _ rfl w2.heap.size 3 30 (avc 23 0 ⟨#[]⟩ kv) v1 rfl rfl [v1] (by obtain ⟨A', c', rfl⟩ := ho7.slice; rfl) size_slv (by obtain ⟨A', c', rfl⟩ := ho7.slice; simp [Value.oneCell']) R7 (by simp [avc]) ?_; intro w8 hrow8 hch8))
          go_roundg (gk - 1)
          case measure => omega
          case rel =>
            have hfr : ∀ b, Blk v1 b → w2.heap.size + 1 ≤ b := fun b hb => by
              rcases hat7 b hb with h | h
              · exact hF b h
              · simp only [World.size_alloc] at h
                omega
            refine ⟨i + 1, v1, by omega, by go_num, fun y hy => ?_, hrow8, ?_, hfr, ?_⟩
            · rw [HT2.out] at hy
              rcases List.mem_append.1 hy with h | h
              · exact HOK.out y h
              · rw [List.mem_singleton.1 h]; exact hx16
            · rw [HT.out, List.flatMap_append]
              have h := ho7.keep hch8 (fun b hb h => by have h9 : b = w2.heap.size := h; have := hfr b hb; omega)
              simpa using h
            · exact ((hch.alloc _).trans hch7 (fun _ h => h) (fun x hx => .inr (by rw [HW.out]; exact hF x hx))).trans hch8 (fun _ h => h) (fun x hx => .inl hx)
        · have d1 : ((x.size : Int) != 16) = true := bne_iff_ne.2 (by omega)
          have C9 : Ch No w wr := CW.trans hch (fun _ h => h) (fun x hx => .inr (by have h' : x = w2.heap.size := hx; omega))
          go_wp2_with fail
          go_ret
          exact ⟨rfl, C9⟩
      · obtain rfl : i = l.length := by omega
        have hO' : OwV wr kv (l.map itUu).length ((l.map itUu).flatMap It.c) := by
          rw [List.take_of_length_le (by simp)] at hO
          simpa using hO
        have hxA : ∀ x ∈ l, x.size = 16 := by have := HOK.out; rwa [List.take_length] at this
        obtain ⟨KB, cb, rfl⟩ := hO'.slice
        obtain ⟨z0, z1, z2, z3, z4, z5⟩ := av_cells hR
        have C9 : Ch No w wr := CW.trans hch (fun _ h => h) (fun x hx => .inr (by have h' : x = w2.heap.size := hx; omega))
        have iN := implArrUu A c l wr (hr.keep0 C9) hm hxA
        have tN := tvUu l hxA (by omega)
        obtain ⟨LN, hLN⟩ : ∃ L, L = hdrB l.length 16 152 ++ l.flatMap bys := ⟨_, rfl⟩
        rw [← hLN] at iN tN
        have IN := hid iN
        have TN := hid tN
        have HO := hid hO'
        have hql : (l.map itUu).length ≤ 1048576 := by simp; omega
        have hkl : (l.map itUu).length = l.length := by simp
        rw [hkl] at z3 hR
        clear iN tN hLN hO hO' hxA
        go_wp2_with (go_at_call 15; refine IN.out.mono ?_; rintro e w3 ⟨A3, c3, rfl, hr3, hc3, HC3⟩; obtain ⟨y0, y1, y2, y3, y4, y5⟩ := av_cells (hR.keep0 HC3))
        have hww := wrote_yes A3 KB c3 cb LN 23 0 ⟨#[]⟩ (l.map itUu) w3 hr3 hc3 (HO.out.keep0 HC3).rd hql TN.out
        rw [hkl] at hww
        go_wp2_with (go_at_call 10; refine hww.mono ?_; rintro e w4 ⟨rfl, HC4⟩)
        go_ret
        exact ⟨rfl, (C9.no_no HC3).no_no HC4⟩
  · have hg2 : decide ((300 : Int) < l.length) = true := decide_eq_true (by omega)
    go_enter Tryd.func7, Tryd.ntmps7
    go_wp2_with fail
    refine hfit.mono ?_
    rintro e w0 ⟨b, rfl, hb, HC0⟩
    cases b
    · go_wp2_with fail
      go_ret
      exact ⟨rfl, HC0⟩
    have hbig := hb rfl
    clear hb
    go_wp2_with (go_at_call 15; refine (I5.out w0).mono ?_; rintro e w1 ⟨A1, c1, rfl, hr1, hc1, HC1⟩)
    go_wp2_with (go_at_call 10; refine (wrote_yes A1 (some ⟨w1.heap.size, 0, none⟩) c1 1 L5 23 0 ⟨#[]⟩ (([abcp] : List ByteArray).map itUu) (w1.alloc (.cells (itUu abcp).c.toArray 30)) (hr1.keep0 ((Ch.refl No w1).alloc _)) hc1 (fun _ => ⟨w1.heap.size, rfl, fun j u hu => (Row.alloc w1 (itUu abcp).c 30).cell j u (by simpa using hu)⟩) (by simp) T5.out).mono ?_; rintro e w2 ⟨rfl, HC2⟩)
    have C2 : Ch No w w2 := (((HC0.alloc _).no_no HC1).alloc _).no_no HC2
    have hR0 := Row.alloc w2 (avc 23 0 ⟨#[]⟩ (.slice none 0 0)) 30
    have hW : (w2.alloc (.cells #[.int .i64 23, .int .u64 0, .string ⟨#[]⟩, .slice none 0 0, .int .i64 0, .slice none 0 0] 30)).heap.size = w2.heap.size + 1 := by simp
    have HW := hid hW
    have CW : Ch No w (w2.alloc (.cells #[.int .i64 23, .int .u64 0, .string ⟨#[]⟩, .slice none 0 0, .int .i64 0, .slice none 0 0] 30)) := C2.alloc _
    have hA0 : ∀ ad, A = some ad → 0 < l.length → ad.block < w.heap.size := fun ad had hp => by
      obtain ⟨b, o, e, hcell⟩ := hr.at_ 0 hp
      rw [e] at had
      injection had with had
      subst had
      exact World.block_lt_of_cell? w _ hcell
    have s2 := C2.size
    clear hW
    go_loopg [28] l.length (fun kk s28 wr => ∃ (i : Nat) (kv : Value), kk + i = l.length ∧ s28 = .int .i64 i ∧ (∀ x ∈ l.take i, x.size = 16) ∧ Row wr w2.heap.size 30 (avc 23 0 ⟨#[]⟩ kv) ∧ OwV wr kv i (((l.map itUu).take i).flatMap It.c) ∧ (∀ b, Blk kv b → w2.heap.size + 1 ≤ b) ∧ Ch (fun b => b = w2.heap.size) (w2.alloc (.cells #[.int .i64 23, .int .u64 0, .string ⟨#[]⟩, .slice none 0 0, .int .i64 0, .slice none 0 0] 30)) wr)
    case atStart => exact ⟨0, _, by omega, rfl, by simp, hR0, OwV.nil _, fun b hb => absurd hb Blk_nil, Ch.refl _ _⟩
    case round =>
      obtain ⟨i, kv, hki, rfl, hok, hR, hO, hF, hch⟩ := hrel
      have HOK := hid hok
      clear hok
      by_cases hi : i < l.length
      · obtain ⟨bk, off, rfl, hcell⟩ := (hr.keep (CW.trans (T := fun b => b = w2.heap.size) hch (fun _ h => h.elim) (fun _ h => .inl h)) (fun ad had h => by have := hA0 ad had (by omega); have h' : ad.block = w2.heap.size := h; omega)).at_ i hi
        have hi' : (i : Int) < l.length := by omega
        have hi0 : (0 : Int) ≤ i := by omega
        have HT := hid (List.take_succ_eq_append_getElem (l := l.map itUu) (i := i) (by simpa using hi))
        have HT2 := hid (List.take_succ_eq_append_getElem hi)
        rw [List.getElem_map] at HT
        generalize l[i] = x at hcell HT HT2 ⊢
        obtain ⟨z0, z1, z2, z3, z4, z5⟩ := av_cells hR
        have hwr : w2.heap.size < wr.heap.size := hR.lt
        by_cases hx16 : x.size = 16
        · have d1 : ((x.size : Int) != 16) = false := by rw [hx16]; rfl
          have d2 : decide ((4096 : Int) < x.size) = false := decide_eq_false (by omega)
          go_wp2_with (first | ((with_reducible refine gate (.call { callee := .builtin .append, args := #[.tmp _, .tmp _], argTypes := #[28, 28] }) rfl ?_); refine wp_appendV rfl _ _ rfl kv i _ wr.heap.size 1 (itUu x) rfl rfl (hO.keep0 ((Ch.refl No wr).alloc _)) (Row.alloc wr (itUu x).c _) (by omega) ?_; intro v1 w7 ho7 hch7 hat7; have R7 := (hR.keep0 ((Ch.refl No wr).alloc (.cells (itUu x).c.toArray 30))).keep hch7 (fun h => by have := hF _ h; omega)) | ((with_reducible refine gate (.store 28 _ _) rfl ?_); refine wp_store rfl rfl 28 _ _ rfl w2.heap.size 3 30 (avc 23 0 ⟨#[]⟩ kv) v1 rfl rfl [v1] (by obtain ⟨A', c', rfl⟩ := ho7.slice; rfl) size_slv (by obtain ⟨A', c', rfl⟩ := ho7.slice; simp [Value.oneCell']) R7 (by simp [avc]) ?_; intro w8 hrow8 hch8))
          go_roundg (gk - 1)
          case measure => omega
          case rel =>
            have hfr : ∀ b, Blk v1 b → w2.heap.size + 1 ≤ b := fun b hb => by
              rcases hat7 b hb with h | h
              · exact hF b h
              · simp only [World.size_alloc] at h
                omega
            refine ⟨i + 1, v1, by omega, by go_num, fun y hy => ?_, hrow8, ?_, hfr, ?_⟩
            · rw [HT2.out] at hy
              rcases List.mem_append.1 hy with h | h
              · exact HOK.out y h
              · rw [List.mem_singleton.1 h]; exact hx16
            · rw [HT.out, List.flatMap_append]
              have h := ho7.keep hch8 (fun b hb h => by have h9 : b = w2.heap.size := h; have := hfr b hb; omega)
              simpa using h
            · exact ((hch.alloc _).trans hch7 (fun _ h => h) (fun x hx => .inr (by rw [HW.out]; exact hF x hx))).trans hch8 (fun _ h => h) (fun x hx => .inl hx)
        · have d1 : ((x.size : Int) != 16) = true := bne_iff_ne.2 (by omega)
          have C9 : Ch No w wr := CW.trans hch (fun _ h => h) (fun x hx => .inr (by have h' : x = w2.heap.size := hx; omega))
          go_wp2_with fail
          go_ret
          exact ⟨rfl, C9⟩
      · obtain rfl : i = l.length := by omega
        have hO' : OwV wr kv (l.map itUu).length ((l.map itUu).flatMap It.c) := by
          rw [List.take_of_length_le (by simp)] at hO
          simpa using hO
        have hxA : ∀ x ∈ l, x.size = 16 := by have := HOK.out; rwa [List.take_length] at this
        obtain ⟨KB, cb, rfl⟩ := hO'.slice
        obtain ⟨z0, z1, z2, z3, z4, z5⟩ := av_cells hR
        have C9 : Ch No w wr := CW.trans hch (fun _ h => h) (fun x hx => .inr (by have h' : x = w2.heap.size := hx; omega))
        clear hxA
        go_wp2_with fail
        go_ret
        exact ⟨rfl, C9⟩

end Go.Proofs.YtckjclkpgdhcoaaDoor
