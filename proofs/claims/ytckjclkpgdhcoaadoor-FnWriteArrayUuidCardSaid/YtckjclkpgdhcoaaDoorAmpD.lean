/- The walks of the laws that a list is written as an array of AMQP: of ubytes, of shorts. No condition. -/
import Derived.Test.YtckjclkpgdhcoaaDoorAmpC
namespace Go.Proofs.YtckjclkpgdhcoaaDoor
set_option linter.unusedVariables false
set_option linter.unusedSimpArgs false
open Go.RowKit

theorem flatMap_map' {α β : Type} (f : α → β) (g : β → List Int) : ∀ l : List α, (l.map f).flatMap g = l.flatMap fun x => g (f x)
  | [] => rfl
  | x :: l => by rw [List.map_cons, List.flatMap_cons, List.flatMap_cons, flatMap_map' f g l]
theorem flatMap_one : ∀ l : List Int, (l.flatMap fun x => [x]) = l
  | [] => rfl
  | x :: l => by rw [List.flatMap_cons, flatMap_one l]; rfl
theorem flatMap_eq {f g : Int → List Int} : ∀ {l : List Int}, (∀ x ∈ l, f x = g x) → l.flatMap f = l.flatMap g
  | [], _ => rfl
  | x :: l, h => by rw [List.flatMap_cons, List.flatMap_cons, h x (by simp), flatMap_eq fun y hy => h y (List.mem_cons_of_mem _ hy)]
def itUb (x : Int) : It := ⟨2, x, ⟨#[]⟩⟩
theorem tvUb (l : List Int) (hx : ∀ x ∈ l, 0 ≤ x ∧ x < 256) (hn : l.length ≤ 1000) : TV 8 (hdrB l.length 1 80 ++ l) 23 0 ⟨#[]⟩ (l.map itUb) := by
  have hE : Elem 7 80 1 (fun x : It => [x.n]) (l.map itUb) := by
    refine ⟨fun x _ => rfl, fun y hy => ?_, fun y hy r A c w hr hb hc => ?_⟩
    · obtain ⟨x, hxl, rfl⟩ := List.mem_map.1 hy
      exact Byt.nil.cons (hx x hxl).1 (hx x hxl).2
    · obtain ⟨x, hxl, rfl⟩ := List.mem_map.1 hy
      have h := take_80 A c ([(itUb x).n] ++ r) 7 w hr hb hc (by simp)
      rw [show ([(itUb x).n] ++ r).take 1 = [(itUb x).n] from rfl, beN_1] at h
      exact h
  have h := tv_arr 80 2 1 1 _ _ hE kindOf_80 (by omega) (by omega) (by simpa using hn) (by omega) (by omega)
  rw [List.length_map, flatMap_map'] at h
  have e : (l.flatMap fun x => [(itUb x).n]) = l := flatMap_one l
  rw [e] at h
  exact h
def itSh (x : Int) : It := ⟨7, IntKind.u64.wrap x, ⟨#[]⟩⟩
theorem tvSh (l : List Int) (hx : ∀ x ∈ l, -32768 ≤ x ∧ x < 32768) (hn : l.length ≤ 1000) : TV 8 (hdrB l.length 2 97 ++ l.flatMap fun x => be2 (x % 65536)) 23 0 ⟨#[]⟩ (l.map itSh) := by
  have hwx : ∀ x : Int, IntKind.u64.wrap x % 65536 = x % 65536 := fun x => by simp [IntKind.wrap, IntKind.bits, IntKind.signed] <;> omega
  have hE : Elem 7 97 2 (fun x : It => be2 (x.n % 65536)) (l.map itSh) := by
    refine ⟨fun x _ => rfl, fun y hy => byt_be2 (by omega) (by omega), fun y hy r A c w hr hb hc => ?_⟩
    obtain ⟨x, hxl, rfl⟩ := List.mem_map.1 hy
    have hx := hx x hxl
    have e2 : beN ((be2 ((itSh x).n % 65536) ++ r).take 2) = x % 65536 := by rw [show (be2 ((itSh x).n % 65536) ++ r).take 2 = be2 ((itSh x).n % 65536) from rfl, beN_be2]; exact hwx x
    by_cases h0 : 0 ≤ x
    · have h := take_97p A c (be2 ((itSh x).n % 65536) ++ r) 7 w hr hb hc (by simp [be2]) (by rw [e2]; omega)
      rw [e2, show x % 65536 = IntKind.u64.wrap x from by simp [IntKind.wrap, IntKind.bits, IntKind.signed]; omega] at h
      exact h
    · have h := take_97n A c (be2 ((itSh x).n % 65536) ++ r) 7 w hr hb hc (by simp [be2]) (by rw [e2]; omega) (by rw [e2]; omega)
      rw [e2, show x % 65536 - 65536 = x from by omega] at h
      exact h
  have h := tv_arr 97 7 2 2 _ _ hE kindOf_97 (by omega) (by omega) (by simpa using hn) (by omega) (by omega)
  rw [List.length_map, flatMap_map'] at h
  have e : (l.flatMap fun x => be2 ((itSh x).n % 65536)) = l.flatMap fun x => be2 (x % 65536) := flatMap_eq fun x _ => by rw [show (itSh x).n % 65536 = x % 65536 from hwx x]
  rw [e] at h
  exact h
set_option maxRecDepth 100000 in
set_option maxHeartbeats 2000000 in
theorem lawFnWriteArrayUbyte (A : Option Addr) (c : Nat) (l : List Int) (w : World) (hr : Rd (Value.int .u8) w A l) (hx : ∀ x ∈ l, 0 ≤ x ∧ x < 256) :
    Calls Tryd.prog 5 #[.slice A l.length c] w fun e w' => e = .returned (.bool true) ∧ Ch No w w' := by
  by_cases hbig : 2147483647 < l.length
  · have hg : decide ((2147483647 : Int) < l.length) = true := decide_eq_true (by omega)
    go_enter Tryd.func5, Tryd.ntmps5
    go_wp2_with fail
    go_ret
    exact ⟨rfl, Ch.refl _ _⟩
  have hg : decide ((2147483647 : Int) < l.length) = false := decide_eq_false (by omega)
  have t5 := tvUb [5] (by simp) (by simp)
  have i5 := implArrUb (some ⟨w.heap.size, 0, none⟩) 1 [5] (w.alloc (.cells #[.int .u8 5] 5)) ((Row.alloc w [.int .u8 5] 5).rd (l := [5]) rfl) (by simp) 
  obtain ⟨L5, hL5⟩ : ∃ L, L = hdrB ([5] : List Int).length 1 80 ++ ([5] : List Int) := ⟨_, rfl⟩
  rw [← hL5] at t5 i5
  have T5 := hid t5
  have I5 := hid i5
  clear t5 i5 hL5
  by_cases hm : l.length ≤ 300
  · have hg2 : decide ((300 : Int) < l.length) = false := decide_eq_false (by omega)
    go_enter Tryd.func5, Tryd.ntmps5
    go_wp2_with (go_at_call 12; refine I5.out.mono ?_; rintro e w1 ⟨A1, c1, rfl, hr1, hc1, HC1⟩)
    go_wp2_with (go_at_call 10; refine (wrote_yes A1 (some ⟨w1.heap.size, 0, none⟩) c1 1 L5 23 0 ⟨#[]⟩ (([5] : List Int).map itUb) (w1.alloc (.cells (itUb 5).c.toArray 30)) (hr1.keep0 ((Ch.refl No w1).alloc _)) hc1 (fun _ => ⟨w1.heap.size, rfl, fun j u hu => (Row.alloc w1 (itUb 5).c 30).cell j u (by simpa using hu)⟩) (by simp) T5.out).mono ?_; rintro e w2 ⟨rfl, HC2⟩)
    have C2 : Ch No w w2 := ((((Ch.refl No w).alloc _).no_no HC1).alloc _).no_no HC2
    have hrW := (hr.keep0 C2).keep0 ((Ch.refl No w2).alloc AZ)
    have hR0 := Row.alloc w2 (avc 23 0 ⟨#[]⟩ (.slice none 0 0)) 30
    have hW : (w2.alloc (.cells #[.int .i64 23, .int .u64 0, .string ⟨#[]⟩, .slice none 0 0, .int .i64 0, .slice none 0 0] 30)).heap.size = w2.heap.size + 1 := by simp
    have HW := hid hW
    have CW : Ch No w (w2.alloc (.cells #[.int .i64 23, .int .u64 0, .string ⟨#[]⟩, .slice none 0 0, .int .i64 0, .slice none 0 0] 30)) := C2.alloc _
    have hA0 : ∀ ad, A = some ad → 0 < l.length → ad.block < w.heap.size := fun ad had hp => by
      obtain ⟨b, o, e, hcell⟩ := hr.at_ 0 hp
      rw [e] at had
      injection had with had
      subst had
      exact World.block_lt_of_cell? w _ hcell
    have s2 := C2.size
    clear hW
    go_loopg [28] l.length (fun kk s28 wr => ∃ (i : Nat) (kv : Value), kk + i = l.length ∧ s28 = .int .i64 i ∧ Row wr w2.heap.size 30 (avc 23 0 ⟨#[]⟩ kv) ∧ OwV wr kv i (((l.map itUb).take i).flatMap It.c) ∧ (∀ b, Blk kv b → w2.heap.size + 1 ≤ b) ∧ Ch (fun b => b = w2.heap.size) (w2.alloc (.cells #[.int .i64 23, .int .u64 0, .string ⟨#[]⟩, .slice none 0 0, .int .i64 0, .slice none 0 0] 30)) wr)
    case atStart => exact ⟨0, _, by omega, rfl, hR0, OwV.nil _, fun b hb => absurd hb Blk_nil, Ch.refl _ _⟩
    case round =>
      obtain ⟨i, kv, hki, rfl, hR, hO, hF, hch⟩ := hrel
      by_cases hi : i < l.length
      · obtain ⟨bk, off, rfl, hcell⟩ := (hr.keep (CW.trans (T := fun b => b = w2.heap.size) hch (fun _ h => h.elim) (fun _ h => .inl h)) (fun ad had h => by have := hA0 ad had (by omega); have h' : ad.block = w2.heap.size := h; omega)).at_ i hi
        have hxi := hx l[i] (List.getElem_mem hi)
        have hi' : (i : Int) < l.length := by omega
        have hi0 : (0 : Int) ≤ i := by omega
        have HT := hid (List.take_succ_eq_append_getElem (l := l.map itUb) (i := i) (by simpa using hi))
        rw [List.getElem_map] at HT
        generalize l[i] = x at hcell hxi HT ⊢
        obtain ⟨z0, z1, z2, z3, z4, z5⟩ := av_cells hR
        have hwr : w2.heap.size < wr.heap.size := hR.lt
        go_wp2_with (first | ((with_reducible refine gate (.call { callee := .builtin .append, args := #[.tmp _, .tmp _], argTypes := #[28, 28] }) rfl ?_); refine wp_appendV rfl _ _ rfl kv i _ wr.heap.size 1 (itUb x) rfl rfl (hO.keep0 ((Ch.refl No wr).alloc _)) (Row.alloc wr (itUb x).c _) (by omega) ?_; intro v1 w7 ho7 hch7 hat7; have R7 := (hR.keep0 ((Ch.refl No wr).alloc (.cells (itUb x).c.toArray 30))).keep hch7 (fun h => by have := hF _ h; omega)) | ((with_reducible refine gate (.store 28 _ _) rfl ?_); refine wp_store rfl rfl 28 _ _ rfl w2.heap.size 3 30 (avc 23 0 ⟨#[]⟩ kv) v1 rfl rfl [v1] (by obtain ⟨A', c', rfl⟩ := ho7.slice; rfl) size_slv (by obtain ⟨A', c', rfl⟩ := ho7.slice; simp [Value.oneCell']) R7 (by simp [avc]) ?_; intro w8 hrow8 hch8))
        go_roundg (gk - 1)
        case measure => omega
        case rel =>
          have hfr : ∀ b, Blk v1 b → w2.heap.size + 1 ≤ b := fun b hb => by
            rcases hat7 b hb with h | h
            · exact hF b h
            · simp only [World.size_alloc] at h
              omega
          refine ⟨i + 1, v1, by omega, by go_num, hrow8, ?_, hfr, ?_⟩
          · rw [HT.out, List.flatMap_append]
            have h := ho7.keep hch8 (fun b hb h => by have h9 : b = w2.heap.size := h; have := hfr b hb; omega)
            simpa using h
          · exact ((hch.alloc _).trans hch7 (fun _ h => h) (fun x hx => .inr (by rw [HW.out]; exact hF x hx))).trans hch8 (fun _ h => h) (fun x hx => .inl hx)
      · obtain rfl : i = l.length := by omega
        have hO' : OwV wr kv (l.map itUb).length ((l.map itUb).flatMap It.c) := by
          rw [List.take_of_length_le (by simp)] at hO
          simpa using hO
        obtain ⟨KB, cb, rfl⟩ := hO'.slice
        obtain ⟨z0, z1, z2, z3, z4, z5⟩ := av_cells hR
        have C9 : Ch No w wr := CW.trans hch (fun _ h => h) (fun x hx => .inr (by have h' : x = w2.heap.size := hx; omega))
        have iN := fun W (h : Rd (Value.int .u8) W A l) => implArrUb A c l W h hm
        have tN := tvUb l hx (by omega)
        have hrN := hr.keep0 C9
        obtain ⟨LN, hLN⟩ : ∃ L, L = hdrB l.length 1 80 ++ l := ⟨_, rfl⟩
        simp only [← hLN] at iN tN
        have IN := hid (iN wr hrN)
        have TN := hid tN
        have HO := hid hO'
        have hql : (l.map itUb).length ≤ 1048576 := by simp; omega
        have hkl : (l.map itUb).length = l.length := by simp
        rw [hkl] at z3 hR
        clear iN tN hLN hO hO'
        go_wp2_with (go_at_call 12; refine IN.out.mono ?_; rintro e w3 ⟨A3, c3, rfl, hr3, hc3, HC3⟩; obtain ⟨y0, y1, y2, y3, y4, y5⟩ := av_cells (hR.keep0 HC3))
        have hww := wrote_yes A3 KB c3 cb LN 23 0 ⟨#[]⟩ (l.map itUb) w3 hr3 hc3 (HO.out.keep0 HC3).rd hql TN.out
        rw [hkl] at hww
        go_wp2_with (go_at_call 10; refine hww.mono ?_; rintro e w4 ⟨rfl, HC4⟩)
        go_ret
        exact ⟨rfl, (C9.no_no HC3).no_no HC4⟩
  · have hg2 : decide ((300 : Int) < l.length) = true := decide_eq_true (by omega)
    go_enter Tryd.func5, Tryd.ntmps5
    go_wp2_with (go_at_call 12; refine I5.out.mono ?_; rintro e w1 ⟨A1, c1, rfl, hr1, hc1, HC1⟩)
    go_wp2_with (go_at_call 10; refine (wrote_yes A1 (some ⟨w1.heap.size, 0, none⟩) c1 1 L5 23 0 ⟨#[]⟩ (([5] : List Int).map itUb) (w1.alloc (.cells (itUb 5).c.toArray 30)) (hr1.keep0 ((Ch.refl No w1).alloc _)) hc1 (fun _ => ⟨w1.heap.size, rfl, fun j u hu => (Row.alloc w1 (itUb 5).c 30).cell j u (by simpa using hu)⟩) (by simp) T5.out).mono ?_; rintro e w2 ⟨rfl, HC2⟩)
    have C2 : Ch No w w2 := ((((Ch.refl No w).alloc _).no_no HC1).alloc _).no_no HC2
    have hrW := (hr.keep0 C2).keep0 ((Ch.refl No w2).alloc AZ)
    have hR0 := Row.alloc w2 (avc 23 0 ⟨#[]⟩ (.slice none 0 0)) 30
    have hW : (w2.alloc (.cells #[.int .i64 23, .int .u64 0, .string ⟨#[]⟩, .slice none 0 0, .int .i64 0, .slice none 0 0] 30)).heap.size = w2.heap.size + 1 := by simp
    have HW := hid hW
    have CW : Ch No w (w2.alloc (.cells #[.int .i64 23, .int .u64 0, .string ⟨#[]⟩, .slice none 0 0, .int .i64 0, .slice none 0 0] 30)) := C2.alloc _
    have hA0 : ∀ ad, A = some ad → 0 < l.length → ad.block < w.heap.size := fun ad had hp => by
      obtain ⟨b, o, e, hcell⟩ := hr.at_ 0 hp
      rw [e] at had
      injection had with had
      subst had
      exact World.block_lt_of_cell? w _ hcell
    have s2 := C2.size
    clear hW
    go_loopg [28] l.length (fun kk s28 wr => ∃ (i : Nat) (kv : Value), kk + i = l.length ∧ s28 = .int .i64 i ∧ Row wr w2.heap.size 30 (avc 23 0 ⟨#[]⟩ kv) ∧ OwV wr kv i (((l.map itUb).take i).flatMap It.c) ∧ (∀ b, Blk kv b → w2.heap.size + 1 ≤ b) ∧ Ch (fun b => b = w2.heap.size) (w2.alloc (.cells #[.int .i64 23, .int .u64 0, .string ⟨#[]⟩, .slice none 0 0, .int .i64 0, .slice none 0 0] 30)) wr)
    case atStart => exact ⟨0, _, by omega, rfl, hR0, OwV.nil _, fun b hb => absurd hb Blk_nil, Ch.refl _ _⟩
    case round =>
      obtain ⟨i, kv, hki, rfl, hR, hO, hF, hch⟩ := hrel
      by_cases hi : i < l.length
      · obtain ⟨bk, off, rfl, hcell⟩ := (hr.keep (CW.trans (T := fun b => b = w2.heap.size) hch (fun _ h => h.elim) (fun _ h => .inl h)) (fun ad had h => by have := hA0 ad had (by omega); have h' : ad.block = w2.heap.size := h; omega)).at_ i hi
        have hxi := hx l[i] (List.getElem_mem hi)
        have hi' : (i : Int) < l.length := by omega
        have hi0 : (0 : Int) ≤ i := by omega
        have HT := hid (List.take_succ_eq_append_getElem (l := l.map itUb) (i := i) (by simpa using hi))
        rw [List.getElem_map] at HT
        generalize l[i] = x at hcell hxi HT ⊢
        obtain ⟨z0, z1, z2, z3, z4, z5⟩ := av_cells hR
        have hwr : w2.heap.size < wr.heap.size := hR.lt
        go_wp2_with (first | ((with_reducible refine gate (.call { callee := .builtin .append, args := #[.tmp _, .tmp _], argTypes := #[28, 28] }) rfl ?_); refine wp_appendV rfl _ _ rfl kv i _ wr.heap.size 1 (itUb x) rfl rfl (hO.keep0 ((Ch.refl No wr).alloc _)) (Row.alloc wr (itUb x).c _) (by omega) ?_; intro v1 w7 ho7 hch7 hat7; have R7 := (hR.keep0 ((Ch.refl No wr).alloc (.cells (itUb x).c.toArray 30))).keep hch7 (fun h => by have := hF _ h; omega)) | ((with_reducible refine gate (.store 28 _ _) rfl ?_); refine wp_store rfl rfl 28 _ _ rfl w2.heap.size 3 30 (avc 23 0 ⟨#[]⟩ kv) v1 rfl rfl [v1] (by obtain ⟨A', c', rfl⟩ := ho7.slice; rfl) size_slv (by obtain ⟨A', c', rfl⟩ := ho7.slice; simp [Value.oneCell']) R7 (by simp [avc]) ?_; intro w8 hrow8 hch8))
        go_roundg (gk - 1)
        case measure => omega
        case rel =>
          have hfr : ∀ b, Blk v1 b → w2.heap.size + 1 ≤ b := fun b hb => by
            rcases hat7 b hb with h | h
            · exact hF b h
            · simp only [World.size_alloc] at h
              omega
          refine ⟨i + 1, v1, by omega, by go_num, hrow8, ?_, hfr, ?_⟩
          · rw [HT.out, List.flatMap_append]
            have h := ho7.keep hch8 (fun b hb h => by have h9 : b = w2.heap.size := h; have := hfr b hb; omega)
            simpa using h
          · exact ((hch.alloc _).trans hch7 (fun _ h => h) (fun x hx => .inr (by rw [HW.out]; exact hF x hx))).trans hch8 (fun _ h => h) (fun x hx => .inl hx)
      · obtain rfl : i = l.length := by omega
        have hO' : OwV wr kv (l.map itUb).length ((l.map itUb).flatMap It.c) := by
          rw [List.take_of_length_le (by simp)] at hO
          simpa using hO
        obtain ⟨KB, cb, rfl⟩ := hO'.slice
        obtain ⟨z0, z1, z2, z3, z4, z5⟩ := av_cells hR
        have C9 : Ch No w wr := CW.trans hch (fun _ h => h) (fun x hx => .inr (by have h' : x = w2.heap.size := hx; omega))
        go_wp2_with fail
        go_ret
        exact ⟨rfl, C9⟩
set_option maxRecDepth 100000 in
set_option maxHeartbeats 2000000 in
theorem lawFnWriteArrayShort (A : Option Addr) (c : Nat) (l : List Int) (w : World) (hr : Rd (Value.int .i16) w A l) (hx : ∀ x ∈ l, -32768 ≤ x ∧ x < 32768) :
    Calls Tryd.prog 6 #[.slice A l.length c] w fun e w' => e = .returned (.bool true) ∧ Ch No w w' := by
  by_cases hbig : 2147483647 < l.length
  · have hg : decide ((2147483647 : Int) < l.length) = true := decide_eq_true (by omega)
    go_enter Tryd.func6, Tryd.ntmps6
    go_wp2_with fail
    go_ret
    exact ⟨rfl, Ch.refl _ _⟩
  have hg : decide ((2147483647 : Int) < l.length) = false := decide_eq_false (by omega)
  have t5 := tvSh [5] (by simp) (by simp)
  have i5 := implArrShort (some ⟨w.heap.size, 0, none⟩) 1 [5] (w.alloc (.cells #[.int .i16 5] 38)) ((Row.alloc w [.int .i16 5] 38).rd (l := [5]) rfl) (by simp) (by simp)
  obtain ⟨L5, hL5⟩ : ∃ L, L = hdrB ([5] : List Int).length 2 97 ++ ([5] : List Int).flatMap fun x => be2 (x % 65536) := ⟨_, rfl⟩
  rw [← hL5] at t5 i5
  have T5 := hid t5
  have I5 := hid i5
  clear t5 i5 hL5
  by_cases hm : l.length ≤ 300
  · have hg2 : decide ((300 : Int) < l.length) = false := decide_eq_false (by omega)
    go_enter Tryd.func6, Tryd.ntmps6
    go_wp2_with (go_at_call 13; refine I5.out.mono ?_; rintro e w1 ⟨A1, c1, rfl, hr1, hc1, HC1⟩)
    go_wp2_with (go_at_call 10; refine (wrote_yes A1 (some ⟨w1.heap.size, 0, none⟩) c1 1 L5 23 0 ⟨#[]⟩ (([5] : List Int).map itSh) (w1.alloc (.cells (itSh 5).c.toArray 30)) (hr1.keep0 ((Ch.refl No w1).alloc _)) hc1 (fun _ => ⟨w1.heap.size, rfl, fun j u hu => (Row.alloc w1 (itSh 5).c 30).cell j u (by simpa using hu)⟩) (by simp) T5.out).mono ?_; rintro e w2 ⟨rfl, HC2⟩)
    have C2 : Ch No w w2 := ((((Ch.refl No w).alloc _).no_no HC1).alloc _).no_no HC2
    have hrW := (hr.keep0 C2).keep0 ((Ch.refl No w2).alloc AZ)
    have hR0 := Row.alloc w2 (avc 23 0 ⟨#[]⟩ (.slice none 0 0)) 30
    have hW : (w2.alloc (.cells #[.int .i64 23, .int .u64 0, .string ⟨#[]⟩, .slice none 0 0, .int .i64 0, .slice none 0 0] 30)).heap.size = w2.heap.size + 1 := by simp
    have HW := hid hW
    have CW : Ch No w (w2.alloc (.cells #[.int .i64 23, .int .u64 0, .string ⟨#[]⟩, .slice none 0 0, .int .i64 0, .slice none 0 0] 30)) := C2.alloc _
    have hA0 : ∀ ad, A = some ad → 0 < l.length → ad.block < w.heap.size := fun ad had hp => by
      obtain ⟨b, o, e, hcell⟩ := hr.at_ 0 hp
      rw [e] at had
      injection had with had
      subst had
      exact World.block_lt_of_cell? w _ hcell
    have s2 := C2.size
    clear hW
    go_loopg [28] l.length (fun kk s28 wr => ∃ (i : Nat) (kv : Value), kk + i = l.length ∧ s28 = .int .i64 i ∧ Row wr w2.heap.size 30 (avc 23 0 ⟨#[]⟩ kv) ∧ OwV wr kv i (((l.map itSh).take i).flatMap It.c) ∧ (∀ b, Blk kv b → w2.heap.size + 1 ≤ b) ∧ Ch (fun b => b = w2.heap.size) (w2.alloc (.cells #[.int .i64 23, .int .u64 0, .string ⟨#[]⟩, .slice none 0 0, .int .i64 0, .slice none 0 0] 30)) wr)
    case atStart => exact ⟨0, _, by omega, rfl, hR0, OwV.nil _, fun b hb => absurd hb Blk_nil, Ch.refl _ _⟩
    case round =>
      obtain ⟨i, kv, hki, rfl, hR, hO, hF, hch⟩ := hrel
      by_cases hi : i < l.length
      · obtain ⟨bk, off, rfl, hcell⟩ := (hr.keep (CW.trans (T := fun b => b = w2.heap.size) hch (fun _ h => h.elim) (fun _ h => .inl h)) (fun ad had h => by have := hA0 ad had (by omega); have h' : ad.block = w2.heap.size := h; omega)).at_ i hi
        have hxi := hx l[i] (List.getElem_mem hi)
        have hi' : (i : Int) < l.length := by omega
        have hi0 : (0 : Int) ≤ i := by omega
        have HT := hid (List.take_succ_eq_append_getElem (l := l.map itSh) (i := i) (by simpa using hi))
        rw [List.getElem_map] at HT
        generalize l[i] = x at hcell hxi HT ⊢
        obtain ⟨z0, z1, z2, z3, z4, z5⟩ := av_cells hR
        have hwr : w2.heap.size < wr.heap.size := hR.lt
        go_wp2_with (first | ((with_reducible refine gate (.call { callee := .builtin .append, args := #[.tmp _, .tmp _], argTypes := #[28, 28] }) rfl ?_); refine wp_appendV rfl _ _ rfl kv i _ wr.heap.size 1 (itSh x) rfl rfl (hO.keep0 ((Ch.refl No wr).alloc _)) (Row.alloc wr (itSh x).c _) (by omega) ?_; intro v1 w7 ho7 hch7 hat7; have R7 := (hR.keep0 ((Ch.refl No wr).alloc (.cells (itSh x).c.toArray 30))).keep hch7 (fun h => by have := hF _ h; omega)) | ((with_reducible refine gate (.store 28 _ _) rfl ?_); refine wp_store rfl rfl 28 _ _ rfl w2.heap.size 3 30 (avc 23 0 ⟨#[]⟩ kv) v1 rfl rfl [v1] (by obtain ⟨A', c', rfl⟩ := ho7.slice; rfl) size_slv (by obtain ⟨A', c', rfl⟩ := ho7.slice; simp [Value.oneCell']) R7 (by simp [avc]) ?_; intro w8 hrow8 hch8))
        go_roundg (gk - 1)
        case measure => omega
        case rel =>
          have hfr : ∀ b, Blk v1 b → w2.heap.size + 1 ≤ b := fun b hb => by
            rcases hat7 b hb with h | h
            · exact hF b h
            · simp only [World.size_alloc] at h
              omega
          refine ⟨i + 1, v1, by omega, by go_num, hrow8, ?_, hfr, ?_⟩
          · rw [HT.out, List.flatMap_append]
            have h := ho7.keep hch8 (fun b hb h => by have h9 : b = w2.heap.size := h; have := hfr b hb; omega)
            simpa using h
          · exact ((hch.alloc _).trans hch7 (fun _ h => h) (fun x hx => .inr (by rw [HW.out]; exact hF x hx))).trans hch8 (fun _ h => h) (fun x hx => .inl hx)
      · obtain rfl : i = l.length := by omega
        have hO' : OwV wr kv (l.map itSh).length ((l.map itSh).flatMap It.c) := by
          rw [List.take_of_length_le (by simp)] at hO
          simpa using hO
        obtain ⟨KB, cb, rfl⟩ := hO'.slice
        obtain ⟨z0, z1, z2, z3, z4, z5⟩ := av_cells hR
        have C9 : Ch No w wr := CW.trans hch (fun _ h => h) (fun x hx => .inr (by have h' : x = w2.heap.size := hx; omega))
        have iN := fun W (h : Rd (Value.int .i16) W A l) => implArrShort A c l W h hm hx
        have tN := tvSh l hx (by omega)
        have hrN := hr.keep0 C9
        obtain ⟨LN, hLN⟩ : ∃ L, L = hdrB l.length 2 97 ++ l.flatMap fun x => be2 (x % 65536) := ⟨_, rfl⟩
        simp only [← hLN] at iN tN
        have IN := hid (iN wr hrN)
        have TN := hid tN
        have HO := hid hO'
        have hql : (l.map itSh).length ≤ 1048576 := by simp; omega
        have hkl : (l.map itSh).length = l.length := by simp
        rw [hkl] at z3 hR
        clear iN tN hLN hO hO'
        go_wp2_with (go_at_call 13; refine IN.out.mono ?_; rintro e w3 ⟨A3, c3, rfl, hr3, hc3, HC3⟩; obtain ⟨y0, y1, y2, y3, y4, y5⟩ := av_cells (hR.keep0 HC3))
        have hww := wrote_yes A3 KB c3 cb LN 23 0 ⟨#[]⟩ (l.map itSh) w3 hr3 hc3 (HO.out.keep0 HC3).rd hql TN.out
        rw [hkl] at hww
        go_wp2_with (go_at_call 10; refine hww.mono ?_; rintro e w4 ⟨rfl, HC4⟩)
        go_ret
        exact ⟨rfl, (C9.no_no HC3).no_no HC4⟩
  · have hg2 : decide ((300 : Int) < l.length) = true := decide_eq_true (by omega)
    go_enter Tryd.func6, Tryd.ntmps6
    go_wp2_with (go_at_call 13; refine I5.out.mono ?_; rintro e w1 ⟨A1, c1, rfl, hr1, hc1, HC1⟩)
    go_wp2_with (go_at_call 10; refine (wrote_yes A1 (some ⟨w1.heap.size, 0, none⟩) c1 1 L5 23 0 ⟨#[]⟩ (([5] : List Int).map itSh) (w1.alloc (.cells (itSh 5).c.toArray 30)) (hr1.keep0 ((Ch.refl No w1).alloc _)) hc1 (fun _ => ⟨w1.heap.size, rfl, fun j u hu => (Row.alloc w1 (itSh 5).c 30).cell j u (by simpa using hu)⟩) (by simp) T5.out).mono ?_; rintro e w2 ⟨rfl, HC2⟩)
    have C2 : Ch No w w2 := ((((Ch.refl No w).alloc _).no_no HC1).alloc _).no_no HC2
    have hrW := (hr.keep0 C2).keep0 ((Ch.refl No w2).alloc AZ)
    have hR0 := Row.alloc w2 (avc 23 0 ⟨#[]⟩ (.slice none 0 0)) 30
    have hW : (w2.alloc (.cells #[.int .i64 23, .int .u64 0, .string ⟨#[]⟩, .slice none 0 0, .int .i64 0, .slice none 0 0] 30)).heap.size = w2.heap.size + 1 := by simp
    have HW := hid hW
    have CW : Ch No w (w2.alloc (.cells #[.int .i64 23, .int .u64 0, .string ⟨#[]⟩, .slice none 0 0, .int .i64 0, .slice none 0 0] 30)) := C2.alloc _
    have hA0 : ∀ ad, A = some ad → 0 < l.length → ad.block < w.heap.size := fun ad had hp => by
      obtain ⟨b, o, e, hcell⟩ := hr.at_ 0 hp
      rw [e] at had
      injection had with had
      subst had
      exact World.block_lt_of_cell? w _ hcell
    have s2 := C2.size
    clear hW
    go_loopg [28] l.length (fun kk s28 wr => ∃ (i : Nat) (kv : Value), kk + i = l.length ∧ s28 = .int .i64 i ∧ Row wr w2.heap.size 30 (avc 23 0 ⟨#[]⟩ kv) ∧ OwV wr kv i (((l.map itSh).take i).flatMap It.c) ∧ (∀ b, Blk kv b → w2.heap.size + 1 ≤ b) ∧ Ch (fun b => b = w2.heap.size) (w2.alloc (.cells #[.int .i64 23, .int .u64 0, .string ⟨#[]⟩, .slice none 0 0, .int .i64 0, .slice none 0 0] 30)) wr)
    case atStart => exact ⟨0, _, by omega, rfl, hR0, OwV.nil _, fun b hb => absurd hb Blk_nil, Ch.refl _ _⟩
    case round =>
      obtain ⟨i, kv, hki, rfl, hR, hO, hF, hch⟩ := hrel
      by_cases hi : i < l.length
      · obtain ⟨bk, off, rfl, hcell⟩ := (hr.keep (CW.trans (T := fun b => b = w2.heap.size) hch (fun _ h => h.elim) (fun _ h => .inl h)) (fun ad had h => by have := hA0 ad had (by omega); have h' : ad.block = w2.heap.size := h; omega)).at_ i hi
        have hxi := hx l[i] (List.getElem_mem hi)
        have hi' : (i : Int) < l.length := by omega
        have hi0 : (0 : Int) ≤ i := by omega
        have HT := hid (List.take_succ_eq_append_getElem (l := l.map itSh) (i := i) (by simpa using hi))
        rw [List.getElem_map] at HT
        generalize l[i] = x at hcell hxi HT ⊢
        obtain ⟨z0, z1, z2, z3, z4, z5⟩ := av_cells hR
        have hwr : w2.heap.size < wr.heap.size := hR.lt
        go_wp2_with (first | ((with_reducible refine gate (.call { callee := .builtin .append, args := #[.tmp _, .tmp _], argTypes := #[28, 28] }) rfl ?_); refine wp_appendV rfl _ _ rfl kv i _ wr.heap.size 1 (itSh x) rfl rfl (hO.keep0 ((Ch.refl No wr).alloc _)) (Row.alloc wr (itSh x).c _) (by omega) ?_; intro v1 w7 ho7 hch7 hat7; have R7 := (hR.keep0 ((Ch.refl No wr).alloc (.cells (itSh x).c.toArray 30))).keep hch7 (fun h => by have := hF _ h; omega)) | ((with_reducible refine gate (.store 28 _ _) rfl ?_); refine wp_store rfl rfl 28 _ _ rfl w2.heap.size 3 30 (avc 23 0 ⟨#[]⟩ kv) v1 rfl rfl [v1] (by obtain ⟨A', c', rfl⟩ := ho7.slice; rfl) size_slv (by obtain ⟨A', c', rfl⟩ := ho7.slice; simp [Value.oneCell']) R7 (by simp [avc]) ?_; intro w8 hrow8 hch8))
        go_roundg (gk - 1)
        case measure => omega
        case rel =>
          have hfr : ∀ b, Blk v1 b → w2.heap.size + 1 ≤ b := fun b hb => by
            rcases hat7 b hb with h | h
            · exact hF b h
            · simp only [World.size_alloc] at h
              omega
          refine ⟨i + 1, v1, by omega, by go_num, hrow8, ?_, hfr, ?_⟩
          · rw [HT.out, List.flatMap_append]
            have h := ho7.keep hch8 (fun b hb h => by have h9 : b = w2.heap.size := h; have := hfr b hb; omega)
            simpa using h
          · exact ((hch.alloc _).trans hch7 (fun _ h => h) (fun x hx => .inr (by rw [HW.out]; exact hF x hx))).trans hch8 (fun _ h => h) (fun x hx => .inl hx)
      · obtain rfl : i = l.length := by omega
        have hO' : OwV wr kv (l.map itSh).length ((l.map itSh).flatMap It.c) := by
          rw [List.take_of_length_le (by simp)] at hO
          simpa using hO
        obtain ⟨KB, cb, rfl⟩ := hO'.slice
        obtain ⟨z0, z1, z2, z3, z4, z5⟩ := av_cells hR
        have C9 : Ch No w wr := CW.trans hch (fun _ h => h) (fun x hx => .inr (by have h' : x = w2.heap.size := hx; omega))
        go_wp2_with fail
        go_ret
        exact ⟨rfl, C9⟩

end Go.Proofs.YtckjclkpgdhcoaaDoor
