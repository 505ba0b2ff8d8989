/- The walk of AMQP's writer of arrays of integers: a sample. No condition. -/
import Derived.Test.YtbdgkikipekmlaaDoorWrB
import Derived.Deep.LoopGhost
namespace Go.Proofs.YtbdgkikipekmlaaDoor
set_option linter.unusedVariables false
set_option linter.unusedSimpArgs false
open Go.RowKit

set_option maxRecDepth 100000 in
set_option maxHeartbeats 2000000 in
theorem arrHead_calls (base p : Nat) (l : List Int) (sz code : Int) (w : World) (hB : Bf base p l w) (hl : l.length ≤ 1099511620000) (hs0 : 0 ≤ sz) (hs1 : sz ≤ 100) (hc0 : 0 ≤ code) (hc1 : code < 256) :
    Calls Tryd.prog 78 #[.pointer (some ⟨p, 0, none⟩), .int .i64 1, .int .i64 sz, .int .u8 code] w (BfTo base p (l ++ [224, sz + 2, 1, code]) w) := by
  have h1 : IntKind.i64.wrap (sz + 2) = sz + 2 := by simp [IntKind.wrap, IntKind.bits, IntKind.signed]; omega
  have h2 : decide (sz + 2 ≤ 255) = true := decide_eq_true (by omega)
  have h3 : IntKind.u8.wrap (sz + 2) = sz + 2 := by simp [IntKind.wrap, IntKind.bits, IntKind.signed]; omega
  have h4 : IntKind.i64.wrap sz = sz := by simp [IntKind.wrap, IntKind.bits, IntKind.signed]; omega
  go_enter Tryd.func78, Tryd.ntmps78
  go_wp2_with fail
  refine (bufAppend base p l _ _ 4 [224, sz + 2, 1, code] _ (hB.keep0 ((Ch.refl No w).alloc _)) (by omega) ((Row.alloc w [u8 224, u8 (sz + 2), u8 1, u8 code] 5).rd (l := [224, sz + 2, 1, code]) rfl) rfl (by omega)).mono ?_
  rintro e w1 ⟨rfl, hB1, hch1⟩
  go_wp2_with fail
  first | go_end0 | refine bodyPost_ret (results_none rfl _ _ _) rfl ?_
  exact ⟨rfl, hB1, ((Ch.refl (From base) w).alloc _).from_from hch1⟩
set_option maxRecDepth 100000 in
set_option maxHeartbeats 2000000 in
theorem marshI32_one (base p : Nat) (l : List Int) (A : Option Addr) (c : Nat) (w : World) (hB : Bf base p l w) (hl : l.length ≤ 1000) (hr : Rd (Value.int .i32) w A [5]) (hA : ∀ ad, A = some ad → ad.block < base) :
    Calls Tryd.prog 57 #[.slice A 1 c, .pointer (some ⟨p, 0, none⟩)] w (MTo base p (l ++ [224, 3, 1, 84, 5]) w) := by
  go_enter Tryd.func57, Tryd.ntmps57
  go_wp2_with fail
  go_loopg [5, 6, 15] 1 (fun kk s5 s6 s15 wr => s5 = .int .i64 1 ∧ s6 = .int .u8 84 ∧ Ch No w wr ∧ ((kk = 1 ∧ s15 = .int .i64 0) ∨ (kk = 0 ∧ s15 = .int .i64 1)))
  case atStart => exact ⟨rfl, rfl, Ch.refl _ _, .inl ⟨rfl, rfl⟩⟩
  case round =>
    rename World => wA
    obtain ⟨rfl, rfl, hch0, hrel⟩ := hrel
    rcases hrel with ⟨hk1, rfl⟩ | ⟨hk1, rfl⟩
    · obtain ⟨bk, off, rfl, hcell⟩ := (hr.keep0 hch0).at_ 0 (by simp)
      simp only [Nat.add_zero, List.getElem_cons_zero] at hcell
      go_wp2_with fail
      go_roundg 0
      case measure => omega
      case rel => exact ⟨rfl, rfl, hch0, .inr ⟨rfl, by go_num⟩⟩
    have hBA := hB.keep0 hch0
    have hrA := hr.keep0 hch0
    go_wp2_with fail
    refine (arrHead_calls base p l 1 84 wA hBA (by omega) (by omega) (by omega) (by omega) (by omega)).mono ?_
    rintro e w1 ⟨rfl, hB1, hch1⟩
    have hr1 := hrA.keep hch1 (fun ad had h => by have := hA ad had; simp only [From] at h; omega)
    go_wp2_with fail
    go_loopg [43] 1 (fun kk s43 wr => Ch (From base) w1 wr ∧ ((kk = 1 ∧ s43 = .int .i64 0 ∧ Bf base p (l ++ [224, 3, 1, 84]) wr) ∨ (kk = 0 ∧ s43 = .int .i64 1 ∧ Bf base p (l ++ [224, 3, 1, 84, 5]) wr)))
    case atStart => exact ⟨Ch.refl _ _, .inl ⟨rfl, rfl, hB1⟩⟩
    case round =>
      rename World => wr
      obtain ⟨hch, hrel⟩ := hrel
      rcases hrel with ⟨hk1, rfl, hBr⟩ | ⟨hk1, rfl, hBr⟩
      · obtain ⟨bk, off, rfl, hcell⟩ := (hr1.keep hch (fun ad had h => by have := hA ad had; simp only [From] at h; omega)).at_ 0 (by simp)
        simp only [Nat.add_zero, List.getElem_cons_zero] at hcell
        go_wp2_with fail
        refine (bufByte base p _ 5 wr hBr (by simp; omega)).mono ?_
        rintro e w2 ⟨rfl, hB2, hch2⟩
        go_wp2_with fail
        go_roundg 0
        case measure => omega
        case rel => exact ⟨hch.from_from hch2, .inr ⟨rfl, by go_num, by simpa using hB2⟩⟩
      · go_wp2_with fail
        go_ret
        exact ⟨rfl, hBr, (hch0.mono (T := From base) (fun _ h => h.elim)).from_from (hch1.from_from hch)⟩
theorem info_wi32 : (Tryd.prog.info? 21).map (fun i => (i.zero, i.size, i.bytes)) = some (some (.int .i32 0), 1, 4) := by kernel_rfl
set_option maxRecDepth 100000 in
set_option maxHeartbeats 2000000 in
theorem implWriteI32 (A : Option Addr) (c : Nat) (w : World) (hr : Rd (Value.int .i32) w A [5]) :
    Calls Tryd.prog 26 #[.slice A 1 c] w (WTo w ([224, 3, 1, 84, 5])) := by
  obtain ⟨L, hL⟩ : ∃ L : List Int, L = [224, 3, 1, 84, 5] := ⟨_, rfl⟩
  rw [← hL]
  have hLl : L.length ≤ 1099511620000 := by rw [hL]; simp
  have HL := hid hL
  clear hL
  have R0 : Row ((w.alloc (.cells #[.slice none 0 0] 26)).alloc (.cells #[.bool false] 4)) w.heap.size 26 [.slice none 0 0] := (Row.alloc w [.slice none 0 0] 26).keep0 ((Ch.refl No _).alloc _)
  have R1 := Row.alloc (w.alloc (.cells #[.slice none 0 0] 26)) [.bool false] 4
  have e1 : (w.alloc (.cells #[.slice none 0 0] 26)).heap.size = w.heap.size + 1 := by simp
  rw [e1] at R1
  have C0 : Ch No w ((w.alloc (.cells #[.slice none 0 0] 26)).alloc (.cells #[.bool false] 4)) := ((Ch.refl No w).alloc _).alloc _
  have e2 : ((w.alloc (.cells #[.slice none 0 0] 26)).alloc (.cells #[.bool false] 4)).heap.size = w.heap.size + 1 + 1 := by simp
  have E2 := hid e2
  have hr0 := hr.keep0 C0
  clear e1 e2
  go_enter_defers Tryd.func26, Tryd.ntmps26
  go_wp2_with fail
  go_loopg [4, 10] 1 (fun kk s4 s10 wr => (kk = 1 ∧ s10 = .int .i64 0 ∧ s4 = .slice none 0 0 ∧ Ch No ((w.alloc (.cells #[.slice none 0 0] 26)).alloc (.cells #[.bool false] 4)) wr) ∨ (kk = 0 ∧ s10 = .int .i64 1 ∧ ∃ AA ca, s4 = .slice AA 1 ca ∧ Ow 21 (Value.int .i32) wr (.slice AA 1 ca) [5] ∧ (∀ b, Blk (.slice AA 1 ca) b → ((w.alloc (.cells #[.slice none 0 0] 26)).alloc (.cells #[.bool false] 4)).heap.size ≤ b) ∧ Ch No ((w.alloc (.cells #[.slice none 0 0] 26)).alloc (.cells #[.bool false] 4)) wr))
  case atStart => exact .inl ⟨rfl, rfl, rfl, Ch.refl _ _⟩
  case round =>
    rcases hrel with ⟨hk1, rfl, rfl, hch⟩ | ⟨hk1, rfl, AA, ca, rfl, HO, hfr, hch⟩
    · obtain ⟨bk, off, rfl, hcell⟩ := (hr0.keep0 hch).at_ 0 (by simp)
      simp only [Nat.add_zero, List.getElem_cons_zero] at hcell
      replace hcell : wr.cell? ⟨bk, off, none⟩ = some (Value.int .i32 5) := hcell
      go_wp2_with ((with_reducible refine gate (.call { callee := .builtin .append, args := #[.tmp _, .tmp _], argTypes := #[103, 103] }) rfl ?_); refine wp_append rfl _ _ 103 21 (.int .i32 0) 4 rfl Tryd.underlying103 info_wi32 rfl (by decide) (Value.int .i32) (fun _ => rfl) (.slice none 0 0) [] [5] _ _ _ rfl rfl rfl (Ow.nil _ _ _) ((Row.alloc wr [Value.int .i32 5] 21).rd (l := [5]) rfl) (by simp) ?_; intro v1 w2 ho2 hch2 hat2)
      rw [List.nil_append] at ho2
      obtain ⟨AA, ca, rfl, _, _⟩ := ho2.slice
      go_roundg 0
      case measure => omega
      case rel =>
        have hs := hch.size
        refine .inr ⟨rfl, by go_num, AA, ca, rfl, ho2, fun b hb => ?_, (hch.alloc _).trans hch2 (fun _ h => h) (fun b hb => absurd hb Blk_nil)⟩
        rcases hat2 b hb with h | h
        · exact absurd h Blk_nil
        · simp only [World.size_alloc] at h hs ⊢
          omega
    · have hB := bf_new wr
      have hAA : ∀ ad, AA = some ad → ad.block < wr.heap.size := fun ad had => HO.blk_lt _ (by subst had; rfl)
      have s0 := hch.size
      rw [E2.out] at s0
      have K0 := (R0.keep0 hch)
      have K1 := (R1.keep0 hch)
      have hma := marshI32_one wr.heap.size wr.heap.size [] AA ca (wr.alloc (.cells #[.slice none 0 0, .int .i64 0] 66)) hB (by simp) (HO.rd.keep0 ((Ch.refl No wr).alloc _)) hAA
      rw [List.nil_append, ← HL.out] at hma
      have HMA := hid hma
      clear hma
      go_wp2_with fail
      refine HMA.out.mono ?_
      rintro e w4 ⟨rfl, hBf, hchf⟩
      go_wp2_with (first | (go_at_call 35; refine (bufBytes _ _ _ _ hBf).mono ?_; rintro e w5 ⟨A5, c5, rfl, hrd5, hle5, hch5⟩) | (go_at_call 34; refine (copied_calls A5 c5 _ _ (hrd5.keep0 hch5) (by omega)).mono ?_; rintro e w6 ⟨v6, rfl, ho6, hf6, hch6⟩; obtain ⟨A6, c6, rfl, hle6, _⟩ := ho6.slice; have M0 := ((K0.keep0 ((Ch.refl No _).alloc _)).keep hchf (fun h => by simp only [From] at h; omega)).keep0 (hch5.no_no hch6); have M1 := ((K1.keep0 ((Ch.refl No _).alloc _)).keep hchf (fun h => by simp only [From] at h; omega)).keep0 (hch5.no_no hch6)) | ((with_reducible refine gate (.store 26 (.tmp 2) _) rfl ?_); refine wp_store rfl rfl 26 _ _ rfl (w.heap.size) 0 26 [.slice none 0 0] (.slice A6 L.length c6) rfl rfl [.slice A6 L.length c6] rfl size_sl (by simp [Value.oneCell']) (M0) (by simp) ?_; intro w7 hrow7 hch7) | ((with_reducible refine gate (.store 4 (.tmp 3) _) rfl ?_); refine wp_store rfl rfl 4 _ _ rfl (w.heap.size + 1) 0 4 [.bool false] (.bool true) rfl rfl [.bool true] rfl size_bool (by simp [Value.oneCell']) (M1.keep hch7 (by omega)) (by simp) ?_; intro w8 hrow8 hch8))
      refine leaves_cons (f := 31) (args := #[.pointer (some ⟨w.heap.size, 0, none⟩), .pointer (some ⟨w.heap.size + 1, 0, none⟩)]) (by simp) (by simp [go_sem]) ?_
      refine (noData_idle _ _ _).mono ?_
      rintro e u' w'' ⟨rfl, rfl, rfl⟩
      have N0 := (hrow7.keep hch8 (by omega)).cell 0 _ rfl
      have N1 := hrow8.cell 0 _ rfl
      have HC : Ch No w w'' := ((((((C0.no_no hch).alloc _).from_no hchf (by omega)).no_no hch5).no_no hch6).freshg hch7 (Nat.le_refl _)).freshg hch8 (by omega)
      have s4 := hchf.size
      simp only [World.size_alloc] at s4
      have s5 := hch5.size
      have hr8 := (ho6.rd.keep hch7 (fun ad had h => by subst had; have := hf6 _ rfl; omega)).keep hch8 (fun ad had h => by subst had; have := hf6 _ rfl; omega)
      refine ⟨.tuple #[.slice A6 L.length c6, .bool true], ?_, A6, c6, rfl, hr8, hle6, HC⟩
      simp [results, Tryd.results26, go_sem, N0, N1]

end Go.Proofs.YtbdgkikipekmlaaDoor
