/- The reference's reader of MessagePack over a value without parts, by its first byte. No condition. -/
import Derived.Test.YtkbjnkhkjgomcaaDoorTakeN
namespace Go.Proofs.YtkbjnkhkjgomcaaDoor
set_option linter.unusedVariables false
set_option linter.unusedSimpArgs false
open Go.RowKit

/-- What lies in the result's block is what comes back. -/
theorem pk_cells {w : World} {g : Nat} {k n x : Int} {s : ByteArray} (h : Row w g 28 [.int .i64 k, .int .u64 n, .string s, .int .i64 x, .slice none 0 0]) :
    w.cell? ⟨g, 0, none⟩ = some (.int .i64 k) ∧ w.cell? ⟨g, 1, none⟩ = some (.int .u64 n) ∧ w.cell? ⟨g, 2, none⟩ = some (.string s) ∧ w.cell? ⟨g, 3, none⟩ = some (.int .i64 x) ∧ w.cell? ⟨g, 4, none⟩ = some (.slice none 0 0) :=
  ⟨h.cell 0 _ rfl, h.cell 1 _ rfl, h.cell 2 _ rfl, h.cell 3 _ rfl, h.cell 4 _ rfl⟩

theorem i8_neg {b : Int} (h0 : 224 ≤ b) (h1 : b < 256) : IntKind.i8.wrap b = b - 256 := by
  simp [IntKind.wrap, IntKind.bits, IntKind.signed]
  omega
set_option maxRecDepth 100000 in
set_option maxHeartbeats 2000000 in
theorem takePack_coded (bk off : Nat) (c : Nat) (b : Int) (r : List Int) (lv : Int) (w : World) (hr : Rd u8 w (some ⟨bk, off, none⟩) (b :: r)) (hb : Byt (b :: r)) (hc : r.length + 1 ≤ c) (hlv : 0 < lv) (h0 : 192 ≤ b) (h1 : b < 224) {k : Nat} {kind num ext : Int} {text : ByteArray} (hcod : ∀ (A' : Option Addr) (c' : Nat) (w' : World), Rd u8 w' A' r → r.length ≤ c' → Calls Tryd.prog 13 #[.int .i64 b, .slice A' r.length c', .int .i64 lv] w' (TOk w' A' r k c' kind num text ext)) :
    Calls Tryd.prog 6 #[.slice (some ⟨bk, off, none⟩) (r.length + 1) c, .int .i64 lv] w (TOk w (some ⟨bk, off, none⟩) (b :: r) (1 + k) c (kind) (num) (text) (ext)) := by
  obtain ⟨hb0, hb1⟩ := hb b (by simp)
  have hbr : Byt r := fun x hx => hb x (by simp [hx])
  have hcell : w.cell? ⟨bk, off, none⟩ = some (.int .u8 b) := by
    obtain ⟨b', o', he, hc'⟩ := hr.at_ 0 (by simp)
    injection he with he
    injection he with he1 he2
    subst he1; subst he2
    exact hc'
  have hcell2 : ((w.alloc ZP).alloc ZP).cell? ⟨bk, off, none⟩ = some (.int .u8 b) := (((Ch.refl No w).alloc _).alloc _).cell0 hcell
  obtain ⟨A', hk2, hk3, hcut⟩ := Cut.ahead_l 22 5 Tryd.underlying22 size_u8 (some ⟨bk, off, none⟩) (r.length + 1) c 1 1 rfl .i64 (by omega)
  simp only [Nat.add_sub_cancel] at hk2 hk3
  have hlv0 : decide (lv ≤ 0) = false := decide_eq_false (by omega)
  have hrd : Rd u8 w A' r := hcut.drop hr (by simp) hc
  have hR0 : Row ((w.alloc ZP).alloc ZP).drew w.heap.size 28 ZL := (Row.alloc w ZL 28).keep0 ((Ch.refl _ _).alloc _).drew
  go_enter Tryd.func6, Tryd.ntmps6
  go_wp2_with fail
  go_region
  all_goals
    go_wp2_with (first | (go_at_call 13; refine (hcod _ _ _ (hrd.keep0 (by repeat (first | exact Ch.refl _ _ | assumption | apply Ch.alloc | apply Ch.drew | apply Ch.drewN))) (by omega)).mono ?_; rintro e w2 ⟨HC2, A2, rfl, hcut2⟩) | ((with_reducible refine gate (.store 28 (.tmp 4) _) rfl ?_); refine wp_store rfl rfl 28 _ _ rfl _ 0 28 ZL (pk (kind) (num) (text) (ext)) rfl rfl [.int .i64 (kind), .int .u64 (num), .string (text), .int .i64 (ext), .slice none 0 0] rfl size_pk (by simp [Value.oneCell']) (hR0.keep0 HC2) (by simp) ?_; intro w3 hrow hch3))
    obtain ⟨c0, c1, c2, c3, c4⟩ := pk_cells hrow
    refine bodyPost_ret (v := .tuple #[pk (kind) (num) (text) (ext), .slice A2 (r.length - k) (c - 1 - k), .bool true]) ?_ rfl ?_
    · simp [results, Tryd.results6, go_sem, pk, c0, c1, c2, c3, c4]
    have hC : Ch No w w3 := (Ch.no_no (by repeat (first | exact Ch.refl _ _ | assumption | apply Ch.alloc | apply Ch.drew | apply Ch.drewN)) HC2).freshg hch3 (Nat.le_refl _)
    exact ⟨hC, A2, by first | rfl | (simp [Nat.sub_sub]; done) | (simp [Nat.sub_sub, Nat.add_comm]), hcut.trans hcut2 (by omega)⟩
set_option maxRecDepth 100000 in
set_option maxHeartbeats 2000000 in
theorem takePack_fix (bk off : Nat) (c : Nat) (b : Int) (r : List Int) (lv : Int) (w : World) (hr : Rd u8 w (some ⟨bk, off, none⟩) (b :: r)) (hb : Byt (b :: r)) (hc : r.length + 1 ≤ c) (hlv : 0 < lv) (h1 : b < 128) :
    Calls Tryd.prog 6 #[.slice (some ⟨bk, off, none⟩) (r.length + 1) c, .int .i64 lv] w (TOk w (some ⟨bk, off, none⟩) (b :: r) (1 + 0) c (3) (b) (⟨#[]⟩) (0)) := by
  obtain ⟨hb0, hb1⟩ := hb b (by simp)
  have hbr : Byt r := fun x hx => hb x (by simp [hx])
  have hcell : w.cell? ⟨bk, off, none⟩ = some (.int .u8 b) := by
    obtain ⟨b', o', he, hc'⟩ := hr.at_ 0 (by simp)
    injection he with he
    injection he with he1 he2
    subst he1; subst he2
    exact hc'
  have hcell2 : ((w.alloc ZP).alloc ZP).cell? ⟨bk, off, none⟩ = some (.int .u8 b) := (((Ch.refl No w).alloc _).alloc _).cell0 hcell
  obtain ⟨A', hk2, hk3, hcut⟩ := Cut.ahead_l 22 5 Tryd.underlying22 size_u8 (some ⟨bk, off, none⟩) (r.length + 1) c 1 1 rfl .i64 (by omega)
  simp only [Nat.add_sub_cancel] at hk2 hk3
  have hlv0 : decide (lv ≤ 0) = false := decide_eq_false (by omega)
  have hrd : Rd u8 w A' r := hcut.drop hr (by simp) hc
  have hR0 : Row ((w.alloc ZP).alloc ZP).drew w.heap.size 28 ZL := (Row.alloc w ZL 28).keep0 ((Ch.refl _ _).alloc _).drew
  have HC2 := Ch.refl No ((w.alloc ZP).alloc ZP).drew
  have hcut2 : Cut A' r.length (c - 1) 0 r.length A' := Cut.id _ _ _
  obtain ⟨A2, hA2⟩ : ∃ x, x = A' := ⟨_, rfl⟩
  subst hA2
  go_enter Tryd.func6, Tryd.ntmps6
  go_wp2_with fail
  go_region
  all_goals
    go_wp2_with (first | fail | ((with_reducible refine gate (.store 28 (.tmp 4) _) rfl ?_); refine wp_store rfl rfl 28 _ _ rfl _ 0 28 ZL (pk (3) (b) (⟨#[]⟩) (0)) rfl rfl [.int .i64 (3), .int .u64 (b), .string (⟨#[]⟩), .int .i64 (0), .slice none 0 0] rfl size_pk (by simp [Value.oneCell']) (hR0.keep0 HC2) (by simp) ?_; intro w3 hrow hch3))
    obtain ⟨c0, c1, c2, c3, c4⟩ := pk_cells hrow
    refine bodyPost_ret (v := .tuple #[pk (3) (b) (⟨#[]⟩) (0), .slice A2 (r.length - 0) (c - 1 - 0), .bool true]) ?_ rfl ?_
    · simp [results, Tryd.results6, go_sem, pk, c0, c1, c2, c3, c4]
    have hC : Ch No w w3 := (Ch.no_no (by repeat (first | exact Ch.refl _ _ | assumption | apply Ch.alloc | apply Ch.drew | apply Ch.drewN)) HC2).freshg hch3 (Nat.le_refl _)
    exact ⟨hC, A2, by first | rfl | (simp [Nat.sub_sub]; done) | (simp [Nat.sub_sub, Nat.add_comm]), hcut.trans hcut2 (by omega)⟩
set_option maxRecDepth 100000 in
set_option maxHeartbeats 2000000 in
theorem takePack_neg (bk off : Nat) (c : Nat) (b : Int) (r : List Int) (lv : Int) (w : World) (hr : Rd u8 w (some ⟨bk, off, none⟩) (b :: r)) (hb : Byt (b :: r)) (hc : r.length + 1 ≤ c) (hlv : 0 < lv) (h1 : 224 ≤ b) :
    Calls Tryd.prog 6 #[.slice (some ⟨bk, off, none⟩) (r.length + 1) c, .int .i64 lv] w (TOk w (some ⟨bk, off, none⟩) (b :: r) (1 + 0) c (2) (IntKind.u64.wrap (b - 256)) (⟨#[]⟩) (0)) := by
  obtain ⟨hb0, hb1⟩ := hb b (by simp)
  have hbr : Byt r := fun x hx => hb x (by simp [hx])
  have hcell : w.cell? ⟨bk, off, none⟩ = some (.int .u8 b) := by
    obtain ⟨b', o', he, hc'⟩ := hr.at_ 0 (by simp)
    injection he with he
    injection he with he1 he2
    subst he1; subst he2
    exact hc'
  have hcell2 : ((w.alloc ZP).alloc ZP).cell? ⟨bk, off, none⟩ = some (.int .u8 b) := (((Ch.refl No w).alloc _).alloc _).cell0 hcell
  obtain ⟨A', hk2, hk3, hcut⟩ := Cut.ahead_l 22 5 Tryd.underlying22 size_u8 (some ⟨bk, off, none⟩) (r.length + 1) c 1 1 rfl .i64 (by omega)
  simp only [Nat.add_sub_cancel] at hk2 hk3
  have hlv0 : decide (lv ≤ 0) = false := decide_eq_false (by omega)
  have hrd : Rd u8 w A' r := hcut.drop hr (by simp) hc
  have hR0 : Row ((w.alloc ZP).alloc ZP).drew w.heap.size 28 ZL := (Row.alloc w ZL 28).keep0 ((Ch.refl _ _).alloc _).drew
  have hi8 := i8_neg h1 hb1
  have HC2 := Ch.refl No ((w.alloc ZP).alloc ZP).drew
  have hcut2 : Cut A' r.length (c - 1) 0 r.length A' := Cut.id _ _ _
  obtain ⟨A2, hA2⟩ : ∃ x, x = A' := ⟨_, rfl⟩
  subst hA2
  go_enter Tryd.func6, Tryd.ntmps6
  go_wp2_with fail
  go_region
  all_goals
    go_wp2_with (first | fail | ((with_reducible refine gate (.store 28 (.tmp 4) _) rfl ?_); refine wp_store rfl rfl 28 _ _ rfl _ 0 28 ZL (pk (2) (IntKind.u64.wrap (b - 256)) (⟨#[]⟩) (0)) rfl rfl [.int .i64 (2), .int .u64 (IntKind.u64.wrap (b - 256)), .string (⟨#[]⟩), .int .i64 (0), .slice none 0 0] rfl size_pk (by simp [Value.oneCell']) (hR0.keep0 HC2) (by simp) ?_; intro w3 hrow hch3))
    obtain ⟨c0, c1, c2, c3, c4⟩ := pk_cells hrow
    refine bodyPost_ret (v := .tuple #[pk (2) (IntKind.u64.wrap (b - 256)) (⟨#[]⟩) (0), .slice A2 (r.length - 0) (c - 1 - 0), .bool true]) ?_ rfl ?_
    · simp [results, Tryd.results6, go_sem, pk, c0, c1, c2, c3, c4]
    have hC : Ch No w w3 := (Ch.no_no (by repeat (first | exact Ch.refl _ _ | assumption | apply Ch.alloc | apply Ch.drew | apply Ch.drewN)) HC2).freshg hch3 (Nat.le_refl _)
    exact ⟨hC, A2, by first | rfl | (simp [Nat.sub_sub]; done) | (simp [Nat.sub_sub, Nat.add_comm]), hcut.trans hcut2 (by omega)⟩

end Go.Proofs.YtkbjnkhkjgomcaaDoor
