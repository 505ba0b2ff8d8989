/- The walks of AMQP's Buffer over which a value is written. No condition. -/
import Derived.Test.YtbdgkikipekmlaaDoorBas
import Derived.RegionTactic
import Derived.ChangeAlike
import Derived.StillTailTactics
namespace Go.Proofs.YtbdgkikipekmlaaDoor
set_option linter.unusedVariables false
set_option linter.unusedSimpArgs false
open Go.RowKit

abbrev From (base : Nat) : Nat → Prop := fun b => base ≤ b
theorem size_slb : (Tryd.prog.info? 26).map (·.size) = some 1 := by kernel_rfl
/-- A Buffer at block p, all of it made at or behind block 'base', holds the bytes l. -/
structure BfS (base p : Nat) (v : Value) (l : List Int) (w : World) : Prop where
  rp : Row w p 66 [v, .int .i64 0]
  ow : Ow 5 u8 w v l
  bp : base ≤ p
  bv : ∀ b, Blk v b → base ≤ b
  vp : ¬ Blk v p
def Bf (base p : Nat) (l : List Int) (w : World) : Prop := ∃ v, BfS base p v l w
def BfTo (base p : Nat) (l : List Int) (w : World) (e : Ending) (w' : World) : Prop := e = .returned (.tuple #[]) ∧ Bf base p l w' ∧ Ch (From base) w w'
theorem BfS.keep0 {base p : Nat} {v : Value} {l : List Int} {w w' : World} (h : BfS base p v l w) (k : Ch No w w') : BfS base p v l w' := ⟨h.rp.keep0 k, h.ow.keep0 k, h.bp, h.bv, h.vp⟩
theorem Bf.keep0 {base p : Nat} {l : List Int} {w w' : World} (h : Bf base p l w) (k : Ch No w w') : Bf base p l w' := h.elim fun v h => ⟨v, h.keep0 k⟩
theorem Ch.from_from {base : Nat} {a b c : World} (h : Ch (From base) a b) (k : Ch (From base) b c) : Ch (From base) a c := h.trans k (fun _ h => h) (fun _ h => .inl h)
theorem Ch.from_alloc {base : Nat} {a b : World} (h : Ch (From base) a b) (o : Obj) : Ch (From base) a (b.alloc o) := h.alloc o
/-- What lay ahead of 'base' is as it was. -/
theorem Ch.from_no {base : Nat} {w a b : World} (h : Ch No w a) (k : Ch (From base) a b) (hb : w.heap.size ≤ base) : Ch No w b := h.trans k (fun _ h => h) (fun x hx => .inr (Nat.le_trans hb hx))
theorem bf_stored {base p : Nat} {v v1 : Value} {l ys : List Int} {w w0 w1 w2 : World} (h : BfS base p v l w) (h0 : Ch No w w0) (ho : Ow 5 u8 w1 v1 (l ++ ys)) (hch : Ch (Blk v) w0 w1) (hat : ∀ k, Blk v1 k → Blk v k ∨ w0.heap.size ≤ k)
    (hrow : Row w2 p 66 (List.take 0 [v, .int .i64 0] ++ [v1] ++ List.drop (0 + [v1].length) [v, .int .i64 0])) (hch2 : Ch (fun b => b = p) w1 w2) : Bf base p (l ++ ys) w2 ∧ Ch (From base) w w2 := by
  have hp := h.rp.lt
  have hs := h0.size
  have hbp := h.bp
  have hn : ¬ Blk v1 p := fun hb => by
    rcases hat p hb with h1 | h1
    · exact h.vp h1
    · omega
  refine ⟨⟨v1, ⟨by simpa using hrow, ho.keep hch2 (fun b hb hbt => hn (hbt ▸ hb)), h.bp, fun b hb => ?_, hn⟩⟩, ?_⟩
  · rcases hat b hb with h1 | h1
    · exact h.bv b h1
    · omega
  · exact (h0.trans hch (fun _ h => h.elim) (fun x hx => .inl (h.bv x hx)) : Ch (From base) w w1).trans hch2 (fun _ h => h) (fun x hx => .inl (by subst hx; exact hbp))
set_option maxHeartbeats 1000000 in
theorem bufAppend (base p : Nat) (l : List Int) (A : Option Addr) (c m : Nat) (ys : List Int) (w : World) (hB0 : Bf base p l w) (hl : l.length ≤ 1099511627776) (hr : Rd u8 w A ys) (hm : ys.length = m) (hy : m ≤ 1099511627776) :
    Calls Tryd.prog 73 #[.pointer (some ⟨p, 0, none⟩), .slice A m c] w (BfTo base p (l ++ ys) w) := by
  obtain ⟨v, hB⟩ := hB0
  have hc0 := hB.rp.cell 0 _ rfl
  subst hm
  go_enter Tryd.func73, Tryd.ntmps73
  go_wp2_with (first | ((with_reducible refine gate (.call { callee := .builtin .append, args := #[.tmp _, .tmp _], argTypes := #[26, 26] }) rfl ?_); refine wp_append rfl _ _ 26 5 (.int .u8 0) 1 rfl Tryd.underlying26 info_u8 rfl (by decide) u8 (fun _ => rfl) v l ys _ _ _ rfl rfl rfl (hB.ow.keep0 (Ch.refl No w)) hr (by simp; omega) ?_; intro v1 w1 ho hch hat) | ((with_reducible refine gate (.store 26 _ _) rfl ?_); refine wp_store rfl rfl 26 _ _ rfl p 0 66 [v, .int .i64 0] v1 rfl rfl [v1] (by obtain ⟨A', c', rfl, _, _⟩ := ho.slice; rfl) size_slb (by obtain ⟨A', c', rfl, _, _⟩ := ho.slice; simp [Value.oneCell']) ((hB.rp.keep0 (Ch.refl No w)).keep hch hB.vp) (by simp) ?_; intro w2 hrow2 hch2))
  first | go_end0 | refine bodyPost_ret (results_none rfl _ _ _) rfl ?_
  obtain ⟨r1, r2⟩ := bf_stored hB (Ch.refl No w) ho hch hat hrow2 hch2
  exact ⟨rfl, r1, r2⟩
set_option maxHeartbeats 1000000 in
theorem bufByte (base p : Nat) (l : List Int) (x : Int) (w : World) (hB0 : Bf base p l w) (hl : l.length ≤ 1099511627776)  :
    Calls Tryd.prog 74 #[.pointer (some ⟨p, 0, none⟩), .int .u8 x] w (BfTo base p (l ++ [x]) w) := by
  obtain ⟨v, hB⟩ := hB0
  have hc0 := hB.rp.cell 0 _ rfl
  go_enter Tryd.func74, Tryd.ntmps74
  go_wp2_with (first | ((with_reducible refine gate (.call { callee := .builtin .append, args := #[.tmp _, .tmp _], argTypes := #[26, 26] }) rfl ?_); refine wp_append rfl _ _ 26 5 (.int .u8 0) 1 rfl Tryd.underlying26 info_u8 rfl (by decide) u8 (fun _ => rfl) v l [x] _ _ _ rfl rfl rfl (hB.ow.keep0 ((Ch.refl No w).alloc _)) ((Row.alloc w [u8 (x)] 5).rd (l := [x]) rfl) (by simp; omega) ?_; intro v1 w1 ho hch hat) | ((with_reducible refine gate (.store 26 _ _) rfl ?_); refine wp_store rfl rfl 26 _ _ rfl p 0 66 [v, .int .i64 0] v1 rfl rfl [v1] (by obtain ⟨A', c', rfl, _, _⟩ := ho.slice; rfl) size_slb (by obtain ⟨A', c', rfl, _, _⟩ := ho.slice; simp [Value.oneCell']) ((hB.rp.keep0 ((Ch.refl No w).alloc _)).keep hch hB.vp) (by simp) ?_; intro w2 hrow2 hch2))
  first | go_end0 | refine bodyPost_ret (results_none rfl _ _ _) rfl ?_
  obtain ⟨r1, r2⟩ := bf_stored hB ((Ch.refl No w).alloc _) ho hch hat hrow2 hch2
  exact ⟨rfl, r1, r2⟩
set_option maxHeartbeats 1000000 in
theorem buf16 (base p : Nat) (l : List Int) (x : Int) (w : World) (hB0 : Bf base p l w) (hl : l.length ≤ 1099511627776) (h0 : 0 ≤ x) (h1 : x < 65536) :
    Calls Tryd.prog 79 #[.pointer (some ⟨p, 0, none⟩), .int .u16 x] w (BfTo base p (l ++ (be2 x)) w) := by
  obtain ⟨v, hB⟩ := hB0
  have hc0 := hB.rp.cell 0 _ rfl
  unfold be2
  go_enter Tryd.func79, Tryd.ntmps79
  go_wp2_with (first | ((with_reducible refine gate (.call { callee := .builtin .append, args := #[.tmp _, .tmp _], argTypes := #[26, 26] }) rfl ?_); refine wp_append rfl _ _ 26 5 (.int .u8 0) 1 rfl Tryd.underlying26 info_u8 rfl (by decide) u8 (fun _ => rfl) v l (be2 x) _ _ _ rfl rfl rfl (hB.ow.keep0 ((Ch.refl No w).alloc _)) ((Row.alloc w [u8 (x / 256), u8 (x % 256)] 5).rd (l := [x / 256, x % 256]) rfl) (by simp; omega) ?_; intro v1 w1 ho hch hat) | ((with_reducible refine gate (.store 26 _ _) rfl ?_); refine wp_store rfl rfl 26 _ _ rfl p 0 66 [v, .int .i64 0] v1 rfl rfl [v1] (by obtain ⟨A', c', rfl, _, _⟩ := ho.slice; rfl) size_slb (by obtain ⟨A', c', rfl, _, _⟩ := ho.slice; simp [Value.oneCell']) ((hB.rp.keep0 ((Ch.refl No w).alloc _)).keep hch hB.vp) (by simp) ?_; intro w2 hrow2 hch2))
  first | go_end0 | refine bodyPost_ret (results_none rfl _ _ _) rfl ?_
  obtain ⟨r1, r2⟩ := bf_stored hB ((Ch.refl No w).alloc _) ho hch hat hrow2 hch2
  exact ⟨rfl, r1, r2⟩
set_option maxHeartbeats 1000000 in
theorem buf32 (base p : Nat) (l : List Int) (x : Int) (w : World) (hB0 : Bf base p l w) (hl : l.length ≤ 1099511627776) (h0 : 0 ≤ x) (h1 : x < 4294967296) :
    Calls Tryd.prog 75 #[.pointer (some ⟨p, 0, none⟩), .int .u32 x] w (BfTo base p (l ++ (be4 x)) w) := by
  obtain ⟨v, hB⟩ := hB0
  have hc0 := hB.rp.cell 0 _ rfl
  unfold be4
  go_enter Tryd.func75, Tryd.ntmps75
  go_wp2_with (first | ((with_reducible refine gate (.call { callee := .builtin .append, args := #[.tmp _, .tmp _], argTypes := #[26, 26] }) rfl ?_); refine wp_append rfl _ _ 26 5 (.int .u8 0) 1 rfl Tryd.underlying26 info_u8 rfl (by decide) u8 (fun _ => rfl) v l (be4 x) _ _ _ rfl rfl rfl (hB.ow.keep0 ((Ch.refl No w).alloc _)) ((Row.alloc w [u8 (x / 16777216), u8 ((x / 65536) % 256), u8 ((x / 256) % 256), u8 (x % 256)] 5).rd (l := [x / 16777216, (x / 65536) % 256, (x / 256) % 256, x % 256]) rfl) (by simp; omega) ?_; intro v1 w1 ho hch hat) | ((with_reducible refine gate (.store 26 _ _) rfl ?_); refine wp_store rfl rfl 26 _ _ rfl p 0 66 [v, .int .i64 0] v1 rfl rfl [v1] (by obtain ⟨A', c', rfl, _, _⟩ := ho.slice; rfl) size_slb (by obtain ⟨A', c', rfl, _, _⟩ := ho.slice; simp [Value.oneCell']) ((hB.rp.keep0 ((Ch.refl No w).alloc _)).keep hch hB.vp) (by simp) ?_; intro w2 hrow2 hch2))
  first | go_end0 | refine bodyPost_ret (results_none rfl _ _ _) rfl ?_
  obtain ⟨r1, r2⟩ := bf_stored hB ((Ch.refl No w).alloc _) ho hch hat hrow2 hch2
  exact ⟨rfl, r1, r2⟩
set_option maxHeartbeats 1000000 in
theorem buf64 (base p : Nat) (l : List Int) (x : Int) (w : World) (hB0 : Bf base p l w) (hl : l.length ≤ 1099511627776) (h0 : 0 ≤ x) (h1 : x < 18446744073709551616) :
    Calls Tryd.prog 90 #[.pointer (some ⟨p, 0, none⟩), .int .u64 x] w (BfTo base p (l ++ (be8 x)) w) := by
  obtain ⟨v, hB⟩ := hB0
  have hc0 := hB.rp.cell 0 _ rfl
  unfold be8
  go_enter Tryd.func90, Tryd.ntmps90
  go_wp2_with (first | ((with_reducible refine gate (.call { callee := .builtin .append, args := #[.tmp _, .tmp _], argTypes := #[26, 26] }) rfl ?_); refine wp_append rfl _ _ 26 5 (.int .u8 0) 1 rfl Tryd.underlying26 info_u8 rfl (by decide) u8 (fun _ => rfl) v l (be8 x) _ _ _ rfl rfl rfl (hB.ow.keep0 ((Ch.refl No w).alloc _)) ((Row.alloc w [u8 (x / 72057594037927936), u8 ((x / 281474976710656) % 256), u8 ((x / 1099511627776) % 256), u8 ((x / 4294967296) % 256), u8 ((x / 16777216) % 256), u8 ((x / 65536) % 256), u8 ((x / 256) % 256), u8 (x % 256)] 5).rd (l := [x / 72057594037927936, (x / 281474976710656) % 256, (x / 1099511627776) % 256, (x / 4294967296) % 256, (x / 16777216) % 256, (x / 65536) % 256, (x / 256) % 256, x % 256]) rfl) (by simp; omega) ?_; intro v1 w1 ho hch hat) | ((with_reducible refine gate (.store 26 _ _) rfl ?_); refine wp_store rfl rfl 26 _ _ rfl p 0 66 [v, .int .i64 0] v1 rfl rfl [v1] (by obtain ⟨A', c', rfl, _, _⟩ := ho.slice; rfl) size_slb (by obtain ⟨A', c', rfl, _, _⟩ := ho.slice; simp [Value.oneCell']) ((hB.rp.keep0 ((Ch.refl No w).alloc _)).keep hch hB.vp) (by simp) ?_; intro w2 hrow2 hch2))
  first | go_end0 | refine bodyPost_ret (results_none rfl _ _ _) rfl ?_
  obtain ⟨r1, r2⟩ := bf_stored hB ((Ch.refl No w).alloc _) ho hch hat hrow2 hch2
  exact ⟨rfl, r1, r2⟩

end Go.Proofs.YtbdgkikipekmlaaDoor
