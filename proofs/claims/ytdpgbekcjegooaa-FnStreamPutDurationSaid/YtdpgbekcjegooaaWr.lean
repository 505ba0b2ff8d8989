/- The walks of MessagePack's Writer over a Text: what was written, and what waits in the buffer. No condition. -/
import Derived.Test.YtdpgbekcjegooaaPut
import Derived.Test.YtdpgbekcjegooaaCodec
import Derived.Test.YtdpgbekcjegooaaExt
import Derived.Deep.RegionWith
import Derived.RegionTactic
import Derived.ChangeAlike
import Derived.StillTailTactics
namespace Go.Proofs.Ytdpgbekcjegooaa
set_option linter.unusedVariables false
set_option linter.unusedSimpArgs false
open Go.RowKit

def TextTo (w : World) (t : Nat) (vB : Value) (out : List Int) (w' : World) : Prop :=
  ∃ v, Row w' t 74 [v] ∧ Ow 5 u8 w' v out ∧ Ch (fun b => b = t ∨ Blk vB b) w w' ∧ (∀ b, Blk v b → Blk vB b ∨ w.heap.size ≤ b)
theorem size_sl : (Try.prog.info? 23).map (·.size) = some 1 := by kernel_rfl
set_option maxHeartbeats 1000000 in
theorem textWrite_calls (t m c : Nat) (vB : Value) (A : Option Addr) (done ys : List Int) (w : World) (hR : Row w t 74 [vB]) (hO : Ow 5 u8 w vB done) (hn : ¬ Blk vB t) (hr : Rd u8 w A ys) (hm : ys.length = m) (hl : done.length + m ≤ 140737488355328) :
    Calls Try.prog 77 #[.pointer (some ⟨t, 0, none⟩), .slice A m c] w fun e w' => e = .returned (.tuple #[.int .i64 m, .nilIface]) ∧ TextTo w t vB (done ++ ys) w' := by
  have hc0 := hR.cell 0 vB rfl
  have HM := hid hm
  clear hm
  go_enter Try.func77, Try.ntmps77
  go_wp2_with (first
    | ((with_reducible refine gate (.call { callee := .builtin .append, args := #[.tmp 10, .tmp 11], argTypes := #[23, 23] }) rfl ?_); refine wp_append rfl _ _ 23 5 (.int .u8 0) 1 rfl Try.underlying23 info_u8 rfl (by decide) u8 (fun _ => rfl) vB done ys _ _ _ rfl rfl HM.out hO hr (by omega) ?_; intro v1 w1 ho hch hat)
    | ((with_reducible refine gate (.store 23 _ _) rfl ?_); refine wp_store rfl rfl 23 _ _ rfl t 0 74 [vB] v1 rfl rfl [v1] (by obtain ⟨A', c', rfl, _, _⟩ := ho.slice; rfl) size_sl (by obtain ⟨A', c', rfl, _, _⟩ := ho.slice; simp [Value.oneCell']) (hR.keep hch hn) (by simp) ?_; intro w2 hrow2 hch2))
  go_ret2
  refine ⟨rfl, v1, by simpa using hrow2, ho.keep hch2 (fun b hb hbt => ?_), ?_, hat⟩
  · subst hbt
    rcases hat b hb with h | h
    · exact hn h
    · have := hR.lt
      omega
  · exact hch.trans hch2 (fun _ h => .inr h) (fun _ h => .inl (.inl h))

/-- A Writer at block p over the Text at block t, its buffer of N bytes in block g, k of them waiting. -/
structure WrS (base p t g N k : Nat) (vB : Value) (bl done : List Int) (w : World) : Prop where
  rp : Row w p 98 [.iface 76 (.pointer (some ⟨t, 0, none⟩)), .slice (some ⟨g, 0, none⟩) N N, .int .i64 k]
  rg : ∃ cur, Row w g 5 cur ∧ cur.length = N ∧ cur.take k = bl.map u8
  rt : Row w t 74 [vB]
  ow : Ow 5 u8 w vB done
  len : bl.length = k
  kN : k ≤ N
  n0 : 18 ≤ N
  n1 : N ≤ 65536
  bp : base ≤ p
  bt : base ≤ t
  bg : base ≤ g
  bv : ∀ b, Blk vB b → base ≤ b
  pt : p ≠ t
  pg : p ≠ g
  tg : t ≠ g
  vp : ¬ Blk vB p
  vt : ¬ Blk vB t
  vg : ¬ Blk vB g
theorem method_write (a : Addr) (w : World) : (method 227 76 (.pointer (some a)) "Write").run Try.prog w = .ok (77, .pointer (some a)) w := by kernel_rfl
theorem nil_write (a : Addr) (w : World) : (nilAhead 227 76 (.pointer (some a)) "Write").run Try.prog w = .ok (some false) w := by kernel_rfl
abbrev From (base : Nat) : Nat → Prop := fun b => base ≤ b
theorem WrS.notin_p {base p t g N k : Nat} {vB : Value} {bl done : List Int} {w : World} (h : WrS base p t g N k vB bl done w) : ¬ (p = t ∨ Blk vB p) := fun hx => hx.elim h.pt h.vp
theorem size_i64 : (Try.prog.info? 3).map (·.size) = some 1 := by kernel_rfl
theorem flushed {base p t g N k : Nat} {vB v2 : Value} {bl done : List Int} {w w2 w3 : World} (h : WrS base p t g N k vB bl done w) (hrow2 : Row w2 t 74 [v2]) (ho2 : Ow 5 u8 w2 v2 (done ++ bl)) (hch2 : Ch (fun b => b = t ∨ Blk vB b) w.drew w2) (hat2 : ∀ b, Blk v2 b → Blk vB b ∨ w.drew.heap.size ≤ b)
    (hrow3 : Row w3 p 98 (List.take 2 [.iface 76 (.pointer (some ⟨t, 0, none⟩)), .slice (some ⟨g, 0, none⟩) N N, .int .i64 k] ++ [.int .i64 0] ++ List.drop (2 + [Value.int .i64 0].length) [.iface 76 (.pointer (some ⟨t, 0, none⟩)), .slice (some ⟨g, 0, none⟩) N N, .int .i64 k])) (hch3 : Ch (fun b => b = p) w2 w3) :
    (∃ vB', WrS base p t g N 0 vB' [] (done ++ bl) w3) ∧ Ch (From base) w w3 := by
  have hp : p < w.heap.size := h.rp.lt
  have ht : t < w.heap.size := h.rt.lt
  obtain ⟨cur, g1, g2, g3⟩ := h.rg
  have hg : g < w.heap.size := g1.lt
  have fresh : ∀ b, w.drew.heap.size ≤ b → b ≠ p ∧ b ≠ t ∧ b ≠ g := fun b hb => by
    have hb' : w.heap.size ≤ b := hb
    omega
  have old : ∀ b, Blk v2 b → b ≠ p ∧ b ≠ t ∧ b ≠ g := fun b hb => by
    rcases hat2 b hb with h1 | h1
    · exact ⟨fun e => h.vp (e ▸ h1), fun e => h.vt (e ▸ h1), fun e => h.vg (e ▸ h1)⟩
    · exact fresh b h1
  refine ⟨⟨v2, ⟨by simpa using hrow3, ⟨cur, ?_, g2, by simp⟩, hrow2.keep hch3 (fun e => h.pt e.symm), ho2.keep hch3 (fun b hb e => (old b hb).1 e), rfl, Nat.zero_le _, h.n0, h.n1, h.bp, h.bt, h.bg, fun b hb => ?_, h.pt, h.pg, h.tg, fun hb => (old p hb).1 rfl, fun hb => (old t hb).2.1 rfl, fun hb => (old g hb).2.2 rfl⟩⟩, ?_⟩
  · exact ((show Row w.drew g 5 cur from g1).keep hch2 (fun hx => hx.elim (fun e => h.tg e.symm) h.vg)).keep hch3 (fun e => h.pg e.symm)
  · rcases hat2 b hb with h1 | h1
    · exact h.bv b h1
    · have h2 : w.heap.size ≤ b := h1
      have := h.bp
      omega
  · refine Ch.trans (Ch.trans (Ch.refl (From base) w).drew hch2 (fun _ h => h) (fun b hb => .inl ?_)) hch3 (fun _ h => h) (fun b hb => .inl ?_)
    · rcases hb with rfl | hb
      · exact h.bt
      · exact h.bv b hb
    · subst hb; exact h.bp
set_option maxRecDepth 100000 in
set_option maxHeartbeats 4000000 in
theorem flush_some (base p t g N k : Nat) (vB : Value) (bl done : List Int) (w : World) (h : WrS base p t g N k vB bl done w) (hk : 0 < k) (hl : done.length ≤ 1099511627776) :
    Calls Try.prog 50 #[.pointer (some ⟨p, 0, none⟩)] w fun e w' => e = .returned .nilIface ∧ (∃ vB', WrS base p t g N 0 vB' [] (done ++ bl) w') ∧ Ch (From base) w w' := by
  have c0 := h.rp.cell 0 _ rfl
  have c1 := h.rp.cell 1 _ rfl
  have c2 := h.rp.cell 2 _ rfl
  have hk0 : ((k : Int) == 0) = false := by simp; omega
  have hkN := h.kN
  have hn0 := h.n0
  have hn1 := h.n1
  obtain ⟨hk1, hk1'⟩ := Cut.ahead_h 23 5 Try.underlying23 size_u8 (some ⟨g, 0, none⟩) N N k k rfl .i64 (by omega)
  have hm1 := method_write ⟨t, 0, none⟩
  have hm2 := nil_write ⟨t, 0, none⟩
  have hrd : Rd u8 w.drew (some ⟨g, 0, none⟩) bl := by
    obtain ⟨cur, h1, h2, h3⟩ := h.rg
    exact (show Row w.drew g 5 cur from h1).rd (by rw [List.drop_zero, h.len]; exact h3)
  go_enter Try.func50, Try.ntmps50
  go_wp2_with fail
  go_region_with ((go_at_call 77; refine (textWrite_calls t k N vB (some ⟨g, 0, none⟩) done bl w.drew (h.rt.keep0 (Ch.refl _ _).drew) (h.ow.keep0 (Ch.refl _ _).drew) h.vt hrd h.len (by omega)).mono ?_; rintro e w2 ⟨rfl, v2, hrow2, ho2, hch2, hat2⟩; have d0 := hch2.cell c0 h.notin_p; have d1 := hch2.cell c1 h.notin_p; have d2 := hch2.cell c2 h.notin_p; have f2 := (hch2.frozen (h.rp.lt : p < w.drew.heap.size) h.notin_p).trans (h.rp.frozen 2)))
  all_goals
    go_wp2
    go_ret
    have hrp : Row w.drew p 98 [.iface 76 (.pointer (some ⟨t, 0, none⟩)), .slice (some ⟨g, 0, none⟩) N N, .int .i64 k] := h.rp
    obtain ⟨r1, r2⟩ := Row.sets [.int .i64 0] 2 w2 _ (hrp.keep hch2 h.notin_p) (by simp)
    exact ⟨rfl, flushed h hrow2 ho2 hch2 hat2 r1 r2⟩
theorem flush_any (base p t g N k : Nat) (vB : Value) (bl done : List Int) (w : World) (h : WrS base p t g N k vB bl done w) (hl : done.length ≤ 1099511627776) :
    Calls Try.prog 50 #[.pointer (some ⟨p, 0, none⟩)] w fun e w' => e = .returned .nilIface ∧ (∃ vB', WrS base p t g N 0 vB' [] (done ++ bl) w') ∧ Ch (From base) w w' := by
  by_cases hk : 0 < k
  · exact flush_some base p t g N k vB bl done w h hk hl
  · obtain rfl : k = 0 := by omega
    obtain rfl : bl = [] := List.eq_nil_of_length_eq_zero h.len
    have c2 := h.rp.cell 2 _ rfl
    go_enter Try.func50, Try.ntmps50
    go_wp2
    go_ret
    exact ⟨rfl, ⟨vB, by simpa using h⟩, Ch.refl _ _⟩
end Go.Proofs.Ytdpgbekcjegooaa
