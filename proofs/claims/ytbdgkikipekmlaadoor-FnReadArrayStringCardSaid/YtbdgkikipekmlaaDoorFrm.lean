/- The walks of the reference's writer of heads: forms that are chosen, numbers in bytes. No condition. -/
import Derived.Test.YtbdgkikipekmlaaDoorBas
import Derived.Deep.LoopGhost
import Derived.Deep.AppendLies
import Derived.RegionTactic
namespace Go.Proofs.YtbdgkikipekmlaaDoor
set_option linter.unusedVariables false
set_option linter.unusedSimpArgs false
open Go.RowKit

/-- A number in s bytes, the highest first. -/
def bg (u : Int) (s : Nat) : List Int := (List.range s).map fun j => u / 256 ^ (s - 1 - j) % 256
theorem bg_len (u : Int) (s : Nat) : (bg u s).length = s := by simp [bg]
theorem byt_bg (u : Int) (s : Nat) : Byt (bg u s) := fun x hx => by
  obtain ⟨j, _, rfl⟩ := List.mem_map.1 hx
  omega
theorem bg_at (u : Int) (s j : Nat) (hj : j < (bg u s).length) (i : Nat) (hi : s - 1 - j = i) : (bg u s)[j] = u / 256 ^ i % 256 := by
  simp [bg, hi]
set_option maxRecDepth 100000 in
set_option maxHeartbeats 2000000 in
theorem big_calls (u : Int) (s : Nat) (w : World) (hs0 : 0 < s) (hs : s ≤ 8) (h0 : 0 ≤ u) (h1 : u < 18446744073709551616) :
    Calls Tryd.prog 105 #[.int .u64 u, .int .i64 s] w fun e w' => ∃ v, e = .returned v ∧ Ow 5 u8 w' v (bg u s) ∧ Fr w v ∧ Ch No w w' := by
  go_enter Tryd.func105, Tryd.ntmps105
  go_wp2_with fail
  go_loopg [5, 6] s (fun kk s5 s6 wr => ∃ j : Nat, kk + j = s ∧ s6 = .int .i64 ((s : Int) - 1 - j) ∧ Ow 5 Go.Proofs.YtbdgkikipekmlaaDoor.u8 wr s5 ((bg u s).take j) ∧ Ch No w wr ∧ Fr w s5)
  case atStart => exact ⟨0, by omega, by simp, Ow.nil _ _ _, Ch.refl _ _, Fr.nil _ _ _⟩
  case round =>
    obtain ⟨j, hkj, rfl, HO, hch, hfr⟩ := hrel
    by_cases hj : j < s
    · obtain ⟨i, hi⟩ : ∃ i, i = s - 1 - j := ⟨_, rfl⟩
      have hii : (s : Int) - 1 - j = i := by omega
      rw [hii]
      have hjl : j < (bg u s).length := by rw [bg_len]; exact hj
      have HT := hid (List.take_succ_eq_append_getElem hjl)
      have hat := bg_at u s j hjl i hi.symm
      rw [hat] at HT
      have hj1 : ((s : Int) - 1 - (j + 1 : Nat)) = (i : Int) - 1 := by omega
      have HJ := hid hj1
      have hlt : ((bg u s).take j).length ≤ 8 := by rw [List.length_take, bg_len]; omega
      have hi8 : i = 0 ∨ i = 1 ∨ i = 2 ∨ i = 3 ∨ i = 4 ∨ i = 5 ∨ i = 6 ∨ i = 7 := by omega
      clear hii hat hj1 hi
      rcases hi8 with rfl | rfl | rfl | rfl | rfl | rfl | rfl | rfl
      all_goals
        try simp only [Int.reducePow, Int.ediv_one] at HT
        go_wp2_with ((with_reducible refine gate (.call { callee := .builtin .append, args := #[.tmp _, .tmp _], argTypes := #[26, 26] }) rfl ?_); refine wp_append rfl _ _ 26 5 (.int .u8 0) 1 rfl Tryd.underlying26 info_u8 rfl (by decide) Go.Proofs.YtbdgkikipekmlaaDoor.u8 (fun _ => rfl) _ ((bg u s).take j) [_] _ _ _ rfl rfl rfl (HO.keep0 ((Ch.refl No wr).alloc _)) (Row.one wr _) (by simp; omega) ?_; intro v1 w2 ho2 hch2 hat2)
        go_roundg (gk - 1)
        case measure => omega
        case rel =>
          have hs := hch.size
          refine ⟨j + 1, by omega, by rw [HJ.out]; first | rfl | go_num, by rw [HT.out]; first | exact ho2 | (rw [show u / 72057594037927936 % 256 = u / 72057594037927936 by omega]; exact ho2) | simpa using ho2, (hch.alloc _).fresh hch2 hfr, fun b hb => ?_⟩
          rcases hat2 b hb with h | h
          · exact hfr b h
          · simp only [World.size_alloc] at h
            omega
    · obtain rfl : j = s := by omega
      rw [List.take_of_length_le (by rw [bg_len]; omega)] at HO
      rw [show (j : Int) - 1 - j = -1 by omega]
      go_wp2_with fail
      go_ret
      exact ⟨_, rfl, HO, hfr, hch⟩
/-- The choices: their block, and nothing more is told of it. -/
def Fm (w : World) (pf : Nat) : Prop := ∃ st sh, Row w pf 86 [.int .u64 st, .bool sh] ∧ 0 ≤ st ∧ st < 18446744073709551616
theorem Fm.keep {S : Nat → Prop} {w w' : World} {pf : Nat} (h : Fm w pf) (k : Ch S w w') (hn : ¬ S pf) : Fm w' pf := by
  obtain ⟨st, sh, hr, hb⟩ := h
  exact ⟨st, sh, hr.keep k hn, hb⟩
theorem Fm.keep0 {w w' : World} {pf : Nat} (h : Fm w pf) (k : Ch No w w') : Fm w' pf := h.keep k (fun h => h)
theorem Fm.lt {w : World} {pf : Nat} (h : Fm w pf) : pf < w.heap.size := by
  obtain ⟨st, sh, hr, _⟩ := h
  exact hr.lt
theorem size_u64 : (Tryd.prog.info? 22).map (·.size) = some 1 := by kernel_rfl
def PkTo (pf n : Nat) (w : World) (e : Ending) (w' : World) : Prop := ∃ k : Nat, (k < n ∨ (n = 0 ∧ k = 0)) ∧ e = .returned (.int .i64 k) ∧ Fm w' pf ∧ Ch (fun b => b = pf) w w'
set_option maxRecDepth 100000 in
set_option maxHeartbeats 1000000 in
theorem pick_calls (pf n : Nat) (w : World) (hF : Fm w pf) (hn : n ≤ 1000000) :
    Calls Tryd.prog 70 #[.pointer (some ⟨pf, 0, none⟩), .int .i64 n] w (PkTo pf n w) := by
  obtain ⟨st, sh, hr, hs0, hs1⟩ := hF
  have c0 := hr.cell 0 _ rfl
  have c1 := hr.cell 1 _ rfl
  by_cases hsh : sh = true ∨ n ≤ 1
  · have hfin : PkTo pf n w (.returned (.int .i64 0)) w := ⟨0, by omega, rfl, ⟨st, sh, hr, hs0, hs1⟩, Ch.refl _ _⟩
    by_cases h1 : sh = true
    · subst h1
      go_enter Tryd.func70, Tryd.ntmps70
      go_wp2_with fail
      go_ret
      exact hfin
    · obtain rfl : sh = false := by simpa using h1
      have hd : decide ((n : Int) ≤ 1) = true := decide_eq_true (by simp at hsh; omega)
      go_enter Tryd.func70, Tryd.ntmps70
      go_wp2_with fail
      go_ret
      exact hfin
  · obtain rfl : sh = false := by simp at hsh; exact hsh.1
    have hn1 : 1 < n := by simp at hsh; omega
    have hd : decide ((n : Int) ≤ 1) = false := decide_eq_false (by omega)
    obtain ⟨X, hX⟩ : ∃ X, IntKind.u64.wrap (IntKind.u64.wrap (st * 6364136223846793005) + 1442695040888963407) = X := ⟨_, rfl⟩
    have hX0 : 0 ≤ X ∧ X < 18446744073709551616 := by
      rw [← hX]
      simp [IntKind.wrap, IntKind.bits, IntKind.signed]
      omega
    obtain ⟨hx0, hx1⟩ := hX0
    go_enter Tryd.func70, Tryd.ntmps70
    go_wp2_with ((with_reducible refine gate (.store 22 _ _) rfl ?_); refine wp_store rfl rfl 22 _ _ rfl pf 0 86 [.int .u64 st, .bool false] (.int .u64 X) rfl rfl [.int .u64 X] rfl size_u64 (by simp [Value.oneCell']) hr (by simp) ?_; intro w2 hrow2 hch2; have d0 : w2.cell? ⟨pf, 0, none⟩ = some (.int .u64 X) := hrow2.cell 0 _ rfl)
    go_ret
    have h1 := Int.emod_nonneg (X / 8589934592) (b := n) (by omega)
    have h2 := Int.emod_lt_of_pos (X / 8589934592) (b := n) (by omega)
    obtain ⟨k, hk⟩ := Int.eq_ofNat_of_zero_le h1
    rw [hk]
    exact ⟨k, .inl (by omega), rfl, ⟨X, false, hrow2, hx0, hx1⟩, hch2⟩
/-- The bytes of a form: its code, its size. -/
def fmc (f : Int × Nat) : List Value := [.int .i64 f.1, .int .i64 f.2]
def okf (u : Int) (f : Int × Nat) : Bool := decide (8 ≤ f.2) || decide (u / 256 ^ f.2 = 0)
theorem Row.alloc2 (w : World) (o : Obj) (cur : List Value) (e : TypeId) : Row ((w.alloc o).alloc (.cells cur.toArray e)) (w.heap.size + 1) e cur := by
  have h := Row.alloc (w.alloc o) cur e
  rwa [World.size_alloc] at h
theorem okf_1 (u c : Int) : okf u (c, 1) = decide (u / 256 = 0) := rfl
theorem okf_2 (u c : Int) : okf u (c, 2) = decide (u / 65536 = 0) := rfl
theorem okf_4 (u c : Int) : okf u (c, 4) = decide (u / 4294967296 = 0) := rfl
theorem okf_8 (u c : Int) : okf u (c, 8) = true := rfl
theorem RdK.form {w : World} {A : Option Addr} {l : List (Int × Nat)} (h : RdK fmc w A l) (i : Nat) (hi : i < l.length) : ∃ b, A = some ⟨b, 0, none⟩ ∧ w.cell? ⟨b, i * 2, none⟩ = some (.int .i64 l[i].1) ∧ w.cell? ⟨b, i * 2 + 1, none⟩ = some (.int .i64 l[i].2) := by
  obtain ⟨b, e, hc⟩ := h (by omega)
  exact ⟨b, e, hc (i * 2 + 0) _ (by rw [flatK (S := 2) (fun _ => rfl) l i hi 0 (by omega)]; rfl), hc (i * 2 + 1) _ (by rw [flatK (S := 2) (fun _ => rfl) l i hi 1 (by omega)]; rfl)⟩
theorem info_form : (Tryd.prog.info? 166).map (fun i => (i.zero, i.size, i.bytes)) = some (some (.agg #[.int .i64 0, .int .i64 0]), 2, 16) := by kernel_rfl
end Go.Proofs.YtbdgkikipekmlaaDoor
