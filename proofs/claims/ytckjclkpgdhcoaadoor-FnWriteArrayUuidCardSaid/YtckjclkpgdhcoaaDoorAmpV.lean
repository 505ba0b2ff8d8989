/- The walks of the reference's reader of AMQP over whole values, and of its comparison of numbers. No condition. -/
import Derived.Test.YtckjclkpgdhcoaaDoorAmpN
namespace Go.Proofs.YtckjclkpgdhcoaaDoor
set_option linter.unusedVariables false
set_option linter.unusedSimpArgs false
open Go.RowKit

/-- A list of Values that the call has made. -/
def OwV (w : World) (v : Value) (n : Nat) (cells : List Value) : Prop := w.ownsRow 0 30 6 v n cells
theorem OwV.nil (w : World) : OwV w (.slice none 0 0) 0 [] := World.ownsRow_nil w 0 _ 6
theorem OwV.keep {w w' : World} {v : Value} {n : Nat} {cells : List Value} {S : Nat → Prop} (h : OwV w v n cells) (k : Ch S w w') (hn : ∀ b, Blk v b → ¬ S b) : OwV w' v n cells := by
  refine ⟨h.1, ?_⟩
  rcases h.2 with h0 | ⟨g, cap, cur, hv, hb, hg, rest⟩
  · exact .inl h0
  · have hlt : g < w.heap.size := (Array.getElem?_eq_some_iff.1 hg).1
    exact .inr ⟨g, cap, cur, hv, hb, (k.block g hlt (hn g (by subst hv; rfl))).trans hg, rest⟩
theorem OwV.keep0 {w w' : World} {v : Value} {n : Nat} {cells : List Value} (h : OwV w v n cells) (k : Ch No w w') : OwV w' v n cells := h.keep k (fun _ _ h => h)
theorem OwV.slice {w : World} {v : Value} {n : Nat} {cells : List Value} (h : OwV w v n cells) : ∃ A c, v = .slice A n c := by
  rcases h.2 with ⟨rfl, rfl⟩ | ⟨g, cap, cur, hv, _⟩
  · exact ⟨none, 0, rfl⟩
  · exact ⟨_, _, hv⟩
theorem OwV.cell {w : World} {A : Option Addr} {m c n : Nat} {cells : List Value} (h : OwV w (.slice A m c) n cells) (hn : 0 < n) : ∃ g, A = some ⟨g, 0, none⟩ ∧ ∀ j u, cells[j]? = some u → w.cell? ⟨g, j, none⟩ = some u := by
  rcases h.2 with ⟨_, h0⟩ | ⟨g, cap, cur, hv, hb, hg, hnc, hcm, hcs, htk⟩
  · omega
  · injection hv with hA _ _
    refine ⟨g, hA, fun j u hj => ?_⟩
    subst htk
    rw [List.getElem?_take] at hj
    split at hj
    · have hrow : Row w g 30 cur.toList := by unfold Row; rw [Array.toArray_toList]; exact hg
      exact hrow.cell j u hj
    · cases hj
/-- A value was read: its kids lie in a list of m. -/
def AOkV (w : World) (A : Option Addr) (l : List Int) (n c : Nat) (k num : Int) (s : ByteArray) (m : Nat) (cells : List Value) (e : Ending) (w' : World) : Prop :=
  Ch No w w' ∧ ∃ A' kids of, e = .returned (.tuple #[avo k num s kids of, .slice A' (l.length - n) (c - n), .bool true]) ∧ Cut A l.length c n l.length A' ∧ OwV w' kids m cells ∧ Fr w kids
theorem AOk.v {w : World} {A : Option Addr} {l : List Int} {n c : Nat} {k num : Int} {s : ByteArray} {e : Ending} {w' : World} (h : AOk w A l n c (av k num s (.slice none 0 0)) e w') : AOkV w A l n c k num s 0 [] e w' := by
  obtain ⟨h1, A', h2, h3⟩ := h
  exact ⟨h1, A', _, 0, h2, h3, OwV.nil _, Fr.nil _ _ _⟩
theorem one_kids {w : World} {kids : Value} {m : Nat} {cells : List Value} (h : OwV w kids m cells) (k num : Int) (s : ByteArray) (of : Int) : ∀ q ∈ avoc k num s kids of, q.oneCell' = true := by
  obtain ⟨A, c, rfl⟩ := h.slice
  simp [avoc, Value.oneCell']
theorem av_cells_eq {w : World} {kids : Value} {m : Nat} {cells : List Value} (h : OwV w kids m cells) (k num : Int) (s : ByteArray) (of : Int) : (avo k num s kids of).cells.toList = avoc k num s kids of := by
  obtain ⟨A, c, rfl⟩ := h.slice
  rfl
set_option maxRecDepth 100000 in
set_option maxHeartbeats 2000000 in
theorem takeVal (bk off c : Nat) (b : Int) (r : List Int) (lv : Int) (w : World) (hr : Rd u8 w (some ⟨bk, off, none⟩) (b :: r)) (h0 : 0 < b) (h1 : b < 256) (hc : r.length + 1 ≤ c) (hlv : 0 < lv) {n : Nat} {k num : Int} {s : ByteArray} {m : Nat} {cells : List Value}
    (ht : ∀ (A' : Option Addr) (c' : Nat) (w' : World), Rd u8 w' A' r → r.length ≤ c' → Calls Tryd.prog 34 #[cons b, .slice A' r.length c', .int .i64 lv] w' (AOkV w' A' r n c' k num s m cells)) :
    Calls Tryd.prog 23 #[.slice (some ⟨bk, off, none⟩) (r.length + 1) c, .int .i64 lv] w (AOkV w (some ⟨bk, off, none⟩) (b :: r) (1 + n) c k num s m cells) := by
  have hR0 := Row.alloc w AZL 30
  have HT := hid ht
  clear ht
  go_enter Tryd.func23, Tryd.ntmps23
  go_wp2_with (first | (go_at_call 33; refine (takeCons bk off c b r lv _ (hr.keep0 ((Ch.refl No w).alloc _)) h0 h1 hc hlv).mono ?_; rintro e w1 ⟨HC1, A1, rfl, hcut1⟩; unfold cons; have hrd1 := (hcut1.drop (hr.keep0 (((Ch.refl No w).alloc _).no_no HC1)) rfl hc)) | (go_at_call 34; refine (HT.out A1 (c - 1) _ (hrd1.keep0 ((Ch.refl No w1).alloc _)) (by omega)).mono ?_; rintro e w2 ⟨HC2, A2, kids, of, rfl, hcut2, how, hfr⟩; unfold avo) | ((with_reducible refine gate (.store 30 _ _) rfl ?_); refine wp_store rfl rfl 30 _ _ rfl w.heap.size 0 30 AZL (avo k num s kids of) rfl rfl (avoc k num s kids of) (av_cells_eq how k num s of) size_av (one_kids how k num s of) ((hR0.keep0 HC1).keep0 (((Ch.refl No w1).alloc _).no_no HC2)) (by simp [avc, avoc]) ?_; intro w3 hrow3 hch3))

  obtain ⟨d0, d1, d2, d3, d4, d5⟩ := avo_cells (show Row w3 w.heap.size 30 (avoc k num s kids of) from hrow3)
  refine bodyPost_ret (v := .tuple #[avo k num s kids of, .slice A2 (r.length - n) (c - 1 - n), .bool true]) ?_ rfl ?_
  · simp [results, Tryd.results23, go_sem, avo, d0, d1, d2, d3, d4, d5]
  have hs := HC1.size
  simp only [World.size_alloc] at hs
  have hs2 : w1.heap.size ≤ (w1.alloc (.cells #[.slice none 0 0, .int .i64 b] 78)).heap.size := by simp
  refine ⟨((((((Ch.refl No w).alloc _).no_no HC1).alloc _).no_no HC2).freshg hch3 (Nat.le_refl _)), A2, kids, of, ?_, hcut1.trans hcut2 (by simp), how.keep hch3 (fun x hx e => ?_), hfr.weak (by omega)⟩
  · simp [Nat.sub_sub, Nat.add_comm]
  · subst e
    have := hfr _ hx
    omega
set_option maxRecDepth 100000 in
set_option maxHeartbeats 2000000 in
theorem sameV_num (k n : Int) (s : ByteArray) (w : World)  :
    Calls Tryd.prog 24 #[av k n s (.slice none 0 0), av k n s (.slice none 0 0)] w fun e w' => e = .returned (.bool true) ∧ Ch No w w' := by
  unfold av
  go_enter Tryd.func24, Tryd.ntmps24
  go_wp2_with fail
  refine wp_loop_rounds 1 ?_
  rw [rounds_succ]
  go_wp2_with fail
  go_quiet (fail)
  go_wp2
  go_ret
  exact ⟨rfl, by repeat (first | exact Ch.refl _ _ | apply Ch.alloc | apply Ch.drew | apply Ch.drewN)⟩

end Go.Proofs.YtckjclkpgdhcoaaDoor
