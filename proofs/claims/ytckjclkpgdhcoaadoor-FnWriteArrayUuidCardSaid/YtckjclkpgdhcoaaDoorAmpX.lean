/- The walks of AMQP's arrays of uuids: written, read. No condition. -/
import Derived.Test.YtckjclkpgdhcoaaDoorAmpU
import Derived.StillTailTactics
namespace Go.Proofs.YtckjclkpgdhcoaaDoor
set_option linter.unusedVariables false
set_option linter.unusedSimpArgs false
open Go.RowKit

set_option maxRecDepth 100000 in
set_option maxHeartbeats 800000 in
theorem take_152 (A : Option Addr) (c : Nat) (l : List Int) (lv : Int) (w : World) (hr : Rd u8 w A l) (hc : l.length ≤ c) (hn : 16 ≤ l.length) :
    Calls Tryd.prog 34 #[cons 152, .slice A l.length c, .int .i64 lv] w (AOk w A l 16 c (av 17 0 (strOfNums (l.take 16)) (.slice none 0 0))) := by
  unfold cons
  have hR0 : Row (((w.alloc (.cells #[.slice none 0 0, .int .i64 152] 78)).alloc AZ).alloc AZ) (w.heap.size + 1) 30 AZL := by
    have h := (Row.alloc (w.alloc (.cells #[.slice none 0 0, .int .i64 152] 78)) AZL 30).keep0 ((Ch.refl No _).alloc AZ)
    simpa [avc] using h
  have hB0 : Row (((w.alloc (.cells #[.slice none 0 0, .int .i64 152] 78)).alloc AZ).alloc AZ) w.heap.size 78 [.slice none 0 0, .int .i64 152] := ((Row.alloc w _ _).keep0 ((Ch.refl No _).alloc _)).keep0 ((Ch.refl No _).alloc _)
  obtain ⟨hk1, hk1'⟩ := Cut.ahead_h 23 5 Tryd.underlying23 size_u8 A l.length c 16 16 rfl .i64 (by omega)
  obtain ⟨A2, hk2, hk3, hcut⟩ := Cut.ahead_l 23 5 Tryd.underlying23 size_u8 A l.length c 16 16 rfl .i64 hn
  have hlt : (l.take 16).length = 16 := by rw [List.length_take]; omega
  have hconv0 := conv_rd (c := c) (hr.take 16)
  rw [hlt] at hconv0
  have HCV := hid hconv0
  have hd : decide ((l.length : Int) < 16) = false := decide_eq_false (by omega)
  obtain ⟨sx, hsx⟩ : ∃ sx, sx = strOfNums (l.take 16) := ⟨_, rfl⟩
  rw [← hsx] at HCV ⊢
  clear hconv0 hlt hsx
  go_enter Tryd.func34, Tryd.ntmps34
  go_wp2_with (first | (go_at_call 45; refine (kindOf_152 _).mono ?_; rintro e w1 ⟨rfl, HC1⟩; have C01 : Ch No w w1 := Ch.no_no (by repeat (first | exact Ch.refl _ _ | assumption | apply Ch.alloc | apply Ch.drew | apply Ch.drewN)) HC1; have k0 : w1.cell? ⟨w.heap.size, 0, none⟩ = some (.slice none 0 0) := (hB0.keep0 HC1).cell 0 _ rfl; have k1 : w1.cell? ⟨w.heap.size, 1, none⟩ = some (.int .i64 152) := (hB0.keep0 HC1).cell 1 _ rfl; have hcv := HCV.out (w1.alloc (.cells #[.int .i64 17, .int .u64 0, .string ⟨#[]⟩, .slice none 0 0, .int .i64 0, .slice none 0 0] 30)) (C01.alloc _)) | ((with_reducible refine gate (.store 9 _ _) rfl ?_); refine wp_store rfl rfl 9 _ _ rfl w1.heap.size 2 30 (avc 17 0 ⟨#[]⟩ (.slice none 0 0)) (.string sx) rfl rfl [.string sx] rfl size_str (by simp [Value.oneCell', avc]) ((Row.alloc w1 (avc 17 0 ⟨#[]⟩ (.slice none 0 0)) 30)) (by simp [avc]) ?_; intro w3 hrow3 hch3; obtain ⟨c0, c1, c2, c3, c4, c5⟩ := av_cells (show Row w3 w1.heap.size 30 (avc 17 0 sx (.slice none 0 0)) from hrow3)))
  have hRz : Row w3 (w.heap.size + 1) 30 AZL := ((hR0.keep0 HC1).keep0 ((Ch.refl No _).alloc _)).keep hch3 (by have := HC1.size; simp only [World.size_alloc] at this; omega)
  obtain ⟨y0, y1, y2, y3, y4, y5⟩ := av_cells hRz
  have z0 := hRz.frozen 0
  have z1 := hRz.frozen 1
  have z2 := hRz.frozen 2
  have z3 := hRz.frozen 3
  have z4 := hRz.frozen 4
  have z5 := hRz.frozen 5
  go_region
  all_goals
    go_wp2
    obtain ⟨r1, r2⟩ := Row.sets (avc 17 0 sx (.slice none 0 0)) 0 w3 AZL hRz (by simp [avc])
    have R4 : Row ((((((w3.setCell ⟨w.heap.size + 1, 0, none⟩ (.int .i64 17)).setCell ⟨w.heap.size + 1, 1, none⟩ (.int .u64 0)).setCell ⟨w.heap.size + 1, 2, none⟩ (.string sx)).setCell ⟨w.heap.size + 1, 3, none⟩ (.slice none 0 0)).setCell ⟨w.heap.size + 1, 4, none⟩ (.int .i64 0)).setCell ⟨w.heap.size + 1, 5, none⟩ (.slice none 0 0)) (w.heap.size + 1) 30 (avc 17 0 sx (.slice none 0 0)) := r1
    have C4 : Ch (fun k => k = w.heap.size + 1) w3 ((((((w3.setCell ⟨w.heap.size + 1, 0, none⟩ (.int .i64 17)).setCell ⟨w.heap.size + 1, 1, none⟩ (.int .u64 0)).setCell ⟨w.heap.size + 1, 2, none⟩ (.string sx)).setCell ⟨w.heap.size + 1, 3, none⟩ (.slice none 0 0)).setCell ⟨w.heap.size + 1, 4, none⟩ (.int .i64 0)).setCell ⟨w.heap.size + 1, 5, none⟩ (.slice none 0 0)) := r2
    obtain ⟨d0, d1, d2, d3, d4, d5⟩ := av_cells R4
    refine bodyPost_ret (v := .tuple #[av 17 0 sx (.slice none 0 0), .slice A2 (l.length - 16) (c - 16), .bool true]) ?_ rfl ?_
    · simp [results, Tryd.results34, go_sem, av, d0, d1, d2, d3, d4, d5]
    have hs := HC1.size
    simp only [World.size_alloc] at hs
    have C5 : Ch No w ((((((w3.setCell ⟨w.heap.size + 1, 0, none⟩ (.int .i64 17)).setCell ⟨w.heap.size + 1, 1, none⟩ (.int .u64 0)).setCell ⟨w.heap.size + 1, 2, none⟩ (.string sx)).setCell ⟨w.heap.size + 1, 3, none⟩ (.slice none 0 0)).setCell ⟨w.heap.size + 1, 4, none⟩ (.int .i64 0)).setCell ⟨w.heap.size + 1, 5, none⟩ (.slice none 0 0)) := ((C01.alloc _).freshg hch3 (by omega)).freshg C4 (by omega)
    exact ⟨C5.drew, A2, rfl, hcut⟩

theorem flatS {f : ByteArray → List Value} {S : Nat} : ∀ {l : List ByteArray} (hS : ∀ x ∈ l, (f x).length = S) (i : Nat) (hi : i < l.length) (j : Nat), j < S → (l.flatMap f)[i * S + j]? = (f l[i])[j]?
  | [], _, i, hi, _, _ => absurd hi (by simp)
  | x :: l, hS, 0, _, j, hj => by
    rw [List.flatMap_cons, Nat.zero_mul, Nat.zero_add, List.getElem?_append_left (by rw [hS x (by simp)]; exact hj)]
    rfl
  | x :: l, hS, i + 1, hi, j, hj => by
    rw [List.flatMap_cons, List.getElem?_append_right (by rw [hS x (by simp), Nat.succ_mul]; omega), hS x (by simp), show (i + 1) * S + j - S = i * S + j by rw [Nat.succ_mul]; omega]
    exact flatS (fun y hy => hS y (List.mem_cons_of_mem _ hy)) i (by simpa using hi) j hj
def tmu (s : ByteArray) : List Value := (bys s).map (Value.int .u8)
theorem flat16 {l : List ByteArray} (hs : ∀ s ∈ l, s.size = 16) (i : Nat) (hi : i < l.length) (j : Nat) (hj : j < 16) : (l.flatMap tmu)[i * 16 + j]? = (tmu l[i])[j]? := flatS (fun x hx => by rw [tmu, List.length_map, bys_len, hs x hx]) i hi j hj
theorem RdK.sixteen {w : World} {A : Option Addr} {l : List ByteArray} (hs : ∀ s ∈ l, s.size = 16) (h : RdK tmu w A l) (i : Nat) (hi : i < l.length) {b0 b1 b2 b3 b4 b5 b6 b7 b8 b9 b10 b11 b12 b13 b14 b15 : Int} (hb : bys l[i] = [b0, b1, b2, b3, b4, b5, b6, b7, b8, b9, b10, b11, b12, b13, b14, b15]) : ∃ b, A = some ⟨b, 0, none⟩ ∧ w.cell? ⟨b, i * 16, none⟩ = some (.int .u8 b0) ∧ w.cell? ⟨b, i * 16 + 1, none⟩ = some (.int .u8 b1) ∧ w.cell? ⟨b, i * 16 + 2, none⟩ = some (.int .u8 b2) ∧ w.cell? ⟨b, i * 16 + 3, none⟩ = some (.int .u8 b3) ∧ w.cell? ⟨b, i * 16 + 4, none⟩ = some (.int .u8 b4) ∧ w.cell? ⟨b, i * 16 + 5, none⟩ = some (.int .u8 b5) ∧ w.cell? ⟨b, i * 16 + 6, none⟩ = some (.int .u8 b6) ∧ w.cell? ⟨b, i * 16 + 7, none⟩ = some (.int .u8 b7) ∧ w.cell? ⟨b, i * 16 + 8, none⟩ = some (.int .u8 b8) ∧ w.cell? ⟨b, i * 16 + 9, none⟩ = some (.int .u8 b9) ∧ w.cell? ⟨b, i * 16 + 10, none⟩ = some (.int .u8 b10) ∧ w.cell? ⟨b, i * 16 + 11, none⟩ = some (.int .u8 b11) ∧ w.cell? ⟨b, i * 16 + 12, none⟩ = some (.int .u8 b12) ∧ w.cell? ⟨b, i * 16 + 13, none⟩ = some (.int .u8 b13) ∧ w.cell? ⟨b, i * 16 + 14, none⟩ = some (.int .u8 b14) ∧ w.cell? ⟨b, i * 16 + 15, none⟩ = some (.int .u8 b15) := by
  obtain ⟨b, e, hc⟩ := h (by omega)
  have hf : ∀ j, j < 16 → (l.flatMap tmu)[i * 16 + j]? = (tmu l[i])[j]? := fun j hj => flat16 hs i hi j hj
  have ht : tmu l[i] = [Value.int .u8 b0, Value.int .u8 b1, Value.int .u8 b2, Value.int .u8 b3, Value.int .u8 b4, Value.int .u8 b5, Value.int .u8 b6, Value.int .u8 b7, Value.int .u8 b8, Value.int .u8 b9, Value.int .u8 b10, Value.int .u8 b11, Value.int .u8 b12, Value.int .u8 b13, Value.int .u8 b14, Value.int .u8 b15] := by rw [tmu, hb]; rfl
  rw [ht] at hf
  exact ⟨b, e, hc (i * 16 + 0) _ (hf 0 (by omega)), hc (i * 16 + 1) _ (hf 1 (by omega)), hc (i * 16 + 2) _ (hf 2 (by omega)), hc (i * 16 + 3) _ (hf 3 (by omega)), hc (i * 16 + 4) _ (hf 4 (by omega)), hc (i * 16 + 5) _ (hf 5 (by omega)), hc (i * 16 + 6) _ (hf 6 (by omega)), hc (i * 16 + 7) _ (hf 7 (by omega)), hc (i * 16 + 8) _ (hf 8 (by omega)), hc (i * 16 + 9) _ (hf 9 (by omega)), hc (i * 16 + 10) _ (hf 10 (by omega)), hc (i * 16 + 11) _ (hf 11 (by omega)), hc (i * 16 + 12) _ (hf 12 (by omega)), hc (i * 16 + 13) _ (hf 13 (by omega)), hc (i * 16 + 14) _ (hf 14 (by omega)), hc (i * 16 + 15) _ (hf 15 (by omega))⟩

end Go.Proofs.YtckjclkpgdhcoaaDoor
