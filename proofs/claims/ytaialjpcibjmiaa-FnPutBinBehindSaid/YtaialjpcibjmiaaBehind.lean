/- The walks behind 'bytes for whose head two bytes were left are bytes behind what was there'. No condition. -/
import Derived.Test.YtaialjpcibjmiaaLawP
import Derived.Test.YtaialjpcibjmiaaCodec
import Derived.Test.YtaialjpcibjmiaaTakeT
import Derived.StillTailTactics
namespace Go.Proofs.Ytaialjpcibjmiaa
set_option linter.unusedVariables false
set_option linter.unusedSimpArgs false
open Go.RowKit

theorem Rd.wide {w : World} {A : Option Addr} {l : List Int} (h : Rd u8 w A l) : Rd u8 w A l := h
/-- Behind the writing of a head over room that was left. -/
theorem over_put {w1 : World} {g : Nat} {cur : List Value} (l junk enc d : List Int) (he : junk.length = enc.length) (hrow : Row w1 g 5 cur) (hle : (l ++ (enc ++ d)).length ≤ cur.length) (hmx : cur.length ≤ maxLen) (htk : cur.take (l ++ (enc ++ d)).length = (l ++ (junk ++ d)).map u8) :
    Ow 5 u8 (w1.setCells g l.length (enc.map u8)) (.slice (some ⟨g, 0, none⟩) (l ++ (enc ++ d)).length cur.length) (l ++ (enc ++ d)) ∧ Ch (fun k => k = g) w1 (w1.setCells g l.length (enc.map u8)) := by
  have hfit : l.length + (enc.map u8).length ≤ cur.length := by simp at hle ⊢; omega
  obtain ⟨h1, h2⟩ := Row.sets (enc.map u8) l.length w1 cur hrow hfit
  refine ⟨?_, h2⟩
  have hl : (cur.take l.length ++ enc.map u8 ++ cur.drop (l.length + (enc.map u8).length)).length = cur.length := by simp at hfit ⊢; omega
  have e1 : cur.take l.length = l.map u8 := by
    have e0 : cur.take l.length = (cur.take (l ++ (enc ++ d)).length).take l.length := by rw [List.take_take, Nat.min_eq_left (by simp)]
    rw [e0, htk, List.map_append, List.take_append_of_le_length (by simp), List.take_of_length_le (by simp)]
  have e2 : (cur.drop (l.length + enc.length)).take d.length = d.map u8 := by
    have := congrArg (List.drop (l.length + enc.length)) htk
    rw [List.drop_take] at this
    rw [show (l ++ (enc ++ d)).length - (l.length + enc.length) = d.length by simp; omega] at this
    rw [this]
    rw [← he]
    simp [← List.drop_drop]
  have h3 := h1.ow (f := u8) (l := l ++ (enc ++ d)) (by
    rw [e1, List.length_map, List.map_append, List.map_append, List.append_assoc]
    rw [List.take_append, List.take_of_length_le (by simp), List.length_map]
    congr 1
    rw [List.take_append, List.take_of_length_le (by simp), List.length_map]
    congr 1
    rw [← e2]
    congr 1
    simp) (by rw [hl]; exact hle) (by rw [hl]; exact hmx)
  rw [hl] at h3
  exact h3
def BehTo (w : World) (vin : Value) (r : List Int) (e : Ending) (w' : World) : Prop := ∃ v, e = .returned v ∧ Ow 5 u8 w' v r ∧ Ch (Blk vin) w w' ∧ ∀ k, Blk v k → Blk vin k ∨ w.heap.size ≤ k
theorem hoff (L s : Nat) (k : Nat) : ((L : Int) + (2 + s) - s - 2 : Int) = L := by omega

set_option maxRecDepth 100000 in
set_option maxHeartbeats 1000000 in
theorem two_8 (A : Option Addr) (c L s : Nat) (l d : List Int) (hl : l.length = L) (hd : d.length = s) (w : World) (h : Ow 5 u8 w (.slice A (L + (2 + s)) c) (l ++ ([0, 0] ++ d))) (hL : L ≤ 1099511627776) (hs : s ≤ 255) :
    Calls Try.prog 21 #[.slice A (L + (2 + s)) c, .int .i64 s] w (BehTo w (.slice A (L + (2 + s)) c) (l ++ ([196, (s : Int)] ++ d))) := by
  obtain ⟨-, hle, -⟩ := h.le
  obtain ⟨g, cur, rfl, hrow, hcl, -, -, hmx, htk⟩ := h.row (by omega)
  have ho : (L : Int) + (2 + s) - s - 2 = L := by omega
  obtain ⟨A', hk2, hk3, hcut⟩ := Cut.ahead_l 22 5 Try.underlying22 size_u8 (some ⟨g, 0, none⟩) (L + (2 + s)) c L L rfl .i64 (by omega)
  have hA' := hcut.at_ g 0 rfl (by omega)
  rw [Nat.zero_add] at hA'
  subst hA'
  clear hcut
  have HC := hid hcl
  have HL := hid hl
  have HD := hid hd
  have HT := hid htk
  clear hcl hl hd htk h
  go_enter Try.func21, Try.ntmps21
  go_wp2_with (first | (go_at_call 32; refine (prefixu8_calls g L _ _ 196 _ w (by omega) ⟨by omega, by omega⟩ (hrow.isCell L 2 (by have := HC.out; omega)) (fun j _ => hrow.frozen _)).mono ?_; rintro e w2 ⟨rfl, rfl⟩))
  go_ret
  obtain rfl := HC.out
  obtain rfl := HL.out
  obtain rfl := HD.out
  obtain ⟨p1, p2⟩ := over_put l [0, 0] [196, (d.length : Int)] d rfl hrow (by simp; omega) hmx (by rw [← HT.out]; congr 1; simp; omega)
  exact ⟨_, rfl, by simpa [Nat.add_comm, Nat.add_left_comm] using p1, p2.mono (fun x hx => by subst hx; exact Blk_slice.2 rfl), fun k hk => .inl hk⟩
/-- Behind the copy by k places: room for a head of k + 2 bytes. -/
theorem moved (l d z : List Int) (cur : List Value) (k : Nat) (hk : z.length = k) (hle : (l ++ ([0, 0] ++ d) ++ z).length ≤ cur.length) (htk : cur.take (l ++ ([0, 0] ++ d) ++ z).length = (l ++ ([0, 0] ++ d) ++ z).map u8) (hz : k ≤ 2 + d.length + k) :
    (cur.take (l.length + k) ++ (([0, 0] ++ d ++ z).take (2 + d.length)).map u8 ++ cur.drop (l.length + k + (2 + d.length))).take (l ++ ([0, 0] ++ d) ++ z).length = (l ++ ((([0, 0] ++ d ++ z).take k ++ [0, 0]) ++ d)).map u8 := by
  have e1 : cur.take (l.length + k) = (l ++ ([0, 0] ++ d ++ z).take k).map u8 := by
    have e0 : cur.take (l.length + k) = (cur.take (l ++ ([0, 0] ++ d) ++ z).length).take (l.length + k) := by rw [List.take_take, Nat.min_eq_left (by simp; omega)]
    rw [e0, htk, ← List.map_take]
    congr 1
    rw [List.append_assoc, List.take_append, List.take_of_length_le (by omega)]
    congr 2
    omega
  have e2 : ([0, 0] ++ d ++ z).take (2 + d.length) = [0, 0] ++ d := by
    rw [List.take_append_of_le_length (by simp; omega), List.take_of_length_le (by simp; omega)]
  rw [e1, e2]
  rw [List.take_append_of_le_length (by simp; omega), List.take_of_length_le (by simp; omega)]
  simp
set_option maxRecDepth 100000 in
set_option maxHeartbeats 1000000 in
theorem two_16 (A : Option Addr) (c L s : Nat) (l d : List Int) (hl : l.length = L) (hd : d.length = s) (w : World) (h : Ow 5 u8 w (.slice A (L + (2 + s)) c) (l ++ ([0, 0] ++ d))) (hL : L ≤ 1099511627776) (h0 : 255 < s) (h1 : s ≤ 65535) :
    Calls Try.prog 21 #[.slice A (L + (2 + s)) c, .int .i64 s] w (BehTo w (.slice A (L + (2 + s)) c) (l ++ ((197 :: be2 (s : Int)) ++ d))) := by
  have ho : (L : Int) + (2 + s) - s - 2 = L := by omega
  have HL := hid hl
  have HD := hid hd
  have hnn : (l ++ ([0, 0] ++ d) ++ [0]).length = L + (2 + s) + 1 := by simp; omega
  have HN := hid hnn
  clear hl hd hnn
  go_enter Try.func21, Try.ntmps21
  go_wp2_with (first | ((with_reducible refine gate (.call { callee := .builtin .append, args := #[.tmp 40, .tmp 41], argTypes := #[22, 22] }) rfl ?_); refine wp_append rfl _ _ 22 5 (.int .u8 0) 1 rfl Try.underlying22 info_u8 rfl (by decide) u8 (fun _ => rfl) _ (l ++ ([0, 0] ++ d)) [0] _ _ _ rfl rfl rfl (h.keep0 ((Ch.refl _ _).alloc _)) ((Row.alloc w (List.map u8 [0]) 5).rd (l := [0]) rfl) (by have := HL.out; have := HD.out; simp; omega) ?_; intro v1 w1 ho1 hch1 hat1; obtain ⟨A1, c1, hv, hle1, -⟩ := ho1.slice; rw [HN.out] at hv hle1; subst hv))
  have hrw := ho1.row (by omega)
  obtain ⟨g, cur, rfl, hrow, hcl, -, -, hmx, htk⟩ := hrw
  have HC := hid hcl
  have HT := hid htk
  clear hcl htk ho1
  obtain ⟨Aa, hk2a, hk3a, hcuta⟩ := Cut.ahead_l 22 5 Try.underlying22 size_u8 (some ⟨g, 0, none⟩) (L + (2 + s) + 1) c1 ((L : Int) + 1) (L + 1) (by omega) .i64 (by omega)
  have hAa := hcuta.at_ g 0 rfl (by omega)
  rw [Nat.zero_add] at hAa
  subst hAa
  obtain ⟨Ab, hk2b, hk3b, hcutb⟩ := Cut.ahead_l 22 5 Try.underlying22 size_u8 (some ⟨g, 0, none⟩) (L + (2 + s) + 1) c1 L (L) (by omega) .i64 (by omega)
  have hAb := hcutb.at_ g 0 rfl (by omega)
  rw [Nat.zero_add] at hAb
  subst hAb
  have hrs : Rd u8 w1 (some ⟨g, L, none⟩) ([0, 0] ++ d ++ [0]) := by
    have hfull : Rd u8 w1 (some ⟨g, 0, none⟩) (l ++ ([0, 0] ++ d) ++ [0]) := hrow.rd (by rw [List.drop_zero, HN.out]; exact HT.out)
    have := hcutb.drop hfull HN.out (by omega)
    rwa [List.append_assoc, List.drop_left' HL.out] at this
  clear hcuta hcutb
  have hy : ([0, 0] ++ d ++ [0]).length = L + (2 + s) + 1 - L := by have := HD.out; simp; omega
  have HY := hid hy
  clear hy
  have hwr : IntKind.i64.wrap ((L : Int) + 1) = (L : Int) + 1 := IntWalk.i64_in _ (by omega)
  have hrow1 : Row w1.drew g 5 cur := hrow
  refine wp_region_still_tail 7 (by kernel_rfl) (by kernel_rfl) ?_
  simp only [List.take_succ_cons, List.take_zero, List.drop_succ_cons, List.drop_zero]
  change wpStill _ _ (World.drew _) _ _ _
  repeat still_step
  refine wpStill_nil ?_
  change wpList _ _ _ _ _ (World.drew _)
  clear hwr
  go_wp2_with (first | ((with_reducible refine gate (.call { callee := .builtin .copy, args := #[.tmp 46, .tmp 49], argTypes := #[22, 22] }) rfl ?_); refine wp_copy rfl _ _ 22 22 5 rfl Try.underlying22 size_u8 u8 (fun _ => rfl) g (L + 1) _ _ _ _ _ rfl rfl cur 5 hrow1 ([0, 0] ++ d ++ [0]) HY.out hrs (by have := HC.out; omega) ?_; intro w2 hrow2 hch2) | (go_at_call 33; refine (prefixu16_calls g L _ _ 197 _ w2 (by omega) ⟨by omega, by omega⟩ (hrow2.isCell L 3 (by have := HC.out; have := HY.out; simp; omega)) (fun j _ => hrow2.frozen _)).mono ?_; rintro e w3 ⟨rfl, rfl⟩))
  go_ret
  obtain rfl := HC.out
  obtain rfl := HL.out
  obtain rfl := HD.out
  have e2 : min (l.length + (2 + d.length) + 1 - l.length) (2 + d.length) = 2 + d.length := by omega
  rw [e2] at hrow2
  have hm := moved l d [0] cur 1 rfl (by rw [HN.out]; omega) (by rw [HN.out]; exact HT.out) (by omega)
  rw [HN.out] at hm
  have hlen : (l ++ ((197 :: be2 (d.length : Int)) ++ d)).length = l.length + (2 + d.length) + 1 := by simp [be2, be4]; omega
  have hcl2 : (List.take (l.length + 1) cur ++ List.map u8 (List.take (2 + d.length) ([0, 0] ++ d ++ [0])) ++ List.drop (l.length + 1 + (2 + d.length)) cur).length = cur.length := by simp; omega
  obtain ⟨p1, p2⟩ := over_put l (([0, 0] ++ d ++ [0]).take 1 ++ [0, 0]) (197 :: be2 (d.length : Int)) d (by simp [be2, be4]; try omega) hrow2 (by rw [hlen, hcl2]; exact hle1) (by rw [hcl2]; exact hmx) (by rw [hlen]; exact hm)
  rw [hlen, hcl2] at p1
  have hB : ∀ k, k = g → Blk (.slice A (l.length + (2 + d.length)) c) k ∨ w.heap.size ≤ k := fun k hk => (hat1 k (Blk_slice.2 hk)).imp id (fun h => Nat.le_trans (Ch.size ((Ch.refl No w).alloc _)) h)
  have q1 : Ch (Blk (.slice A (l.length + (2 + d.length)) c)) w w1 := ((Ch.refl No w).alloc _).no_then hch1
  exact ⟨_, rfl, p1, (q1.drew.trans hch2 (fun _ h => h) hB).trans p2 (fun _ h => h) hB, fun k hk => hB k (Blk_slice.1 hk)⟩
set_option maxRecDepth 100000 in
set_option maxHeartbeats 1000000 in
theorem two_32 (A : Option Addr) (c L s : Nat) (l d : List Int) (hl : l.length = L) (hd : d.length = s) (w : World) (h : Ow 5 u8 w (.slice A (L + (2 + s)) c) (l ++ ([0, 0] ++ d))) (hL : L ≤ 1099511627776) (h0 : 65535 < s) (h1 : s ≤ 1048576) :
    Calls Try.prog 21 #[.slice A (L + (2 + s)) c, .int .i64 s] w (BehTo w (.slice A (L + (2 + s)) c) (l ++ ((198 :: be4 (s : Int)) ++ d))) := by
  have ho : (L : Int) + (2 + s) - s - 2 = L := by omega
  have HL := hid hl
  have HD := hid hd
  have hnn : (l ++ ([0, 0] ++ d) ++ [0, 0, 0]).length = L + (2 + s) + 3 := by simp; omega
  have HN := hid hnn
  clear hl hd hnn
  go_enter Try.func21, Try.ntmps21
  go_wp2_with (first | ((with_reducible refine gate (.call { callee := .builtin .append, args := #[.tmp 11, .tmp 12], argTypes := #[22, 22] }) rfl ?_); refine wp_append rfl _ _ 22 5 (.int .u8 0) 1 rfl Try.underlying22 info_u8 rfl (by decide) u8 (fun _ => rfl) _ (l ++ ([0, 0] ++ d)) [0, 0, 0] _ _ _ rfl rfl rfl (h.keep0 ((Ch.refl _ _).alloc _)) ((Row.alloc w (List.map u8 [0, 0, 0]) 5).rd (l := [0, 0, 0]) rfl) (by have := HL.out; have := HD.out; simp; omega) ?_; intro v1 w1 ho1 hch1 hat1; obtain ⟨A1, c1, hv, hle1, -⟩ := ho1.slice; rw [HN.out] at hv hle1; subst hv))
  have hrw := ho1.row (by omega)
  obtain ⟨g, cur, rfl, hrow, hcl, -, -, hmx, htk⟩ := hrw
  have HC := hid hcl
  have HT := hid htk
  clear hcl htk ho1
  obtain ⟨Aa, hk2a, hk3a, hcuta⟩ := Cut.ahead_l 22 5 Try.underlying22 size_u8 (some ⟨g, 0, none⟩) (L + (2 + s) + 3) c1 ((L : Int) + 3) (L + 3) (by omega) .i64 (by omega)
  have hAa := hcuta.at_ g 0 rfl (by omega)
  rw [Nat.zero_add] at hAa
  subst hAa
  obtain ⟨Ab, hk2b, hk3b, hcutb⟩ := Cut.ahead_l 22 5 Try.underlying22 size_u8 (some ⟨g, 0, none⟩) (L + (2 + s) + 3) c1 L (L) (by omega) .i64 (by omega)
  have hAb := hcutb.at_ g 0 rfl (by omega)
  rw [Nat.zero_add] at hAb
  subst hAb
  have hrs : Rd u8 w1 (some ⟨g, L, none⟩) ([0, 0] ++ d ++ [0, 0, 0]) := by
    have hfull : Rd u8 w1 (some ⟨g, 0, none⟩) (l ++ ([0, 0] ++ d) ++ [0, 0, 0]) := hrow.rd (by rw [List.drop_zero, HN.out]; exact HT.out)
    have := hcutb.drop hfull HN.out (by omega)
    rwa [List.append_assoc, List.drop_left' HL.out] at this
  clear hcuta hcutb
  have hy : ([0, 0] ++ d ++ [0, 0, 0]).length = L + (2 + s) + 3 - L := by have := HD.out; simp; omega
  have HY := hid hy
  clear hy
  have hwr : IntKind.i64.wrap ((L : Int) + 3) = (L : Int) + 3 := IntWalk.i64_in _ (by omega)
  have hrow1 : Row w1.drew g 5 cur := hrow
  refine wp_region_still_tail 7 (by kernel_rfl) (by kernel_rfl) ?_
  simp only [List.take_succ_cons, List.take_zero, List.drop_succ_cons, List.drop_zero]
  change wpStill _ _ (World.drew _) _ _ _
  repeat still_step
  refine wpStill_nil ?_
  change wpList _ _ _ _ _ (World.drew _)
  clear hwr
  go_wp2_with (first | ((with_reducible refine gate (.call { callee := .builtin .copy, args := #[.tmp 17, .tmp 20], argTypes := #[22, 22] }) rfl ?_); refine wp_copy rfl _ _ 22 22 5 rfl Try.underlying22 size_u8 u8 (fun _ => rfl) g (L + 3) _ _ _ _ _ rfl rfl cur 5 hrow1 ([0, 0] ++ d ++ [0, 0, 0]) HY.out hrs (by have := HC.out; omega) ?_; intro w2 hrow2 hch2) | (go_at_call 34; refine (prefixu32_calls g L _ _ 198 _ w2 (by omega) ⟨by omega, by omega⟩ (hrow2.isCell L 5 (by have := HC.out; have := HY.out; simp; omega)) (fun j _ => hrow2.frozen _)).mono ?_; rintro e w3 ⟨rfl, rfl⟩))
  go_ret
  obtain rfl := HC.out
  obtain rfl := HL.out
  obtain rfl := HD.out
  have e2 : min (l.length + (2 + d.length) + 3 - l.length) (2 + d.length) = 2 + d.length := by omega
  rw [e2] at hrow2
  have hm := moved l d [0, 0, 0] cur 3 rfl (by rw [HN.out]; omega) (by rw [HN.out]; exact HT.out) (by omega)
  rw [HN.out] at hm
  have hlen : (l ++ ((198 :: be4 (d.length : Int)) ++ d)).length = l.length + (2 + d.length) + 3 := by simp [be2, be4]; omega
  have hcl2 : (List.take (l.length + 3) cur ++ List.map u8 (List.take (2 + d.length) ([0, 0] ++ d ++ [0, 0, 0])) ++ List.drop (l.length + 3 + (2 + d.length)) cur).length = cur.length := by simp; omega
  obtain ⟨p1, p2⟩ := over_put l (([0, 0] ++ d ++ [0, 0, 0]).take 3 ++ [0, 0]) (198 :: be4 (d.length : Int)) d (by simp [be2, be4]; try omega) hrow2 (by rw [hlen, hcl2]; exact hle1) (by rw [hcl2]; exact hmx) (by rw [hlen]; exact hm)
  rw [hlen, hcl2] at p1
  have hB : ∀ k, k = g → Blk (.slice A (l.length + (2 + d.length)) c) k ∨ w.heap.size ≤ k := fun k hk => (hat1 k (Blk_slice.2 hk)).imp id (fun h => Nat.le_trans (Ch.size ((Ch.refl No w).alloc _)) h)
  have q1 : Ch (Blk (.slice A (l.length + (2 + d.length)) c)) w w1 := ((Ch.refl No w).alloc _).no_then hch1
  exact ⟨_, rfl, p1, (q1.drew.trans hch2 (fun _ h => h) hB).trans p2 (fun _ h => h) hB, fun k hk => hB k (Blk_slice.1 hk)⟩

def binHead (s : Int) : List Int := if s ≤ 255 then [196, s] else if s ≤ 65535 then 197 :: be2 s else 198 :: be4 s
def encBin (d : List Int) : List Int := binHead d.length ++ d
theorem binHead_len (s : Int) : 0 < (binHead s).length ∧ (binHead s).length ≤ 5 := by
  unfold binHead
  split
  · simp
  · split
    · simp [be2]
    · simp [be4]
theorem two_any (A : Option Addr) (c L s : Nat) (l d : List Int) (hl : l.length = L) (hd : d.length = s) (w : World) (h : Ow 5 u8 w (.slice A (L + (2 + s)) c) (l ++ ([0, 0] ++ d))) (hL : L ≤ 1099511627776) (hs : s ≤ 1048576) :
    Calls Try.prog 21 #[.slice A (L + (2 + s)) c, .int .i64 s] w (BehTo w (.slice A (L + (2 + s)) c) (l ++ encBin d)) := by
  unfold encBin binHead
  rw [hd]
  split
  · exact two_8 A c L s l d hl hd w h hL (by omega)
  · split
    · exact two_16 A c L s l d hl hd w h hL (by omega) (by omega)
    · exact two_32 A c L s l d hl hd w h hL (by omega) (by omega)
theorem reads_bin {d : List Int} (hb : Byt d) (hs : d.length ≤ 1048576) : Reads (encBin d) 7 0 (strOfNums d) 0 := by
  unfold encBin binHead
  split
  · have hl : ([(d.length : Int)] ++ d).length = 1 + d.length := by simp; omega
    refine reads_coded (b := 196) (bs := [(d.length : Int)] ++ d) (k := 1 + d.length) (by omega) (by omega) ((Byt.nil.cons (by omega) (by omega)).append hb) hl.symm (fun rest lv A c w hr hb' hc hll => ?_)
    have h := coded_196 A c ([(d.length : Int)] ++ d ++ rest) lv w d.length hr hb' hc (by simp; omega) hll (by rw [List.append_assoc, take_pre [(d.length : Int)] (d ++ rest) 1 rfl, beN_1])
    have e : (([(d.length : Int)] ++ d ++ rest).drop 1).take d.length = d := by simp
    rwa [e] at h
  · split
    · have hl : (be2 (d.length : Int) ++ d).length = 2 + d.length := by simp [be2]; omega
      refine reads_coded (b := 197) (bs := be2 (d.length : Int) ++ d) (k := 2 + d.length) (by omega) (by omega) ((byt_be2 (by omega) (by omega)).append hb) hl.symm (fun rest lv A c w hr hb' hc hll => ?_)
      have h := coded_197 A c (be2 (d.length : Int) ++ d ++ rest) lv w d.length hr hb' hc (by simp [be2]; omega) hll (by rw [List.append_assoc, take_pre (be2 (d.length : Int)) (d ++ rest) 2 rfl, beN_be2])
      have e : ((be2 (d.length : Int) ++ d ++ rest).drop 2).take d.length = d := by simp [be2]
      rwa [e] at h
    · have hl : (be4 (d.length : Int) ++ d).length = 4 + d.length := by simp [be4]; omega
      refine reads_coded (b := 198) (bs := be4 (d.length : Int) ++ d) (k := 4 + d.length) (by omega) (by omega) ((byt_be4 (by omega) (by omega)).append hb) hl.symm (fun rest lv A c w hr hb' hc hll => ?_)
      have h := coded_198 A c (be4 (d.length : Int) ++ d ++ rest) lv w d.length hr hb' hc (by simp [be4]; omega) hll (by rw [List.append_assoc, take_pre (be4 (d.length : Int)) (d ++ rest) 4 rfl, beN_be4])
      have e : ((be4 (d.length : Int) ++ d ++ rest).drop 4).take d.length = d := by simp [be4]
      rwa [e] at h
set_option maxRecDepth 100000 in
set_option maxHeartbeats 1000000 in
theorem putBehind (A D : Option Addr) (c cd : Nat) (l d : List Int) (w : World) (hr : Rd u8 w A l) (hd : Rd u8 w D d) (hl : l.length ≤ 1099511627776) (hs : d.length ≤ 1048576) :
    Calls Try.prog 11 #[.slice A l.length c, .slice D d.length cd] w (PutTo w l (encBin d)) := by
  have hn2 : ((l ++ [0, 0]) ++ d).length = l.length + (2 + d.length) := by simp; omega
  have HN := hid hn2
  clear hn2
  go_enter Try.func11, Try.ntmps11
  go_wp2_with (first | (go_at_call 17; refine (copied_calls _ _ l _ hr (by omega)).mono ?_; rintro e w1 ⟨v, rfl, ho, hf, hch⟩; obtain ⟨A1, c1, rfl, _, _⟩ := ho.slice) | ((with_reducible refine gate (.call { callee := .builtin .append, args := #[.tmp 6, .tmp 7], argTypes := #[22, 22] }) rfl ?_); refine wp_append rfl _ _ 22 5 (.int .u8 0) 1 rfl Try.underlying22 info_u8 rfl (by decide) u8 (fun _ => rfl) _ l [0, 0] _ _ _ rfl rfl rfl (ho.keep0 ((Ch.refl _ _).alloc _)) ((Row.alloc w1 (List.map u8 [0, 0]) 5).rd (l := [0, 0]) rfl) (by simp; omega) ?_; intro v2 w2 ho2 hch2 hat2) | ((with_reducible refine gate (.call { callee := .builtin .append, args := #[.tmp 8, .tmp 9], argTypes := #[22, 22] }) rfl ?_); refine wp_append rfl _ _ 22 5 (.int .u8 0) 1 rfl Try.underlying22 info_u8 rfl (by decide) u8 (fun _ => rfl) _ (l ++ [0, 0]) d _ _ _ rfl rfl rfl ho2 (hd.keep0 (Ch.fresh (hch.alloc _) hch2 hf)) (by simp; omega) ?_; intro v3 w3 ho3 hch3 hat3; obtain ⟨A3, c3, hv3, -, -⟩ := ho3.slice; rw [HN.out] at hv3; subst hv3) | (go_at_call 21; refine (two_any A3 c3 l.length d.length l d rfl rfl w3 (by rw [List.append_assoc] at ho3; exact ho3) hl hs).mono ?_; rintro e w4 ⟨v4, rfl, ho4, hch4, hat4⟩))

  go_ret
  have hC2 : Ch No w w2 := Ch.fresh (hch.alloc _) hch2 hf
  have hf2 : Fr w v2 := hf.step (hch.alloc _).size hat2
  have hC3 : Ch No w w3 := Ch.fresh hC2 hch3 hf2
  have hf3 : Fr w (.slice A3 (l.length + (2 + d.length)) c3) := hf2.step hC2.size hat3
  exact ⟨v4, rfl, ho4, hf3.step hC3.size hat4, Ch.fresh hC3 hch4 hf3⟩
end Go.Proofs.Ytaialjpcibjmiaa
