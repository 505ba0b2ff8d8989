/- The walks of the reference's pieces of values that have no kids. The walks of the reference's pieces of values of 16 bytes. The walk of the reference's pieces of numbers. No condition. -/
import Derived.Test.YtbdgkikipekmlaaDoorPca
import Derived.Lib.ConvBytes
import Derived.Deep.RegionHeld3
namespace Go.Proofs.YtbdgkikipekmlaaDoor
set_option linter.unusedVariables false
set_option linter.unusedSimpArgs false
open Go.RowKit
theorem by_nil (w : World) : By w (.slice none 0 0) [] := (Ow.nil 5 u8 w).by
/-- Two pieces, laid as a list. -/
theorem PMay.two {P : Int → List Int → Prop} {w0 w : World} {d e : List Int} (x y : Pce) (hp : P x.1 d) (ho : By w (sl x.2) d) (hf : Fr w0 (sl x.2)) (hp2 : P y.1 e) (ho2 : By w (sl y.2) e) (hf2 : Fr w0 (sl y.2)) (hs : w0.heap.size ≤ w.heap.size) : PMay P w0 (w.alloc (.cells (pc x ++ pc y).toArray 116)) (.slice (some ⟨w.heap.size, 0, none⟩) 2 2) [x, y] := by
  refine ⟨⟨by simp [pc_len], .inr ⟨w.heap.size, 2, (pc x ++ pc y).toArray, rfl, Nat.zero_le _, Row.alloc w (pc x ++ pc y) 116, Nat.le_refl _, by simp [maxLen], rfl, rfl⟩⟩, Fr.mk' hs, fun z hz => ?_⟩
  simp only [List.mem_cons, List.not_mem_nil, or_false] at hz
  rcases hz with rfl | rfl
  · exact ⟨d, hp, ho.keep0 ((Ch.refl No w).alloc _), hf⟩
  · exact ⟨e, hp2, ho2.keep0 ((Ch.refl No w).alloc _), hf2⟩
open Lib in
theorem conv_by (w : World) (s : ByteArray) (hc : s.size ≤ grownCap w s.size 0 5) : By (bytesWorld w 5 s) (.slice (some ⟨w.heap.size, 0, none⟩) s.size (grownCap w s.size 0 5)) (bys s) ∧ Ch No w (bytesWorld w 5 s) := by
  have hn := bytesWorld_at_new w 5 s
  refine ⟨⟨_, grownCap w s.size 0 5, by rw [bys_len], by rw [bys_len]; exact hc, fun hp => ⟨w.heap.size, 0, rfl, fun j x hj => ?_⟩, .inr ⟨w.heap.size, 0, _, _, rfl, hn⟩⟩, ?_⟩
  · have hjl : j < s.size := by rw [← bys_len]; exact (List.getElem?_eq_some_iff.1 hj).1
    have h := bytesWorld_cell w 5 s j hjl
    rw [Nat.zero_add, h]
    unfold bys at hj
    rw [List.getElem?_map, Option.map_eq_some_iff] at hj
    obtain ⟨b, hb, rfl⟩ := hj
    rw [List.getD_eq_getElem?_getD, hb]
    rfl
  · exact ⟨rfl, rfl, rfl, by rw [bytesWorld_size]; omega, fun k hk _ => bytesWorld_at_old w 5 s k hk⟩
set_option maxRecDepth 100000 in
set_option maxHeartbeats 2000000 in
theorem pieces_0 (pf : Nat) (n o : Int) (s : ByteArray) (m d : Nat) (A B : Option Addr) (cap capB : Nat) (w : World) (h0 : 0 ≤ n) (h1 : n < 18446744073709551616) (hn1 : True) (hsz : s.size ≤ 131072) :
    Calls Tryd.prog 69 #[.pointer (some ⟨pf, 0, none⟩), .agg #[.int .i64 0, .int .u64 n, .string s, .slice A m cap, .int .i64 o, .slice B d capB]] w (PcTo (fun c b => c = 64 ∧ b = []) 64 w) := by
  have hB := Row.alloc w [.int .i64 0, .int .u64 n, .string s, .slice A m cap, .int .i64 o, .slice B d capB] 25
  have C1 : Ch No w (w.alloc (.cells #[.int .i64 0, .int .u64 n, .string s, .slice A m cap, .int .i64 o, .slice B d capB] 25)) := (Ch.refl No w).alloc _
  have p0 := hB.cell 0 _ rfl
  have p1 := hB.cell 1 _ rfl
  have p2 := hB.cell 2 _ rfl
  go_enter Tryd.func69, Tryd.ntmps69
  go_wp2_with fail
  go_ret
  have M := PMay.one (w0 := w) (P := fun c b => c = 64 ∧ b = []) (64, none, 0, 0) ⟨rfl, rfl⟩ (by_nil _) (Fr.nil _ _ _) C1.size
  simp only [World.size_alloc] at M
  exact ⟨_, [(64, none, 0, 0)], rfl, M, by simp, ⟨_, List.mem_singleton.2 rfl, rfl⟩, C1.alloc _⟩
set_option maxRecDepth 100000 in
set_option maxHeartbeats 2000000 in
theorem pieces_1 (pf : Nat) (n o : Int) (s : ByteArray) (m d : Nat) (A B : Option Addr) (cap capB : Nat) (w : World) (h0 : 0 ≤ n) (h1 : n < 18446744073709551616) (hn1 : n ≤ 1) (hsz : s.size ≤ 131072) :
    Calls Tryd.prog 69 #[.pointer (some ⟨pf, 0, none⟩), .agg #[.int .i64 1, .int .u64 n, .string s, .slice A m cap, .int .i64 o, .slice B d capB]] w (PcTo (fun c b => (c = 66 - n ∧ b = []) ∨ (c = 86 ∧ b = [n])) 86 w) := by
  have hB := Row.alloc w [.int .i64 1, .int .u64 n, .string s, .slice A m cap, .int .i64 o, .slice B d capB] 25
  have C1 : Ch No w (w.alloc (.cells #[.int .i64 1, .int .u64 n, .string s, .slice A m cap, .int .i64 o, .slice B d capB] 25)) := (Ch.refl No w).alloc _
  have p0 := hB.cell 0 _ rfl
  have p1 := hB.cell 1 _ rfl
  have p2 := hB.cell 2 _ rfl
  have hi : IntKind.i64.wrap n = n := by simp [IntKind.wrap, IntKind.bits, IntKind.signed]; omega
  have hb : IntKind.u8.wrap n = n := by simp [IntKind.wrap, IntKind.bits, IntKind.signed]; omega
  go_enter Tryd.func69, Tryd.ntmps69
  go_wp2_with fail
  go_ret
  have R := (Row.alloc (w.alloc (.cells #[.int .i64 1, .int .u64 n, .string s, .slice A m cap, .int .i64 o, .slice B d capB] 25)) [Go.Proofs.YtbdgkikipekmlaaDoor.u8 n] 5)
  have O := R.ow (f := Go.Proofs.YtbdgkikipekmlaaDoor.u8) (l := [n]) rfl (by simp) (by simp [maxLen])
  simp only [World.size_alloc] at O
  have M := PMay.two (w0 := w) (P := fun c b => (c = 66 - n ∧ b = []) ∨ (c = 86 ∧ b = [n])) (66 - n, none, 0, 0) (86, some ⟨w.heap.size + 1, 0, none⟩, 1, 1) (.inl ⟨rfl, rfl⟩) (by_nil _) (Fr.nil _ _ _) (.inr ⟨rfl, rfl⟩) O.by (Fr.mk' (by omega)) (C1.alloc (.cells #[Go.Proofs.YtbdgkikipekmlaaDoor.u8 n] 5)).size
  simp only [World.size_alloc] at M
  exact ⟨_, _, rfl, M, by simp, ⟨(86, some ⟨w.heap.size + 1, 0, none⟩, 1, 1), by simp, rfl⟩, (C1.alloc _).alloc _⟩
set_option maxRecDepth 100000 in
set_option maxHeartbeats 2000000 in
theorem pieces_18 (pf : Nat) (n o : Int) (s : ByteArray) (m d : Nat) (A B : Option Addr) (cap capB : Nat) (w : World) (h0 : 0 ≤ n) (h1 : n < 18446744073709551616) (hn1 : True) (hsz : s.size ≤ 131072) :
    Calls Tryd.prog 69 #[.pointer (some ⟨pf, 0, none⟩), .agg #[.int .i64 18, .int .u64 n, .string s, .slice A m cap, .int .i64 o, .slice B d capB]] w (PcTo (LenD 160 176 (bys s) (-1)) 176 w) := by
  have hB := Row.alloc w [.int .i64 18, .int .u64 n, .string s, .slice A m cap, .int .i64 o, .slice B d capB] 25
  have C1 : Ch No w (w.alloc (.cells #[.int .i64 18, .int .u64 n, .string s, .slice A m cap, .int .i64 o, .slice B d capB] 25)) := (Ch.refl No w).alloc _
  have p0 := hB.cell 0 _ rfl
  have p1 := hB.cell 1 _ rfl
  have p2 := hB.cell 2 _ rfl
  have hcv : ∀ w : World, (convert 9 26 (.string s)).run Tryd.prog w = .ok (.slice (some ⟨w.heap.size, 0, none⟩) s.size (grownCap w s.size 0 5)) (Lib.bytesWorld w 5 s) := fun w => Lib.run_convert_string_bytes w 9 26 5 s Tryd.underlying9 Tryd.underlying26 Tryd.underlying5
  obtain ⟨hby, hcc⟩ := conv_by (w.alloc (.cells #[.int .i64 18, .int .u64 n, .string s, .slice A m cap, .int .i64 o, .slice B d capB] 25)) s (grownCap_ge _ _ _ _)
  obtain ⟨AA, cc, hav, _, hrd, _⟩ := hby
  simp only [World.size_alloc] at hav
  have HL := lengthed_no 160 176 AA cc (bys s) (Lib.bytesWorld (w.alloc (.cells #[.int .i64 18, .int .u64 n, .string s, .slice A m cap, .int .i64 o, .slice B d capB] 25)) 5 s) hrd (by rw [bys_len]; omega)
  rw [← hav] at HL
  have HLL := hid HL
  clear HL hav hrd
  have HCC := hid hcc
  clear hcc
  go_enter Tryd.func69, Tryd.ntmps69
  go_wp2_with (go_at_call 94; refine HLL.out.mono ?_; rintro e w2 ⟨v, xs, rfl, hm, hl, hx, hch⟩)
  go_ret
  exact ⟨v, xs, rfl, hm.weak (C1.no_no HCC.out).size, hl, hx, (C1.no_no HCC.out).no_no hch⟩
set_option maxRecDepth 100000 in
set_option maxHeartbeats 2000000 in
theorem pieces_19 (pf : Nat) (n o : Int) (s : ByteArray) (m d : Nat) (A B : Option Addr) (cap capB : Nat) (w : World) (h0 : 0 ≤ n) (h1 : n < 18446744073709551616) (hn1 : True) (hsz : s.size ≤ 131072) :
    Calls Tryd.prog 69 #[.pointer (some ⟨pf, 0, none⟩), .agg #[.int .i64 19, .int .u64 n, .string s, .slice A m cap, .int .i64 o, .slice B d capB]] w (PcTo (LenD 161 177 (bys s) (-1)) 177 w) := by
  have hB := Row.alloc w [.int .i64 19, .int .u64 n, .string s, .slice A m cap, .int .i64 o, .slice B d capB] 25
  have C1 : Ch No w (w.alloc (.cells #[.int .i64 19, .int .u64 n, .string s, .slice A m cap, .int .i64 o, .slice B d capB] 25)) := (Ch.refl No w).alloc _
  have p0 := hB.cell 0 _ rfl
  have p1 := hB.cell 1 _ rfl
  have p2 := hB.cell 2 _ rfl
  have hcv : ∀ w : World, (convert 9 26 (.string s)).run Tryd.prog w = .ok (.slice (some ⟨w.heap.size, 0, none⟩) s.size (grownCap w s.size 0 5)) (Lib.bytesWorld w 5 s) := fun w => Lib.run_convert_string_bytes w 9 26 5 s Tryd.underlying9 Tryd.underlying26 Tryd.underlying5
  obtain ⟨hby, hcc⟩ := conv_by (w.alloc (.cells #[.int .i64 19, .int .u64 n, .string s, .slice A m cap, .int .i64 o, .slice B d capB] 25)) s (grownCap_ge _ _ _ _)
  obtain ⟨AA, cc, hav, _, hrd, _⟩ := hby
  simp only [World.size_alloc] at hav
  have HL := lengthed_no 161 177 AA cc (bys s) (Lib.bytesWorld (w.alloc (.cells #[.int .i64 19, .int .u64 n, .string s, .slice A m cap, .int .i64 o, .slice B d capB] 25)) 5 s) hrd (by rw [bys_len]; omega)
  rw [← hav] at HL
  have HLL := hid HL
  clear HL hav hrd
  have HCC := hid hcc
  clear hcc
  go_enter Tryd.func69, Tryd.ntmps69
  go_wp2_with (go_at_call 94; refine HLL.out.mono ?_; rintro e w2 ⟨v, xs, rfl, hm, hl, hx, hch⟩)
  go_ret
  exact ⟨v, xs, rfl, hm.weak (C1.no_no HCC.out).size, hl, hx, (C1.no_no HCC.out).no_no hch⟩
set_option maxRecDepth 100000 in
set_option maxHeartbeats 2000000 in
theorem pieces_20 (pf : Nat) (n o : Int) (s : ByteArray) (m d : Nat) (A B : Option Addr) (cap capB : Nat) (w : World) (h0 : 0 ≤ n) (h1 : n < 18446744073709551616) (hn1 : True) (hsz : s.size ≤ 131072) :
    Calls Tryd.prog 69 #[.pointer (some ⟨pf, 0, none⟩), .agg #[.int .i64 20, .int .u64 n, .string s, .slice A m cap, .int .i64 o, .slice B d capB]] w (PcTo (LenD 163 179 (bys s) (-1)) 179 w) := by
  have hB := Row.alloc w [.int .i64 20, .int .u64 n, .string s, .slice A m cap, .int .i64 o, .slice B d capB] 25
  have C1 : Ch No w (w.alloc (.cells #[.int .i64 20, .int .u64 n, .string s, .slice A m cap, .int .i64 o, .slice B d capB] 25)) := (Ch.refl No w).alloc _
  have p0 := hB.cell 0 _ rfl
  have p1 := hB.cell 1 _ rfl
  have p2 := hB.cell 2 _ rfl
  have hcv : ∀ w : World, (convert 9 26 (.string s)).run Tryd.prog w = .ok (.slice (some ⟨w.heap.size, 0, none⟩) s.size (grownCap w s.size 0 5)) (Lib.bytesWorld w 5 s) := fun w => Lib.run_convert_string_bytes w 9 26 5 s Tryd.underlying9 Tryd.underlying26 Tryd.underlying5
  obtain ⟨hby, hcc⟩ := conv_by (w.alloc (.cells #[.int .i64 20, .int .u64 n, .string s, .slice A m cap, .int .i64 o, .slice B d capB] 25)) s (grownCap_ge _ _ _ _)
  obtain ⟨AA, cc, hav, _, hrd, _⟩ := hby
  simp only [World.size_alloc] at hav
  have HL := lengthed_no 163 179 AA cc (bys s) (Lib.bytesWorld (w.alloc (.cells #[.int .i64 20, .int .u64 n, .string s, .slice A m cap, .int .i64 o, .slice B d capB] 25)) 5 s) hrd (by rw [bys_len]; omega)
  rw [← hav] at HL
  have HLL := hid HL
  clear HL hav hrd
  have HCC := hid hcc
  clear hcc
  go_enter Tryd.func69, Tryd.ntmps69
  go_wp2_with (go_at_call 94; refine HLL.out.mono ?_; rintro e w2 ⟨v, xs, rfl, hm, hl, hx, hch⟩)
  go_ret
  exact ⟨v, xs, rfl, hm.weak (C1.no_no HCC.out).size, hl, hx, (C1.no_no HCC.out).no_no hch⟩

end Go.Proofs.YtbdgkikipekmlaaDoor

namespace Go.Proofs.YtbdgkikipekmlaaDoor
set_option linter.unusedVariables false
set_option linter.unusedSimpArgs false
open Go.RowKit
theorem cdp_14 : Hid ((look cdL 14).getD (.int .i64 0) = .int .i64 148) := hid (by simp [look, cdL])
set_option maxRecDepth 100000 in
set_option maxHeartbeats 2000000 in
theorem pieces_14 (pf : Nat) (n o : Int) (s : ByteArray) (m d : Nat) (A B : Option Addr) (cap capB : Nat) (w : World) :
    Calls Tryd.prog 69 #[.pointer (some ⟨pf, 0, none⟩), .agg #[.int .i64 14, .int .u64 n, .string s, .slice A m cap, .int .i64 o, .slice B d capB]] w (PcTo (fun c b => c = 148 ∧ b = bys s) 148 w) := by
  have hB := Row.alloc w [.int .i64 14, .int .u64 n, .string s, .slice A m cap, .int .i64 o, .slice B d capB] 25
  have C1 : Ch No w (w.alloc (.cells #[.int .i64 14, .int .u64 n, .string s, .slice A m cap, .int .i64 o, .slice B d capB] 25)) := (Ch.refl No w).alloc _
  have p0 := hB.cell 0 _ rfl
  have p2 := hB.cell 2 _ rfl
  have hcv : ∀ w : World, (convert 9 26 (.string s)).run Tryd.prog w = .ok (.slice (some ⟨w.heap.size, 0, none⟩) s.size (grownCap w s.size 0 5)) (Lib.bytesWorld w 5 s) := fun w => Lib.run_convert_string_bytes w 9 26 5 s Tryd.underlying9 Tryd.underlying26 Tryd.underlying5
  have hcb := fun w : World => conv_by w s (grownCap_ge _ _ _ _)
  have HCB := hid hcb
  clear hcb
  have D1 : Ch No (w.alloc (.cells #[.int .i64 14, .int .u64 n, .string s, .slice A m cap, .int .i64 o, .slice B d capB] 25)) (w.alloc (.cells #[.int .i64 14, .int .u64 n, .string s, .slice A m cap, .int .i64 o, .slice B d capB] 25)).drew := (Ch.refl No _).drew
  go_enter Tryd.func69, Tryd.ntmps69
  go_wp2_with fail
  have e0 := (HCB.out (w.alloc (.cells #[.int .i64 14, .int .u64 n, .string s, .slice A m cap, .int .i64 o, .slice B d capB] 25)).drew).2.cell0 (D1.cell0 p0)
  have f2 := D1.cell0 p2
  go_region_law (first | (go_simp; go_at_call 93; refine (coded_calls 14 148 _ cdp_14).mono ?_; rintro e wa ⟨rfl, hcha⟩; have g2 := hcha.cell0 (v := .string s) (p := ⟨w.heap.size, 2, none⟩) (by first | exact f2 | exact (HCB.out _).2.cell0 f2)))
  all_goals
    go_wp2_with fail
    go_ret
    first
    | (obtain ⟨hby, hcc⟩ := HCB.out wa
       have CA : Ch No w (Lib.bytesWorld wa 5 s) := ((C1.no_no D1).no_no hcha).no_no hcc
       have M := PMay.one (w0 := w) (P := fun c b => c = 148 ∧ b = bys s) (148, some ⟨wa.heap.size, 0, none⟩, s.size, grownCap wa s.size 0 5) ⟨rfl, rfl⟩ hby (Fr.mk' ((C1.no_no D1).no_no hcha).size) CA.size
       exact ⟨_, _, rfl, M, by simp, ⟨_, List.mem_singleton.2 rfl, rfl⟩, CA.alloc _⟩)
    | (obtain ⟨hby, hcc⟩ := HCB.out (w.alloc (.cells #[.int .i64 14, .int .u64 n, .string s, .slice A m cap, .int .i64 o, .slice B d capB] 25)).drew
       have hsz : (w.alloc (.cells #[.int .i64 14, .int .u64 n, .string s, .slice A m cap, .int .i64 o, .slice B d capB] 25)).drew.heap.size = w.heap.size + 1 := by simp
       rw [hsz] at hby
       have CA : Ch No w wa := ((C1.no_no D1).no_no hcc).no_no hcha
       have M := PMay.one (w0 := w) (P := fun c b => c = 148 ∧ b = bys s) (148, some ⟨w.heap.size + 1, 0, none⟩, s.size, grownCap (w.alloc (.cells #[.int .i64 14, .int .u64 n, .string s, .slice A m cap, .int .i64 o, .slice B d capB] 25)).drew s.size 0 5) ⟨rfl, rfl⟩ (hby.keep0 hcha) (Fr.mk' (by omega)) CA.size
       exact ⟨_, _, rfl, M, by simp, ⟨_, List.mem_singleton.2 rfl, rfl⟩, CA.alloc _⟩)
theorem cdp_17 : Hid ((look cdL 17).getD (.int .i64 0) = .int .i64 152) := hid (by simp [look, cdL])
set_option maxRecDepth 100000 in
set_option maxHeartbeats 2000000 in
theorem pieces_17 (pf : Nat) (n o : Int) (s : ByteArray) (m d : Nat) (A B : Option Addr) (cap capB : Nat) (w : World) :
    Calls Tryd.prog 69 #[.pointer (some ⟨pf, 0, none⟩), .agg #[.int .i64 17, .int .u64 n, .string s, .slice A m cap, .int .i64 o, .slice B d capB]] w (PcTo (fun c b => c = 152 ∧ b = bys s) 152 w) := by
  have hB := Row.alloc w [.int .i64 17, .int .u64 n, .string s, .slice A m cap, .int .i64 o, .slice B d capB] 25
  have C1 : Ch No w (w.alloc (.cells #[.int .i64 17, .int .u64 n, .string s, .slice A m cap, .int .i64 o, .slice B d capB] 25)) := (Ch.refl No w).alloc _
  have p0 := hB.cell 0 _ rfl
  have p2 := hB.cell 2 _ rfl
  have hcv : ∀ w : World, (convert 9 26 (.string s)).run Tryd.prog w = .ok (.slice (some ⟨w.heap.size, 0, none⟩) s.size (grownCap w s.size 0 5)) (Lib.bytesWorld w 5 s) := fun w => Lib.run_convert_string_bytes w 9 26 5 s Tryd.underlying9 Tryd.underlying26 Tryd.underlying5
  have hcb := fun w : World => conv_by w s (grownCap_ge _ _ _ _)
  have HCB := hid hcb
  clear hcb
  have D1 : Ch No (w.alloc (.cells #[.int .i64 17, .int .u64 n, .string s, .slice A m cap, .int .i64 o, .slice B d capB] 25)) (w.alloc (.cells #[.int .i64 17, .int .u64 n, .string s, .slice A m cap, .int .i64 o, .slice B d capB] 25)).drew := (Ch.refl No _).drew
  go_enter Tryd.func69, Tryd.ntmps69
  go_wp2_with fail
  have e0 := (HCB.out (w.alloc (.cells #[.int .i64 17, .int .u64 n, .string s, .slice A m cap, .int .i64 o, .slice B d capB] 25)).drew).2.cell0 (D1.cell0 p0)
  have f2 := D1.cell0 p2
  go_region_law (first | (go_simp; go_at_call 93; refine (coded_calls 17 152 _ cdp_17).mono ?_; rintro e wa ⟨rfl, hcha⟩; have g2 := hcha.cell0 (v := .string s) (p := ⟨w.heap.size, 2, none⟩) (by first | exact f2 | exact (HCB.out _).2.cell0 f2)))
  all_goals
    go_wp2_with fail
    go_ret
    first
    | (obtain ⟨hby, hcc⟩ := HCB.out wa
       have CA : Ch No w (Lib.bytesWorld wa 5 s) := ((C1.no_no D1).no_no hcha).no_no hcc
       have M := PMay.one (w0 := w) (P := fun c b => c = 152 ∧ b = bys s) (152, some ⟨wa.heap.size, 0, none⟩, s.size, grownCap wa s.size 0 5) ⟨rfl, rfl⟩ hby (Fr.mk' ((C1.no_no D1).no_no hcha).size) CA.size
       exact ⟨_, _, rfl, M, by simp, ⟨_, List.mem_singleton.2 rfl, rfl⟩, CA.alloc _⟩)
    | (obtain ⟨hby, hcc⟩ := HCB.out (w.alloc (.cells #[.int .i64 17, .int .u64 n, .string s, .slice A m cap, .int .i64 o, .slice B d capB] 25)).drew
       have hsz : (w.alloc (.cells #[.int .i64 17, .int .u64 n, .string s, .slice A m cap, .int .i64 o, .slice B d capB] 25)).drew.heap.size = w.heap.size + 1 := by simp
       rw [hsz] at hby
       have CA : Ch No w wa := ((C1.no_no D1).no_no hcc).no_no hcha
       have M := PMay.one (w0 := w) (P := fun c b => c = 152 ∧ b = bys s) (152, some ⟨w.heap.size + 1, 0, none⟩, s.size, grownCap (w.alloc (.cells #[.int .i64 17, .int .u64 n, .string s, .slice A m cap, .int .i64 o, .slice B d capB] 25)).drew s.size 0 5) ⟨rfl, rfl⟩ (hby.keep0 hcha) (Fr.mk' (by omega)) CA.size
       exact ⟨_, _, rfl, M, by simp, ⟨_, List.mem_singleton.2 rfl, rfl⟩, CA.alloc _⟩)

end Go.Proofs.YtbdgkikipekmlaaDoor

namespace Go.Proofs.YtbdgkikipekmlaaDoor
set_option linter.unusedVariables false
set_option linter.unusedSimpArgs false
open Go.RowKit
set_option maxRecDepth 100000 in
set_option maxHeartbeats 2000000 in
theorem pieces_num (pf : Nat) (k n o : Int) (s : ByteArray) (m d : Nat) (A B : Option Addr) (cap capB : Nat) (w : World) (hk0 : 2 ≤ k) (hk1 : k ≤ 16) (hk2 : k ≠ 14) (h0 : 0 ≤ n) (h1 : n < 18446744073709551616) :
    Calls Tryd.prog 69 #[.pointer (some ⟨pf, 0, none⟩), .agg #[.int .i64 k, .int .u64 n, .string s, .slice A m cap, .int .i64 o, .slice B d capB]] w (PcTo (NumW k n) (cdOf k) w) := by
  have hB := Row.alloc w [.int .i64 k, .int .u64 n, .string s, .slice A m cap, .int .i64 o, .slice B d capB] 25
  have p0 := hB.cell 0 _ rfl
  have p1 := hB.cell 1 _ rfl
  have p2 := hB.cell 2 _ rfl
  have p3 := hB.cell 3 _ rfl
  have p4 := hB.cell 4 _ rfl
  have p5 := hB.cell 5 _ rfl
  have e0 : (k == 0) = false := beq_eq_false_iff_ne.2 (by omega)
  have g0 : decide (k = 0) = false := decide_eq_false (by omega)
  have e1 : (k == 1) = false := beq_eq_false_iff_ne.2 (by omega)
  have g1 : decide (k = 1) = false := decide_eq_false (by omega)
  have e14 : (k == 14) = false := beq_eq_false_iff_ne.2 (by omega)
  have g14 : decide (k = 14) = false := decide_eq_false (by omega)
  have e17 : (k == 17) = false := beq_eq_false_iff_ne.2 (by omega)
  have g17 : decide (k = 17) = false := decide_eq_false (by omega)
  have e18 : (k == 18) = false := beq_eq_false_iff_ne.2 (by omega)
  have g18 : decide (k = 18) = false := decide_eq_false (by omega)
  have e19 : (k == 19) = false := beq_eq_false_iff_ne.2 (by omega)
  have g19 : decide (k = 19) = false := decide_eq_false (by omega)
  have e20 : (k == 20) = false := beq_eq_false_iff_ne.2 (by omega)
  have g20 : decide (k = 20) = false := decide_eq_false (by omega)
  have e21 : (k == 21) = false := beq_eq_false_iff_ne.2 (by omega)
  have g21 : decide (k = 21) = false := decide_eq_false (by omega)
  have e22 : (k == 22) = false := beq_eq_false_iff_ne.2 (by omega)
  have g22 : decide (k = 22) = false := decide_eq_false (by omega)
  have e23 : (k == 23) = false := beq_eq_false_iff_ne.2 (by omega)
  have g23 : decide (k = 23) = false := decide_eq_false (by omega)

  have hN := hid (fun W => numbered_calls k n o s m d A B cap capB W hk0 hk1 hk2 h0 h1)
  clear hk0 hk1 hk2
  go_enter Tryd.func69, Tryd.ntmps69
  go_wp2_with fail
  refine (hN.out _).mono ?_
  rintro e w1 ⟨v, xs, rfl, hm, hl, hx, hch⟩
  go_wp2_with fail
  go_ret
  have C1 : Ch No w (w.alloc (.cells #[.int .i64 k, .int .u64 n, .string s, .slice A m cap, .int .i64 o, .slice B d capB] 25)) := (Ch.refl No w).alloc _
  exact ⟨v, xs, rfl, hm.weak C1.size, hl, hx, C1.no_no hch⟩
end Go.Proofs.YtbdgkikipekmlaaDoor
