/- The walk of AMQP's writer of arrays of texts: a sample. No condition. -/
import Derived.Test.YtbdgkikipekmlaaDoorWrB
import Derived.Test.YtbdgkikipekmlaaDoorLaid
import Derived.Test.YtbdgkikipekmlaaDoorWrt
import Derived.Lib.AppendStr
import Derived.Lib.LazyBuf
import Derived.Deep.LoopGhost
namespace Go.Proofs.YtbdgkikipekmlaaDoor
set_option linter.unusedVariables false
set_option linter.unusedSimpArgs false
open Go.RowKit

theorem bys_cells (s : ByteArray) : Lib.strCells s = (bys s).map u8 := by
  rw [bys, List.map_map]
  rfl
section
variable {P : Program} {ops : Array Oper} {Q : Exit → Act → World → Prop} {o : Oper} {rest : List Oper} {a : Act} {w : World}
/-- append(v, a text...) at the operation. -/
theorem wp_appendS (hgd : o.guard = none) (sl x : Operand) (t u e : TypeId) (ho : o.op = .call { callee := .builtin .append, args := #[sl, x], argTypes := #[t, u] })
    (ht : P.underlying t = some (.slice e)) (hu : P.underlying u = some .string) (hinfo : (P.info? e).map (fun i => (i.zero, i.size, i.bytes)) = some (some (.int .u8 0), 1, 1))
    (base : Nat) (v : Value) (l : List Int) (s : ByteArray) (hs : a.eval sl = v) (hx : a.eval x = .string s)
    (HO : Ow e u8 w v l) (HF : ∀ b, Blk v b → base ≤ b) (hsz : base ≤ w.heap.size) (hl : l.length + s.size ≤ 140737488355328)
    (h : ∀ v1 w1, Ow e u8 w1 v1 (l ++ bys s) → Ch (Blk v) w w1 → (∀ b, Blk v1 b → base ≤ b ∧ ∃ cur, w1.heap[b]? = some (.cells cur e (0, 0))) → wpList P ops Q rest (a.put o.dst v1) w1) : wpList P ops Q (o :: rest) a w := by
  obtain ⟨i, hi, hzz⟩ := Option.map_eq_some_iff.1 hinfo
  simp only [Prod.mk.injEq] at hzz
  obtain ⟨hz0, hz1, hz2⟩ := hzz
  have HO' : w.ownsRow base e 1 v l.length (l.map u8) := by
    refine ⟨HO.1, ?_⟩
    rcases HO.2 with h2 | ⟨g, cap, cur, rfl, h2, h3⟩
    · exact .inl h2
    · exact .inr ⟨g, cap, cur, rfl, HF g rfl, h3⟩
  obtain ⟨v1, w1, hr, h2, h3, _⟩ := Lib.run_append_own_string (P := P) w base t u o.type e i ht hu hi hz0 hz1 hz2 v l.length (l.map u8) HO' s (by unfold maxLen; omega) hl hsz
  refine wpList_plain hgd fun K hK => ?_
  unfold Oper.wp execOp
  simp only [ho, resolve, invoke, builtin, Sem.run_bind, Sem.run_pure, Result.andThen_ok, List.map_toArray, List.map_cons, List.map_nil, hs, hx, hr]
  refine hK _ _ (h v1 w1 ?_ ⟨h3.os, h3.tape, h3.output, h3.size, fun k hk hn => h3.block k hk (fun he => hn he.symm)⟩ fun b hb => ?_)
  · unfold Ow
    rw [List.length_append, List.map_append, bys_len, ← bys_cells]
    refine ⟨h2.1, ?_⟩
    rcases h2.2 with h4 | ⟨g, cap, cur, hv, h5, h6⟩
    · exact .inl h4
    · exact .inr ⟨g, cap, cur, hv, Nat.zero_le _, h6⟩
  · rcases h2.2 with ⟨rfl, h4⟩ | ⟨g, cap, cur, rfl, h5, h6, _⟩
    · exact absurd hb Blk_nil
    · obtain rfl := Blk_slice.1 hb
      exact ⟨h5, cur, h6⟩
end
set_option maxRecDepth 100000 in
set_option maxHeartbeats 1000000 in
theorem bufStr (base p : Nat) (l : List Int) (s : ByteArray) (w : World) (hB0 : Bf base p l w) (hl : l.length ≤ 1099511627776) (hs : s.size ≤ 131072) :
    Calls Tryd.prog 87 #[.pointer (some ⟨p, 0, none⟩), .string s] w (BfTo base p (l ++ bys s) w) := by
  obtain ⟨v, hB⟩ := hB0
  have hc0 := hB.rp.cell 0 _ rfl
  have hpl := hB.rp.lt
  have hbp := hB.bp
  go_enter Tryd.func87, Tryd.ntmps87
  go_wp2_with (first | ((with_reducible refine gate (.call { callee := .builtin .append, args := #[.tmp _, .tmp _], argTypes := #[26, 9] }) rfl ?_); refine wp_appendS rfl _ _ 26 9 5 rfl Tryd.underlying26 Tryd.underlying9 info_u8 base v l s rfl rfl hB.ow hB.bv (by omega) (by omega) ?_; intro v1 w1 ho hch hat; have hrp1 := hB.rp.keep hch hB.vp) | ((with_reducible refine gate (.store 26 _ _) rfl ?_); refine wp_store rfl rfl 26 _ _ rfl p 0 66 [v, .int .i64 0] v1 rfl rfl [v1] (by obtain ⟨A', c', rfl, _, _⟩ := ho.slice; rfl) size_slb (by obtain ⟨A', c', rfl, _, _⟩ := ho.slice; simp [Value.oneCell']) hrp1 (by simp) ?_; intro w2 hrow2 hch2))
  first | go_end0 | refine bodyPost_ret (results_none rfl _ _ _) rfl ?_
  have hvp : ¬ Blk v1 p := fun hb => by
    obtain ⟨_, cur, h9⟩ := hat p hb
    unfold Row at hrp1
    rw [h9] at hrp1
    injection hrp1 with h8
    injection h8 with _ h7 _
    exact absurd h7 (by decide)
  refine ⟨rfl, ⟨v1, by simpa using hrow2, ho.keep hch2 (fun b hb hbt => hvp (hbt ▸ hb)), hbp, fun b hb => (hat b hb).1, hvp⟩, ?_⟩
  exact (hch.mono (T := From base) (fun b hb => hB.bv b hb)).trans hch2 (fun _ h => h) (fun x hx => .inl (by subst hx; exact hbp))
set_option maxRecDepth 100000 in
set_option maxHeartbeats 2000000 in
theorem vHead_one (base p : Nat) (l : List Int) (w : World) (hB : Bf base p l w) (hl : l.length ≤ 1000) :
    Calls Tryd.prog 86 #[.pointer (some ⟨p, 0, none⟩), .int .i64 1, .int .i64 1, .int .u8 161] w (BfTo base p (l ++ [224, 4, 1, 161]) w) := by
  go_enter Tryd.func86, Tryd.ntmps86
  go_wp2_with fail
  refine (bufAppend base p l _ _ 4 [224, 4, 1, 161] _ (hB.keep0 ((Ch.refl No w).alloc _)) (by omega) ((Row.alloc w [u8 224, u8 4, u8 1, u8 161] 5).rd (l := [224, 4, 1, 161]) rfl) rfl (by omega)).mono ?_
  rintro e w1 ⟨rfl, hB1, hch1⟩
  go_wp2_with fail
  first | go_end0 | refine bodyPost_ret (results_none rfl _ _ _) rfl ?_
  exact ⟨rfl, hB1, ((Ch.refl (From base) w).alloc _).from_from hch1⟩
theorem valid_a (w : World) (hT : Tabs w) : Calls Tryd.prog 85 #[.string ⟨#[97]⟩] w fun e w' => e = .returned (.bool true) ∧ Ch No w w' :=
  (Any.utf8_ValidString Tryd.laysValid ⟨#[97]⟩ w (by decide) hT).mono fun e w' ⟨h1, h2⟩ => ⟨by rw [h1]; rfl, Ch.of_below h2⟩
set_option maxRecDepth 100000 in
set_option maxHeartbeats 2000000 in
theorem marshStr_one (base p : Nat) (l : List Int) (A : Option Addr) (c : Nat) (w : World) (hT : Tabs w) (hB : Bf base p l w) (hl : l.length ≤ 900) (hr : Rd Value.string w A [⟨#[97]⟩]) (hA : ∀ ad, A = some ad → ad.block < base) :
    Calls Tryd.prog 61 #[.slice A 1 c, .pointer (some ⟨p, 0, none⟩)] w (MTo base p (l ++ [224, 4, 1, 161, 1, 97]) w) := by
  go_enter Tryd.func61, Tryd.ntmps61
  go_wp2_with fail
  go_loopg [5, 6, 15] 1 (fun kk s5 s6 s15 wr => s5 = .int .u8 161 ∧ Ch No w wr ∧ ((kk = 1 ∧ s6 = .int .i64 0 ∧ s15 = .int .i64 0) ∨ (kk = 0 ∧ s6 = .int .i64 1 ∧ s15 = .int .i64 1)))
  case atStart => exact ⟨rfl, Ch.refl _ _, .inl ⟨rfl, rfl, rfl⟩⟩
  case round =>
    rename World => wA
    obtain ⟨rfl, hch0, hrel⟩ := hrel
    rcases hrel with ⟨hk1, rfl, rfl⟩ | ⟨hk1, rfl, rfl⟩
    · obtain ⟨bk, off, rfl, hcell⟩ := (hr.keep0 hch0).at_ 0 (by simp)
      simp only [Nat.add_zero, List.getElem_cons_zero] at hcell
      go_wp2_with fail
      refine (valid_a wA (hT.keep0 hch0)).mono ?_
      rintro e w2 ⟨rfl, hch2⟩
      go_wp2_with fail
      go_roundg 0
      case measure => omega
      case rel => exact ⟨rfl, hch0.no_no hch2, .inr ⟨rfl, by go_num, by go_num⟩⟩
    have hBA := hB.keep0 hch0
    have hrA := hr.keep0 hch0
    go_wp2_with fail
    refine (vHead_one base p l wA hBA (by omega)).mono ?_
    rintro e w1 ⟨rfl, hB1, hch1⟩
    have hr1 := hrA.keep hch1 (fun ad had h => by have := hA ad had; simp only [From] at h; omega)
    go_wp2_with fail
    go_loopg [56] 1 (fun kk s56 wr => Ch (From base) w1 wr ∧ ((kk = 1 ∧ s56 = .int .i64 0 ∧ Bf base p (l ++ [224, 4, 1, 161]) wr) ∨ (kk = 0 ∧ s56 = .int .i64 1 ∧ Bf base p (l ++ [224, 4, 1, 161, 1, 97]) wr)))
    case atStart => exact ⟨Ch.refl _ _, .inl ⟨rfl, rfl, hB1⟩⟩
    case round =>
      rename World => wr
      obtain ⟨hch, hrel⟩ := hrel
      rcases hrel with ⟨hk1, rfl, hBr⟩ | ⟨hk1, rfl, hBr⟩
      · obtain ⟨bk, off, rfl, hcell⟩ := (hr1.keep hch (fun ad had h => by have := hA ad had; simp only [From] at h; omega)).at_ 0 (by simp)
        simp only [Nat.add_zero, List.getElem_cons_zero] at hcell
        go_wp2_with fail
        refine (bufByte base p _ 1 wr hBr (by simp; omega)).mono ?_
        rintro e w2 ⟨rfl, hB2, hch2⟩
        go_wp2_with fail
        refine (bufStr base p _ ⟨#[97]⟩ w2 hB2 (by simp; omega) (by decide)).mono ?_
        rintro e w3 ⟨rfl, hB3, hch3⟩
        have e97 : bys ⟨#[97]⟩ = [97] := by decide
        rw [e97] at hB3
        go_wp2_with fail
        go_roundg 0
        case measure => omega
        case rel => exact ⟨(hch.from_from hch2).from_from hch3, .inr ⟨rfl, by go_num, by simpa using hB3⟩⟩
      · go_wp2_with fail
        go_ret
        exact ⟨rfl, hBr, (hch0.mono (T := From base) (fun _ h => h.elim)).from_from (hch1.from_from hch)⟩
theorem info_wstr : (Tryd.prog.info? 9).map (fun i => (i.zero, i.size, i.bytes)) = some (some (.string ⟨#[]⟩), 1, 16) := by kernel_rfl
set_option maxRecDepth 100000 in
set_option maxHeartbeats 2000000 in
theorem implWriteStr (A : Option Addr) (c : Nat) (w : World) (hr : Rd (Value.string) w A [(⟨#[97]⟩ : ByteArray)]) (hT : Tabs w) :
    Calls Tryd.prog 28 #[.slice A 1 c] w (WTo w ([224, 4, 1, 161, 1, 97])) := by
  obtain ⟨L, hL⟩ : ∃ L : List Int, L = [224, 4, 1, 161, 1, 97] := ⟨_, rfl⟩
  rw [← hL]
  have hLl : L.length ≤ 1099511620000 := by rw [hL]; simp
  have HL := hid hL
  clear hL
  have R0 : Row ((w.alloc (.cells #[.slice none 0 0] 26)).alloc (.cells #[.bool false] 4)) w.heap.size 26 [.slice none 0 0] := (Row.alloc w [.slice none 0 0] 26).keep0 ((Ch.refl No _).alloc _)
  have R1 := Row.alloc (w.alloc (.cells #[.slice none 0 0] 26)) [.bool false] 4
  have e1 : (w.alloc (.cells #[.slice none 0 0] 26)).heap.size = w.heap.size + 1 := by simp
  rw [e1] at R1
  have C0 : Ch No w ((w.alloc (.cells #[.slice none 0 0] 26)).alloc (.cells #[.bool false] 4)) := ((Ch.refl No w).alloc _).alloc _
  have e2 : ((w.alloc (.cells #[.slice none 0 0] 26)).alloc (.cells #[.bool false] 4)).heap.size = w.heap.size + 1 + 1 := by simp
  have E2 := hid e2
  have hr0 := hr.keep0 C0
  clear e1 e2
  go_enter_defers Tryd.func28, Tryd.ntmps28
  go_wp2_with fail
  go_loopg [4, 10] 1 (fun kk s4 s10 wr => (kk = 1 ∧ s10 = .int .i64 0 ∧ s4 = .slice none 0 0 ∧ Ch No ((w.alloc (.cells #[.slice none 0 0] 26)).alloc (.cells #[.bool false] 4)) wr) ∨ (kk = 0 ∧ s10 = .int .i64 1 ∧ ∃ AA ca, s4 = .slice AA 1 ca ∧ Ow 9 (Value.string) wr (.slice AA 1 ca) [(⟨#[97]⟩ : ByteArray)] ∧ (∀ b, Blk (.slice AA 1 ca) b → ((w.alloc (.cells #[.slice none 0 0] 26)).alloc (.cells #[.bool false] 4)).heap.size ≤ b) ∧ Ch No ((w.alloc (.cells #[.slice none 0 0] 26)).alloc (.cells #[.bool false] 4)) wr))
  case atStart => exact .inl ⟨rfl, rfl, rfl, Ch.refl _ _⟩
  case round =>
    rcases hrel with ⟨hk1, rfl, rfl, hch⟩ | ⟨hk1, rfl, AA, ca, rfl, HO, hfr, hch⟩
    · obtain ⟨bk, off, rfl, hcell⟩ := (hr0.keep0 hch).at_ 0 (by simp)
      simp only [Nat.add_zero, List.getElem_cons_zero] at hcell
      replace hcell : wr.cell? ⟨bk, off, none⟩ = some (Value.string (⟨#[97]⟩ : ByteArray)) := hcell
      go_wp2_with ((with_reducible refine gate (.call { callee := .builtin .append, args := #[.tmp _, .tmp _], argTypes := #[107, 107] }) rfl ?_); refine wp_append rfl _ _ 107 9 (.string ⟨#[]⟩) 16 rfl Tryd.underlying107 info_wstr rfl (by decide) (Value.string) (fun _ => rfl) (.slice none 0 0) [] [(⟨#[97]⟩ : ByteArray)] _ _ _ rfl rfl rfl (Ow.nil _ _ _) ((Row.alloc wr [Value.string (⟨#[97]⟩ : ByteArray)] 9).rd (l := [(⟨#[97]⟩ : ByteArray)]) rfl) (by simp) ?_; intro v1 w2 ho2 hch2 hat2)
      rw [List.nil_append] at ho2
      obtain ⟨AA, ca, rfl, _, _⟩ := ho2.slice
      go_roundg 0
      case measure => omega
      case rel =>
        have hs := hch.size
        refine .inr ⟨rfl, by go_num, AA, ca, rfl, ho2, fun b hb => ?_, (hch.alloc _).trans hch2 (fun _ h => h) (fun b hb => absurd hb Blk_nil)⟩
        rcases hat2 b hb with h | h
        · exact absurd h Blk_nil
        · simp only [World.size_alloc] at h hs ⊢
          omega
    · have hB := bf_new wr
      have hAA : ∀ ad, AA = some ad → ad.block < wr.heap.size := fun ad had => HO.blk_lt _ (by subst had; rfl)
      have s0 := hch.size
      rw [E2.out] at s0
      have K0 := (R0.keep0 hch)
      have K1 := (R1.keep0 hch)
      have hma := marshStr_one wr.heap.size wr.heap.size [] AA ca (wr.alloc (.cells #[.slice none 0 0, .int .i64 0] 66)) (hT.keep0 ((C0.no_no hch).alloc _)) hB (by simp) (HO.rd.keep0 ((Ch.refl No wr).alloc _)) hAA
      rw [List.nil_append, ← HL.out] at hma
      have HMA := hid hma
      clear hma
      go_wp2_with fail
      refine HMA.out.mono ?_
      rintro e w4 ⟨rfl, hBf, hchf⟩
      go_wp2_with (first | (go_at_call 35; refine (bufBytes _ _ _ _ hBf).mono ?_; rintro e w5 ⟨A5, c5, rfl, hrd5, hle5, hch5⟩) | (go_at_call 34; refine (copied_calls A5 c5 _ _ (hrd5.keep0 hch5) (by omega)).mono ?_; rintro e w6 ⟨v6, rfl, ho6, hf6, hch6⟩; obtain ⟨A6, c6, rfl, hle6, _⟩ := ho6.slice; have M0 := ((K0.keep0 ((Ch.refl No _).alloc _)).keep hchf (fun h => by simp only [From] at h; omega)).keep0 (hch5.no_no hch6); have M1 := ((K1.keep0 ((Ch.refl No _).alloc _)).keep hchf (fun h => by simp only [From] at h; omega)).keep0 (hch5.no_no hch6)) | ((with_reducible refine gate (.store 26 (.tmp 2) _) rfl ?_); refine wp_store rfl rfl 26 _ _ rfl (w.heap.size) 0 26 [.slice none 0 0] (.slice A6 L.length c6) rfl rfl [.slice A6 L.length c6] rfl size_sl (by simp [Value.oneCell']) (M0) (by simp) ?_; intro w7 hrow7 hch7) | ((with_reducible refine gate (.store 4 (.tmp 3) _) rfl ?_); refine wp_store rfl rfl 4 _ _ rfl (w.heap.size + 1) 0 4 [.bool false] (.bool true) rfl rfl [.bool true] rfl size_bool (by simp [Value.oneCell']) (M1.keep hch7 (by omega)) (by simp) ?_; intro w8 hrow8 hch8))
      refine leaves_cons (f := 31) (args := #[.pointer (some ⟨w.heap.size, 0, none⟩), .pointer (some ⟨w.heap.size + 1, 0, none⟩)]) (by simp) (by simp [go_sem]) ?_
      refine (noData_idle _ _ _).mono ?_
      rintro e u' w'' ⟨rfl, rfl, rfl⟩
      have N0 := (hrow7.keep hch8 (by omega)).cell 0 _ rfl
      have N1 := hrow8.cell 0 _ rfl
      have HC : Ch No w w'' := ((((((C0.no_no hch).alloc _).from_no hchf (by omega)).no_no hch5).no_no hch6).freshg hch7 (Nat.le_refl _)).freshg hch8 (by omega)
      have s4 := hchf.size
      simp only [World.size_alloc] at s4
      have s5 := hch5.size
      have hr8 := (ho6.rd.keep hch7 (fun ad had h => by subst had; have := hf6 _ rfl; omega)).keep hch8 (fun ad had h => by subst had; have := hf6 _ rfl; omega)
      refine ⟨.tuple #[.slice A6 L.length c6, .bool true], ?_, A6, c6, rfl, hr8, hle6, HC⟩
      simp [results, Tryd.results28, go_sem, N0, N1]

end Go.Proofs.YtbdgkikipekmlaaDoor
