/- An array of texts is read in whatever form it is written, and what stands behind it is told; a value that is no such array, and one that is cut off, are refused. No condition. -/
import Derived.Test.YtbdgkikipekmlaaDoorRows
import Derived.Test.YtbdgkikipekmlaaDoorHnd
import Derived.Test.YtbdgkikipekmlaaDoorLas
import Derived.Test.YtbdgkikipekmlaaDoorCards
import Derived.Test.YtbdgkikipekmlaaDoorTie
import Derived.WalkKit
import Derived.LaidMore
import Derived.Lay
import Derived.SevenTiedAt
import Derived.Stop.Joined
import Derived.ProofKit
import Derived.OpenShut
import Derived.ShutString
import Derived.ChangeOld
import Derived.Below
namespace Go.Proofs.YtbdgkikipekmlaaDoor.fnReadArrayString
open Go.ChangeShapes Go.WideShapes Go.ChangeAt Go.RowKit
open Go.ChangeMaps (open_string shut_string)
set_option linter.unusedVariables false

theorem own : ownKnob Tryd.prog.godebug = none := by kernel_rfl
theorem laidOut : laidOutB Tryd.prog = true := by kernel_rfl

theorem walk (t : Va) (v0 v1 v2 v3 v4 v5 : Value) (f : Int) (a : Option Addr) (l : List Int) (cap : Nat) (cut : Int) (w : World) (hL : laidMetH Tryd.prog Rows.fnReadArrayStringRow.laid w) (ht : VaP w t [v0, v1, v2, v3, v4, v5]) (wf : (Lit.int .u64 f).wf = true) (wc : (Lit.int .i64 cut).wf = true) (hr : Rd u8 w a l) (hle : l.length ≤ cap) (hb : ∀ x ∈ l, (Lit.int .u8 x).wf = true) :
    Calls Tryd.prog 9 #[.agg #[v0, v1, v2, v3, v4, v5, .int .u64 f, .slice a l.length cap, .int .i64 cut]] w fun e w' => e = .returned (.bool true) ∧ Below w.heap.size w w' := by
  have h := fun x hx => bounds_u8 (hb x hx)
  have hf := bounds_u64 wf
  exact (FnReadArrayStringLaw t v0 v1 v2 v3 v4 v5 f a l cap cut w (lds_of_laid hL) ht hf.1 (by omega) hr hle (fun x hx => ⟨(h x hx).1, by have := (h x hx).2; omega⟩)).mono fun e w' ⟨he, hc⟩ => ⟨he, hc.below⟩

/-! ### THE ROW's STEP -/
set_option maxRecDepth 100000 in
theorem lifted (os : Os) (started : os.Started) (H : Type) (enc : TypeId × Value → H) :
    ReturnsInHanded {} Tryd.checked os 9 .any (fun w args => (Rows.fnReadArrayStringSpec.pre enc Tryd.prog Tryd.f9 Rows.fnReadArrayStringRow.domain false w args ∧ laidMetH Tryd.prog Rows.fnReadArrayStringRow.laid w) ∧ sizedMet enc Tryd.prog Tryd.f9 (OpenSpec.ofChange Rows.fnReadArrayStringSpec) false w args) (Rows.fnReadArrayStringSpec.post enc Tryd.prog Tryd.f9 false true false false) := by
  refine returnsInHanded_of_change_and (C := Tryd.checked) (X := fun w _ => laidMetH Tryd.prog Rows.fnReadArrayStringRow.laid w) (fun _ _ _ hh h => h.of_heap hh) own started (by kernel_rfl) Tryd.func9
    (ChangeSpec.witness_shaped (enc := enc) (C := Tryd.checked) (os := os) (X := fun w _ => laidMetH Tryd.prog Rows.fnReadArrayStringRow.laid w) false (World.laidAll Tryd.prog os Rows.fnReadArrayStringRow.laid) #[.agg #[.int .i64 0, .int .u64 0, .string ⟨#[]⟩, .slice none 0 0, .int .i64 0, .slice none 0 0, .int .u64 0, .slice none 0 0, .int .i64 0]] 8 (World.laidAll_os _ _ _)
      (World.shaped_of_ZipB (by kernel_rfl) (by kernel_rfl)) (by kernel_rfl) (by kernel_rfl) (by kernel_rfl)
      (by rw [MakeChecks.laidMetH_plain _ _ _ (by kernel_rfl)]; exact laidMet_laidAll _ (by kernel_rfl) (by kernel_rfl))) ?_
  intro W base args ds gs before hval0 hW hcnd _ hL _
  have hval : ∀ (j : Nat) t v, Tryd.f9.params[j]? = some t → args[j]? = some v → Value.okWide Tryd.prog W .any base t v := hval0
  have hW' := hW
  obtain ⟨p, q, hA0, hV, rfl, hfz, hnd⟩ := hW
  have hA : DataW.TrodAll enc Tryd.prog W 0 (fun _ => true) true Tryd.f9.params.toList args.toList ds p := hA0
  rw [Tryd.params9] at hA hval
  obtain ⟨v, vs0, d0, ds0, p0, q0, hargs, rfl, rfl, h0, r0⟩ := trodAll_cons hA
  obtain ⟨rfl, rfl, rfl⟩ := trodAll_nil r0
  obtain rfl : args = #[v] := by cases args; simp_all
  obtain ⟨rfl, rfl⟩ := trodVars_none hV
  obtain ⟨cs, rfl, _⟩ := okWide_struct Tryd.underlying28 (hval 0 28 v rfl rfl)
  have k0 := h0
  have lt0 : ∀ x ∈ p0, x.block < W.heap.size := by obtain ⟨m, hm⟩ := k0; exact DataW.trod_lt m _ _ _ hm
  obtain ⟨fuel, hf⟩ := h0
  obtain ⟨t, v0, v1, v2, v3, v4, v5, f, a, l, cap, cut, hcs, ht, wf, wc, hr, hle, hb⟩ := open_handed (fun _ => rfl) fuel _ _ hf
  obtain rfl : cs = #[v0, v1, v2, v3, v4, v5, .int .u64 f, .slice a l.length cap, .int .i64 cut] := by
    have hcs' : cs.toList = _ := hcs
    rw [← Array.toArray_toList (xs := cs), hcs']
  clear hA0 hval0
  refine (walk t v0 v1 v2 v3 v4 v5 f a l cap cut W hL ht wf wc hr hle hb).mono fun e W' ⟨he, bel⟩ => ?_
  subst he
  exact ⟨_, rfl, _, _, _, [], _, [], hW', trodAll_mk1 (shut_bool Tryd.underlying4 _), (trodAll_cons_mk (Below.trod laidOut (by kernel_rfl) (of_decide_eq_true (by kernel_rfl)) k0 bel lt0) trodAll_mk0), rfl, bel.frame _, fun h => by cases h⟩

theorem over : Rows.fnReadArrayStringRow.holds Tryd.pinned (OpenSpec.ofChange Rows.fnReadArrayStringSpec) :=
  OpenClaim.holds_of_wide 9 Tryd.f9 rfl rfl rfl rfl rfl rfl rfl ⟨rfl, rfl, rfl, rfl, rfl⟩ rfl rfl rfl rfl rfl (by kernel_rfl) Tryd.func9 (by kernel_rfl)
    (of_decide_eq_true (by kernel_rfl)) (by unfold Func.isWrapper; first | (rw [if_pos (by decide +kernel)]; kernel_rfl) | (rw [if_neg (by decide +kernel)]; exact ⟨rfl, rfl⟩))
    (fun os started H enc _ => lifted os started H enc)

/-- ████ THE STATEMENT ████ -/
theorem proved : Rows.FnReadArrayStringCardSaid :=
  Claim7.holds_tied_plain_at .later [] [.data, .sentinel, .pinned] true (true, "fa24019b26a8773c3332f5677e105917caf62535c669056ae3c939a965acd14c") false over (fun _ h => by cases h) (by kernel_rfl) (fun _ h => by cases h) fnReadArrayString_row_tie rfl ⟨rfl, rfl⟩ (by kernel_rfl) rfl
    (fun f fn hf hfn => by
      obtain rfl : f = 9 := Option.some.inj ((show Tryd.prog.funcNamed "given.example/pub-saddlebag/laws.FnReadArrayString" = some 9 by kernel_rfl).symm.trans hf) |>.symm
      obtain rfl : fn = Tryd.f9 := (Option.some.inj (Tryd.func9.symm.trans hfn)).symm
      refine ⟨by kernel_rfl, fun j t ht => ?_⟩
      have hall : (Tryd.f9.params.toList.all fun u => !Tryd.prog.wantsStandIn u) = true := by kernel_rfl
      have hm : t ∈ Tryd.f9.params.toList := by simpa using Array.mem_of_getElem? ht
      exact (show Tryd.prog.wantsStandIn t = false by simpa using List.all_eq_true.1 hall t hm))
    (by kernel_rfl)
#print axioms proved
end Go.Proofs.YtbdgkikipekmlaaDoor.fnReadArrayString
