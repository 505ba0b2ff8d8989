/- An extension of a type is read in whatever form it is written, and what stands behind it is told; one of another type, something else, and one that is cut off are refused. No condition. -/
import Derived.Test.YtfelmhfdklakpaaDoorRows
import Derived.Test.YtfelmhfdklakpaaDoorGiven
import Derived.Test.YtfelmhfdklakpaaDoorLawE
import Derived.Test.YtfelmhfdklakpaaDoorCards
import Derived.Test.YtfelmhfdklakpaaDoorTie
import Derived.WalkKit
import Derived.LaidMore
import Derived.Lay
import Derived.SevenTiedAt
import Derived.Stop.Joined
import Derived.ProofKit
import Derived.OpenShut
import Derived.OpenVars
import Derived.ShutString
import Derived.ChangeOld
import Derived.Below
namespace Go.Proofs.YtfelmhfdklakpaaDoor.fnGetExt
open Go.ChangeShapes Go.WideShapes Go.ChangeAt Go.RowKit
open Go.ChangeMaps (open_string shut_string)
set_option linter.unusedVariables false

theorem varsLen {H : Type} {enc : TypeId × Value → H} {P : Program} {w : World} {sp : Nat → Bool} : ∀ {ns : List String} {gs : List (DataW H)} {ps : List MemPlace}, DataW.TrodVars enc P w sp ns gs ps → gs.length = ns.length
  | [], [], _, _ => rfl
  | [], _ :: _, _, h => h.elim
  | _ :: _, [], _, h => h.elim
  | _ :: _, _ :: _, _, h => by
    obtain ⟨_, _, _, _, _, _, _, _, _, _, hs, _⟩ := h
    simp [varsLen hs]
theorem own : ownKnob Tryd.prog.godebug = none := by kernel_rfl
theorem laidOut : laidOutB Tryd.prog = true := by kernel_rfl

theorem walk (t : Pk) (v0 v1 v2 v3 v4 : Value) (f : Int) (sh : Bool) (a : Option Addr) (l : List Int) (cap : Nat) (cut : Int) (w : World) (hL : laidMetH Tryd.prog Rows.fnGetExtRow.laid w) (ht : TrP w t [v0, v1, v2, v3, v4]) (wf : (Lit.int .u64 f).wf = true) (wc : (Lit.int .i64 cut).wf = true) (hr : Rd u8 w a l) (hle : l.length ≤ cap) (hb : ∀ x ∈ l, (Lit.int .u8 x).wf = true) (kd : Int) (wk : (Lit.int .i8 kd).wf = true) :
    Calls Tryd.prog 4 #[.agg #[v0, v1, v2, v3, v4, .int .u64 f, .bool sh, .slice a l.length cap, .int .i64 cut], .int .i8 kd] w fun e w' => e = .returned (.bool true) ∧ Below w.heap.size w w' := by
  have h := fun x hx => bounds_u8 (hb x hx)
  have hf := bounds_u64 wf
  have hk := bounds_i8 wk
  exact (FnGetExtLaw t v0 v1 v2 v3 v4 f sh a l cap cut kd w (short_of_laid hL) ht hf.1 (by omega) hr hle (fun x hx => ⟨(h x hx).1, by have := (h x hx).2; omega⟩) (by omega) (by omega)).mono fun e w' ⟨he, hc⟩ => ⟨he, hc.below⟩

/-! ### THE ROW's STEP: WRITTEN OUT: LEAVE IT -/
set_option maxRecDepth 100000 in
theorem lifted (os : Os) (started : os.Started) (H : Type) (enc : TypeId × Value → H) :
    ReturnsInHanded {} Tryd.checked os 4 .any (fun w args => (Rows.fnGetExtSpec.pre enc Tryd.prog Tryd.f4 Rows.fnGetExtRow.domain false w args ∧ laidMetH Tryd.prog Rows.fnGetExtRow.laid w) ∧ sizedMet enc Tryd.prog Tryd.f4 (OpenSpec.ofChange Rows.fnGetExtSpec) false w args) (Rows.fnGetExtSpec.post enc Tryd.prog Tryd.f4 false true false false) := by
  refine returnsInHanded_of_change_and (C := Tryd.checked) (X := fun w _ => laidMetH Tryd.prog Rows.fnGetExtRow.laid w) (fun _ _ _ hh h => h.of_heap hh) own started (by kernel_rfl) Tryd.func4
    (ChangeSpec.witness_shaped (enc := enc) (C := Tryd.checked) (os := os) (X := fun w _ => laidMetH Tryd.prog Rows.fnGetExtRow.laid w) false (World.laidAll Tryd.prog os Rows.fnGetExtRow.laid) #[.agg #[.int .i64 0, .int .u64 0, .string ⟨#[]⟩, .int .i64 0, .slice none 0 0, .int .u64 0, .bool false, .slice none 0 0, .int .i64 0], .int .i8 0] 8 (World.laidAll_os _ _ _)
      (World.shaped_of_ZipB (by kernel_rfl) (by kernel_rfl)) (by kernel_rfl) (by kernel_rfl) (by kernel_rfl)
      (by rw [MakeChecks.laidMetH_plain _ _ _ (by kernel_rfl)]; exact laidMet_laidAll _ (by kernel_rfl) (by kernel_rfl))) ?_
  intro W base args ds gs before hval0 hW hcnd _ hL _
  have hval : ∀ (j : Nat) t v, Tryd.f4.params[j]? = some t → args[j]? = some v → Value.okWide Tryd.prog W .any base t v := hval0
  have hW' := hW
  obtain ⟨p, q, hA0, hV, rfl, hfz, hnd⟩ := hW
  have hA : DataW.TrodAll enc Tryd.prog W 0 (fun _ => true) true Tryd.f4.params.toList args.toList ds p := hA0
  rw [Tryd.params4] at hA hval
  obtain ⟨v, vs0, d0, ds0, p0, q0, hargs, rfl, rfl, h0, r0⟩ := trodAll_cons hA
  obtain ⟨u1, vs1, d1, ds1, p1, q1, rfl, rfl, rfl, h1, r1⟩ := trodAll_cons r0
  obtain ⟨rfl, rfl, rfl⟩ := trodAll_nil r1
  obtain rfl : args = #[v, u1] := by cases args; simp_all
  obtain ⟨g1, rfl⟩ : ∃ g1, gs = [g1] := by
    have hl := varsLen hV
    match gs, hl with
    | [g1], _ => exact ⟨g1, rfl⟩
  obtain ⟨cs, rfl, _⟩ := okWide_struct Tryd.underlying37 (hval 0 37 v rfl rfl)
  have k0 := h0
  have lt0 : ∀ x ∈ p0, x.block < W.heap.size := by obtain ⟨m, hm⟩ := k0; exact DataW.trod_lt m _ _ _ hm
  obtain ⟨fuel, hf⟩ := h0
  obtain ⟨t, v0, v1, v2, v3, v4, f, sh, a, l, cap, cut, hcs, ht, wf, wc, hr, hle, hb⟩ := open_given (fun _ => rfl) fuel _ _ hf
  obtain rfl : cs = #[v0, v1, v2, v3, v4, .int .u64 f, .bool sh, .slice a l.length cap, .int .i64 cut] := by
    have hcs' : cs.toList = _ := hcs
    rw [← Array.toArray_toList (xs := cs), hcs']
  obtain ⟨kd, rfl, rfl, rfl, wk⟩ := open_int Tryd.underlying38 (hval 1 38 u1 rfl rfl) h1
  clear hA0 hval0
  refine (walk t v0 v1 v2 v3 v4 f sh a l cap cut W hL ht wf wc hr hle hb kd wk).mono fun e W' ⟨he, bel⟩ => ?_
  subst he
  exact ⟨_, rfl, _, _, _, [], _, _, hW', trodAll_mk1 (shut_bool Tryd.underlying4 _), (trodAll_cons_mk (Below.trod laidOut (by kernel_rfl) (of_decide_eq_true (by kernel_rfl)) k0 bel lt0) (trodAll_cons_mk (shut_int Tryd.underlying38 wk) trodAll_mk0)), bel.trodVars laidOut (by kernel_rfl) hV, bel.frame _, fun h => by cases h⟩

theorem over : Rows.fnGetExtRow.holds Tryd.pinned (OpenSpec.ofChange Rows.fnGetExtSpec) :=
  OpenClaim.holds_of_wide 4 Tryd.f4 rfl rfl rfl rfl rfl rfl rfl ⟨rfl, rfl, rfl, rfl, rfl⟩ rfl rfl rfl rfl rfl (by kernel_rfl) Tryd.func4 (by kernel_rfl)
    (of_decide_eq_true (by kernel_rfl)) (by unfold Func.isWrapper; first | (rw [if_pos (by decide +kernel)]; kernel_rfl) | (rw [if_neg (by decide +kernel)]; exact ⟨rfl, rfl⟩))
    (fun os started H enc _ => lifted os started H enc)

/-- ████ THE STATEMENT ████ -/
theorem proved : Rows.FnGetExtCardSaid :=
  Claim7.holds_tied_plain_at .later [] [.wider] true (true, "4d990323038144f993645a4af26f2c03916d50a8e0604d3ad251cf98d4414f09") false over (fun _ h => by cases h) (by kernel_rfl) (fun _ h => by cases h) fnGetExt_row_tie rfl ⟨rfl, rfl⟩ (by kernel_rfl) rfl
    (fun f fn hf hfn => by
      obtain rfl : f = 4 := Option.some.inj ((show Tryd.prog.funcNamed "given.example/pub-saddlebag/laws.FnGetExt" = some 4 by kernel_rfl).symm.trans hf) |>.symm
      obtain rfl : fn = Tryd.f4 := (Option.some.inj (Tryd.func4.symm.trans hfn)).symm
      refine ⟨by kernel_rfl, fun j t ht => ?_⟩
      have hall : (Tryd.f4.params.toList.all fun u => !Tryd.prog.wantsStandIn u) = true := by kernel_rfl
      have hm : t ∈ Tryd.f4.params.toList := by simpa using Array.mem_of_getElem? ht
      exact (show Tryd.prog.wantsStandIn t = false by simpa using List.all_eq_true.1 hall t hm))
    (by kernel_rfl)
#print axioms proved
end Go.Proofs.YtfelmhfdklakpaaDoor.fnGetExt
