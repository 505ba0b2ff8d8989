/- A ulong is written as one. Whole domain. -/
import Derived.Test.YtckjclkpgdhcoaaDoorRows
import Derived.Test.YtckjclkpgdhcoaaDoorAmpLW
import Derived.Test.YtckjclkpgdhcoaaDoorCards
import Derived.Test.YtckjclkpgdhcoaaDoorTie
import Derived.WalkKit
import Derived.LaidMore
import Derived.Lay
import Derived.SevenTiedAt
import Derived.Stop.Joined
import Derived.ProofKit
import Derived.OpenShut
import Derived.ShutString
import Derived.ChangeOld
import Derived.Below
namespace Go.Proofs.YtckjclkpgdhcoaaDoor.fnWriteUlong
open Go.ChangeShapes Go.WideShapes Go.ChangeAt Go.RowKit
open Go.ChangeMaps (open_string shut_string)
set_option linter.unusedVariables false      -- a walk need not use every 'w<i>' (that an integer argument fits its kind)

theorem own : ownKnob Tryd.prog.godebug = none := by kernel_rfl

/-! ### STEP 1: THE WALK: the Go text returns true. 'Below w.heap.size w w'': the world has at most new blocks (Derived/RowKit3.lean). Part the cases AHEAD of 'go_enter' where a test parts the walk; take each callee by a contract of your own. -/
theorem walk (a0 : Int) (w0 : (Lit.int .u64 a0).wf = true) (w : World) :
    Calls Tryd.prog 4 #[.int .u64 a0] w fun e w' => e = .returned (.bool true) ∧ Below w.heap.size w w' := by
  have hb := bounds_u64 w0
  exact (lawFnWriteUlong a0 w hb.1 (by omega)).mono fun e w' ⟨he, hc⟩ => ⟨he, hc.below⟩
  -- go_enter Tryd.func4, Tryd.ntmps4
  -- go_wp2
  -- go_ret
  -- exact ⟨rfl, by repeat (first | exact Grown.refl _ | apply Grown.drew | apply Grown.alloc)⟩

/-! ### THE ROW's STEP: WRITTEN OUT: LEAVE IT -/
set_option maxRecDepth 100000 in
theorem lifted (os : Os) (started : os.Started) (H : Type) (enc : TypeId × Value → H) :
    ReturnsInHanded {} Tryd.checked os 4 .any (fun w args => (Rows.fnWriteUlongSpec.pre enc Tryd.prog Tryd.f4 Rows.fnWriteUlongRow.domain false w args ∧ laidMetH Tryd.prog Rows.fnWriteUlongRow.laid w) ∧ sizedMet enc Tryd.prog Tryd.f4 (OpenSpec.ofChange Rows.fnWriteUlongSpec) false w args) (Rows.fnWriteUlongSpec.post enc Tryd.prog Tryd.f4 false true false false) := by
  refine returnsInHanded_of_change_and (C := Tryd.checked) (X := fun w _ => laidMetH Tryd.prog Rows.fnWriteUlongRow.laid w) (fun _ _ _ hh h => h.of_heap hh) own started (by kernel_rfl) Tryd.func4
    (ChangeSpec.witness_shaped (enc := enc) (C := Tryd.checked) (os := os) (X := fun w _ => laidMetH Tryd.prog Rows.fnWriteUlongRow.laid w) false (World.laidAll Tryd.prog os Rows.fnWriteUlongRow.laid) #[.int .u64 0] 8 (World.laidAll_os _ _ _)
      (World.shaped_of_ZipB (by kernel_rfl) (by kernel_rfl)) (by kernel_rfl) (by kernel_rfl) (by kernel_rfl)
      (by rw [MakeChecks.laidMetH_plain _ _ _ (by kernel_rfl)]; exact laidMet_laidAll _ (by kernel_rfl) (by kernel_rfl))) ?_
  intro W base args ds gs before hval0 hW hcnd _ hL _
  have hval : ∀ (j : Nat) t v, Tryd.f4.params[j]? = some t → args[j]? = some v → Value.okWide Tryd.prog W .any base t v := hval0
  have hW' := hW
  obtain ⟨p, q, hA0, hV, rfl, hfz, hnd⟩ := hW
  have hA : DataW.TrodAll enc Tryd.prog W 0 (fun _ => true) true Tryd.f4.params.toList args.toList ds p := hA0
  rw [Tryd.params4] at hA hval
  obtain ⟨v0, vs0, d0, ds0, p0, q0, hargs, rfl, rfl, h0, r0⟩ := trodAll_cons hA
  obtain ⟨rfl, rfl, rfl⟩ := trodAll_nil r0
  obtain rfl : args = #[v0] := by cases args; simp_all
  obtain ⟨rfl, rfl⟩ := trodVars_none hV
  obtain ⟨a0, rfl, rfl, rfl, w0⟩ := open_int Tryd.underlying27 (hval 0 27 v0 rfl rfl) h0
  clear hA0 hval0
  simp only [List.append_nil] at hW'
  refine (walk a0 w0 W).mono fun e W' ⟨he, hg⟩ => ?_
  subst he
  exact ⟨_, rfl, _, _, _, [], _, [], hW', (trodAll_cons_mk (shut_bool Tryd.underlying4 _) trodAll_mk0), (trodAll_cons_mk (shut_int Tryd.underlying27 w0) trodAll_mk0), rfl, hg.frame _, fun h => by cases h⟩

theorem over : Rows.fnWriteUlongRow.holds Tryd.pinned (OpenSpec.ofChange Rows.fnWriteUlongSpec) :=
  OpenClaim.holds_of_wide 4 Tryd.f4 rfl rfl rfl rfl rfl rfl rfl ⟨rfl, rfl, rfl, rfl, rfl⟩ rfl rfl rfl rfl rfl (by kernel_rfl) Tryd.func4 (by kernel_rfl)
    (of_decide_eq_true (by kernel_rfl)) (by unfold Func.isWrapper; first | (rw [if_pos (by decide +kernel)]; kernel_rfl) | (rw [if_neg (by decide +kernel)]; exact ⟨rfl, rfl⟩))
    (fun os started H enc _ => lifted os started H enc)

/-- ████ THE STATEMENT ████ -/
theorem proved : Rows.FnWriteUlongCardSaid :=
  Claim7.holds_tied_plain_at .later [] [.data, .pinned] true (true, "67f368913e6e273a54da24f1eed9f7b1104d516ec49f8efeb51092c4df697302") false over (fun _ h => by cases h) (by kernel_rfl) (fun _ h => by cases h) fnWriteUlong_row_tie rfl ⟨rfl, rfl⟩ (by kernel_rfl) rfl
    (fun f fn hf hfn => by
      obtain rfl : f = 4 := Option.some.inj ((show Tryd.prog.funcNamed "given.example/pub-saddlebag/laws.FnWriteUlong" = some 4 by kernel_rfl).symm.trans hf) |>.symm
      obtain rfl : fn = Tryd.f4 := (Option.some.inj (Tryd.func4.symm.trans hfn)).symm
      refine ⟨by kernel_rfl, fun j t ht => ?_⟩
      have hall : (Tryd.f4.params.toList.all fun u => !Tryd.prog.wantsStandIn u) = true := by kernel_rfl
      have hm : t ∈ Tryd.f4.params.toList := by simpa using Array.mem_of_getElem? ht
      exact (show Tryd.prog.wantsStandIn t = false by simpa using List.all_eq_true.1 hall t hm))
    (by kernel_rfl)
#print axioms proved
end Go.Proofs.YtckjclkpgdhcoaaDoor.fnWriteUlong
