/- FnLocate: whatever its arguments, the law returns true (the value of a key in a map is the bytes that stand behind the key, the first one if there are more; of a key that is not there nothing). Conditions: none beside those of the given statement. -/
import Derived.Test.YtooifcdkpddlmaaDoorRows
import Derived.Test.YtooifcdkpddlmaaDoorLcF
import Derived.Test.YtooifcdkpddlmaaDoorCards
import Derived.Test.YtooifcdkpddlmaaDoorTie
import Derived.WalkKit
import Derived.LaidMore
import Derived.Lay
import Derived.SevenTiedAt
import Derived.Stop.Joined
import Derived.ProofKit
import Derived.OpenShut
import Derived.OpenVars
import Derived.ShutString
import Derived.ChangeOld
import Derived.Below
namespace Go.Proofs.YtooifcdkpddlmaaDoor.fnLocate
open Go.ChangeShapes Go.WideShapes Go.ChangeAt Go.RowKit
open Go.ChangeMaps (open_string shut_string)
set_option linter.unusedVariables false

theorem varsLen {H : Type} {enc : TypeId × Value → H} {P : Program} {w : World} {sp : Nat → Bool} : ∀ {ns : List String} {gs : List (DataW H)} {ps : List MemPlace}, DataW.TrodVars enc P w sp ns gs ps → gs.length = ns.length
  | [], [], _, _ => rfl
  | [], _ :: _, _, h => h.elim
  | _ :: _, [], _, h => h.elim
  | _ :: _, _ :: _, _, h => by
    obtain ⟨_, _, _, _, _, _, _, _, _, _, hs, _⟩ := h
    simp [varsLen hs]
theorem own : ownKnob Tryd.prog.godebug = none := by kernel_rfl
theorem laidOut : laidOutB Tryd.prog = true := by kernel_rfl

theorem walk (t : Pk) (v0 v1 v2 v3 v4 : Value) (key : ByteArray) (f : Int) (w : World) (hL : laidMetH Tryd.prog Rows.fnLocateRow.laid w) (ht : TrP w t [v0, v1, v2, v3, v4]) (wf : (Lit.int .u64 f).wf = true) :
    Calls Tryd.prog 4 #[.agg #[v0, v1, v2, v3, v4], .string key, .int .u64 f] w fun e w' => e = .returned (.bool true) ∧ Below w.heap.size w w' := by
  have hf := bounds_u64 wf
  exact (FnLocateLaw t v0 v1 v2 v3 v4 key f w ht hf.1 (by omega)).mono fun e w' ⟨he, hc⟩ => ⟨he, hc.below⟩

/-! ### THE ROW's STEP: WRITTEN OUT: LEAVE IT -/
set_option maxRecDepth 100000 in
theorem lifted (os : Os) (started : os.Started) (H : Type) (enc : TypeId × Value → H) :
    ReturnsInHanded {} Tryd.checked os 4 .any (fun w args => (Rows.fnLocateSpec.pre enc Tryd.prog Tryd.f4 Rows.fnLocateRow.domain false w args ∧ laidMetH Tryd.prog Rows.fnLocateRow.laid w) ∧ sizedMet enc Tryd.prog Tryd.f4 (OpenSpec.ofChange Rows.fnLocateSpec) false w args) (Rows.fnLocateSpec.post enc Tryd.prog Tryd.f4 false true false false) := by
  refine returnsInHanded_of_change_and (C := Tryd.checked) (X := fun w _ => laidMetH Tryd.prog Rows.fnLocateRow.laid w) (fun _ _ _ hh h => h.of_heap hh) own started (by kernel_rfl) Tryd.func4
    (ChangeSpec.witness_shaped (enc := enc) (C := Tryd.checked) (os := os) (X := fun w _ => laidMetH Tryd.prog Rows.fnLocateRow.laid w) false (World.laidAll Tryd.prog os Rows.fnLocateRow.laid) #[.agg #[.int .i64 0, .int .u64 0, .string ⟨#[]⟩, .int .i64 0, .slice none 0 0], .string ⟨#[]⟩, .int .u64 0] 8 (World.laidAll_os _ _ _)
      (World.shaped_of_ZipB (by kernel_rfl) (by kernel_rfl)) (by kernel_rfl) (by kernel_rfl) (by kernel_rfl)
      (by rw [MakeChecks.laidMetH_plain _ _ _ (by kernel_rfl)]; exact laidMet_laidAll _ (by kernel_rfl) (by kernel_rfl))) ?_
  intro W base args ds gs before hval0 hW hcnd _ hL _
  have hval : ∀ (j : Nat) t v, Tryd.f4.params[j]? = some t → args[j]? = some v → Value.okWide Tryd.prog W .any base t v := hval0
  have hW' := hW
  obtain ⟨p, q, hA0, hV, rfl, hfz, hnd⟩ := hW
  have hA : DataW.TrodAll enc Tryd.prog W 0 (fun _ => true) true Tryd.f4.params.toList args.toList ds p := hA0
  rw [Tryd.params4] at hA hval
  obtain ⟨v, vs0, d0, ds0, p0, q0, hargs, rfl, rfl, h0, r0⟩ := trodAll_cons hA
  obtain ⟨u1, vs1, d1, ds1, p1, q1, rfl, rfl, rfl, h1, r1⟩ := trodAll_cons r0
  obtain ⟨u2, vs2, d2, ds2, p2, q2, rfl, rfl, rfl, h2, r2⟩ := trodAll_cons r1
  obtain ⟨rfl, rfl, rfl⟩ := trodAll_nil r2
  obtain rfl : args = #[v, u1, u2] := by cases args; simp_all
  obtain ⟨g1, g2, g3, rfl⟩ : ∃ g1 g2 g3, gs = [g1, g2, g3] := by
    have hl := varsLen hV
    match gs, hl with
    | [g1, g2, g3], _ => exact ⟨g1, g2, g3, rfl⟩
  obtain ⟨key, rfl, rfl, rfl, wk⟩ := Go.ChangeMaps.open_string Tryd.underlying9 (hval 1 9 u1 rfl rfl) h1
  obtain ⟨f, rfl, rfl, rfl, wf⟩ := open_int Tryd.underlying23 (hval 2 23 u2 rfl rfl) h2
  obtain ⟨cs, rfl, _⟩ := okWide_struct Tryd.underlying35 (hval 0 35 v rfl rfl)
  have k0 := h0
  have lt0 : ∀ x ∈ p0, x.block < W.heap.size := by obtain ⟨m, hm⟩ := k0; exact DataW.trod_lt m _ _ _ hm
  obtain ⟨fuel, hf⟩ := h0
  obtain ⟨t, ht⟩ := open_pk fuel _ _ hf
  obtain ⟨kk, kn, ks, kx, km, kK⟩ := t
  obtain ⟨kA, kcap, hcs, _⟩ := id ht
  obtain rfl : cs = #[.int .i64 kk, .int .u64 kn, .string ks, .int .i64 kx, .slice kA km kcap] := by
    have hcs' : cs.toList = _ := hcs
    rw [← Array.toArray_toList (xs := cs), hcs']
  clear hA0 hval0
  refine (walk _ _ _ _ _ _ key f W hL ht wf).mono fun e W' ⟨he, bel⟩ => ?_
  subst he
  exact ⟨_, rfl, _, _, _, [], _, _, hW', trodAll_mk1 (shut_bool Tryd.underlying4 _), (trodAll_cons_mk (Below.trod laidOut (by kernel_rfl) (of_decide_eq_true (by kernel_rfl)) k0 bel lt0) (trodAll_cons_mk (Go.ChangeMaps.shut_string Tryd.underlying9 wk) (trodAll_cons_mk (shut_int Tryd.underlying23 wf) trodAll_mk0))), bel.trodVars laidOut (by kernel_rfl) hV, bel.frame _, fun h => by cases h⟩

theorem over : Rows.fnLocateRow.holds Tryd.pinned (OpenSpec.ofChange Rows.fnLocateSpec) :=
  OpenClaim.holds_of_wide 4 Tryd.f4 rfl rfl rfl rfl rfl rfl rfl ⟨rfl, rfl, rfl, rfl, rfl⟩ rfl rfl rfl rfl rfl (by kernel_rfl) Tryd.func4 (by kernel_rfl)
    (of_decide_eq_true (by kernel_rfl)) (by unfold Func.isWrapper; first | (rw [if_pos (by decide +kernel)]; kernel_rfl) | (rw [if_neg (by decide +kernel)]; exact ⟨rfl, rfl⟩))
    (fun os started H enc _ => lifted os started H enc)

/-- ████ THE STATEMENT ████ -/
theorem proved : Rows.FnLocateCardSaid :=
  Claim7.holds_tied_plain_at .later [] [.wider, .wider, .wider] true (true, "fa7c486a9ac8932924cf2c2a33863ae8b55cf383bac603fe3d0771aa2750a4e3") false over (fun _ h => by cases h) (by kernel_rfl) (fun _ h => by cases h) fnLocate_row_tie rfl ⟨rfl, rfl⟩ (by kernel_rfl) rfl
    (fun f fn hf hfn => by
      obtain rfl : f = 4 := Option.some.inj ((show Tryd.prog.funcNamed "given.example/pub-saddlebag/laws.FnLocate" = some 4 by kernel_rfl).symm.trans hf) |>.symm
      obtain rfl : fn = Tryd.f4 := (Option.some.inj (Tryd.func4.symm.trans hfn)).symm
      refine ⟨by kernel_rfl, fun j t ht => ?_⟩
      have hall : (Tryd.f4.params.toList.all fun u => !Tryd.prog.wantsStandIn u) = true := by kernel_rfl
      have hm : t ∈ Tryd.f4.params.toList := by simpa using Array.mem_of_getElem? ht
      exact (show Tryd.prog.wantsStandIn t = false by simpa using List.all_eq_true.1 hall t hm))
    (by kernel_rfl)
#print axioms proved
end Go.Proofs.YtooifcdkpddlmaaDoor.fnLocate
