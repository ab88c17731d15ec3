/- The law FnParseConstraint answers true, and its arguments read afterwards as before, for every input that its row speaks of; the listed variables hold what the program's text lays. -/
import Derived.Test.YtlmmjchdfngdgaaDoorCards
import Derived.Test.YtlmmjchdfngdgaaDoorLaid
import Derived.Test.YtlmmjchdfngdgaaDoorBulk
import Derived.Test.YtlmmjchdfngdgaaDoorLp
import Derived.WalkKit
import Derived.ProofKit
import Derived.OpenShut
import Derived.ShutString
import Derived.ChangeOld
import Derived.SizedLaws
import Derived.Carry
import Derived.Deep.DeepHandedRow
import Derived.SevenTiedAt
import Derived.Stop.Joined
namespace Go.Proofs.YtlmmjchdfngdgaaDoor.fnParseConstraint
open Go.ChangeShapes Go.WideShapes Go.ChangeAt Go.RowKit
open Go.Proofs.YtlmmjchdfngdgaaDoor.Open Go.Proofs.YtlmmjchdfngdgaaDoor.Q Go.Proofs.YtlmmjchdfngdgaaDoorW.PrintWords Go.Proofs.YtlmmjchdfngdgaaDoor.Laid
set_option linter.unusedVariables false
theorem own : ownKnob Tryd.prog.godebug = none := by kernel_rfl
theorem laidOut : laidOutB Tryd.prog = true := by kernel_rfl
set_option maxHeartbeats 1000000 in
set_option maxRecDepth 100000 in
theorem contract (H : Type) (enc : TypeId × Value → H) (W : World) (base : Nat) (args : Array Value) (ds gs : List (DataW H)) (before : List MemPlace)
    (hval0 : ∀ (j : Nat) t v, Tryd.f5.params[j]? = some t → args[j]? = some v → Value.okWide Tryd.prog W .any base t v)
    (hW : DataW.Whole enc Tryd.prog Tryd.f5.params.toList Rows.fnParseConstraintSpec.vars false W args.toList ds gs before)
    (hsz0 : (DataW.weightsEach Tryd.prog (Tryd.f5.params.toList ++ Rows.fnParseConstraintSpec.plain.varTypes Tryd.prog) (ds ++ gs)).all (· ≤ reachBytes) = true)
    (hP : Tabs W) (hS : Lib.TabIs Tryd.prog W "strings.asciiSpace" .u8 Lib.asciiSpaceTab) :
    Calls Tryd.prog 5 args W fun e W' => ∃ v, e = .returned v ∧ Rows.fnParseConstraintSpec.post enc Tryd.prog Tryd.f5 false true false false W args v W' := by
  have hsz : (DataW.weightsEach Tryd.prog (Tryd.f5.params.toList ++ Rows.fnParseConstraintSpec.plain.varTypes Tryd.prog) (ds ++ gs)).all (· ≤ reachBytes) = true := hsz0
  have hval : ∀ (j : Nat) t v, Tryd.f5.params[j]? = some t → args[j]? = some v → Value.okWide Tryd.prog W .any base t v := hval0
  have hW' := hW
  obtain ⟨p, q, hA0, hV, rfl, hfz, hnd⟩ := hW
  have hA : DataW.TrodAll enc Tryd.prog W 0 (fun _ => true) true Tryd.f5.params.toList args.toList ds p := hA0
  rw [Tryd.params5] at hA hval hsz
  obtain ⟨v0, vs0, d0, ds0, p0, q0, hargs, rfl, rfl, h0, r0⟩ := trodAll_cons hA
  obtain ⟨rfl, rfl, rfl⟩ := trodAll_nil r0
  obtain rfl : args = #[v0] := by cases args; simp_all
  obtain ⟨rfl, rfl⟩ := trodVars_none hV
  have lt0 : ∀ x ∈ p0, x.block < W.heap.size := by obtain ⟨m, hm⟩ := h0; exact DataW.trod_lt m _ _ _ hm
  obtain ⟨x0, K0, L0, B0⟩ := opens9.arg hsz (j := 0) rfl rfl h0
  obtain ⟨y0, rfl⟩ := okWide_string Tryd.underlying9 (hval 0 9 v0 rfl rfl)
  obtain rfl : x0 = y0 := by have e := K0; change [_] = [_] at e; symm; simpa using e
  clear hA0 hval0 hsz0 hsz
  refine (fnParse_calls x0 W hP hS ).mono fun e W' ⟨he, bel⟩ => ?_
  subst he
  exact ⟨_, rfl, _, _, _, [], _, [], hW', trodAll_mk1 (shut_bool Tryd.underlying4 _), (trodAll_cons_mk (Below.trod laidOut (by kernel_rfl) (of_decide_eq_true (by kernel_rfl)) h0 bel lt0) trodAll_mk0), rfl, bel.frame _, fun h => by cases h⟩
theorem reads (os : Os) {H : Type} (enc : TypeId × Value → H) : DataW.whole enc Tryd.prog ((World.laidAll Tryd.prog os Rows.fnParseConstraintRow.laid).forCall (fun _ _ => 0) ⟨#[], #[.string ByteArray.empty], []⟩).memory Tryd.f5.params.toList Rows.fnParseConstraintSpec.vars false #[Value.string ByteArray.empty].toList 8 = some ([.lit (.string [])], [], []) := by kernel_rfl
set_option maxHeartbeats 1000000 in
set_option maxRecDepth 100000 in
theorem lifted (os : Os) (started : os.Started) (H : Type) (enc : TypeId × Value → H) (F : Stop.Interp) :
    ReturnsInHanded {} Tryd.checked os 5 .any ((OpenSpec.ofChange Rows.fnParseConstraintSpec).preRow enc Tryd.prog Tryd.f5 Rows.fnParseConstraintRow.domain false Rows.fnParseConstraintRow.laid) (((OpenSpec.ofChange Rows.fnParseConstraintSpec).at F).post enc Tryd.prog Tryd.f5 false true false false) := by
  refine returnsInHanded_of_row (C := Tryd.checked) (s := OpenSpec.ofChange Rows.fnParseConstraintSpec) own started (by kernel_rfl) Tryd.func5
    ⟨World.laidAll Tryd.prog os Rows.fnParseConstraintRow.laid, fun _ _ => 0, ⟨#[], #[.string ByteArray.empty], []⟩, World.laidAll_os _ _ _, World.shaped_of_ZipB (by kernel_rfl) (by kernel_rfl), rfl, (Input.okWide_of_okWideB (by kernel_rfl)).2,
      OpenSpec.preRow_of_cond 8 (reads os enc) (by kernel_rfl) (fun k hk => by cases hk) (by kernel_rfl) (met5 os _), by
        simp only [Assume.holds]
        exact ⟨by simp, by simp, fun _ => Modest.zero, by simp, by simp⟩⟩ ?_
  intro W base args ds gs before hval hW _ hcond hsz hL _ _
  exact contract H enc W base args ds gs before hval hW hsz (tabs5 hL).1 (tabs5 hL).2
theorem said : Rows.FnParseConstraintSaid :=
  OpenClaim.holds_of_cond 5 Tryd.f5 rfl rfl rfl rfl rfl rfl rfl ⟨rfl, rfl, rfl, rfl, rfl⟩ rfl rfl rfl rfl rfl (by kernel_rfl) Tryd.func5 (by kernel_rfl)
    (of_decide_eq_true (by kernel_rfl)) (by unfold Func.isWrapper; first | (rw [if_pos (by decide +kernel)]; kernel_rfl) | (rw [if_neg (by decide +kernel)]; exact ⟨rfl, rfl⟩))
    (fun os started H enc _ F => by rw [OpenClaim.pre_eq_preRow]; exact lifted os started H enc F)
theorem plain (f : FuncId) (fn : Func) (hf : Tryd.pinned.checked.prog.funcNamed "pub-berthage/laws.FnParseConstraint" = some f) (hfn : Tryd.pinned.checked.prog.funcs[f]? = some fn) :
    false = Tryd.pinned.checked.prog.looks [] ∧ ∀ (j : Nat) t, fn.params[j]? = some t → Tryd.pinned.checked.prog.wantsStandIn t = false := by
  obtain rfl : f = 5 := Option.some.inj ((show Tryd.prog.funcNamed "pub-berthage/laws.FnParseConstraint" = some 5 by kernel_rfl).symm.trans hf) |>.symm
  obtain rfl : fn = Tryd.f5 := (Option.some.inj (Tryd.func5.symm.trans hfn)).symm
  refine ⟨by kernel_rfl, fun j t ht => ?_⟩
  rw [Tryd.params5] at ht
  have hm : t ∈ [9] := by simpa using Array.mem_of_getElem? ht
  have hall : ([9].all fun u => !Tryd.prog.wantsStandIn u) = true := by kernel_rfl
  exact (show Tryd.prog.wantsStandIn t = false by simpa using List.all_eq_true.1 hall t hm)
end Go.Proofs.YtlmmjchdfngdgaaDoor.fnParseConstraint
namespace Go.Proofs.YtlmmjchdfngdgaaDoor
/-- The card. -/
theorem fnParseConstraint_holds : Rows.FnParseConstraintCardSaid :=
  Claim7.holds_tied_plain_at .later [] _ _ _ _ fnParseConstraint.said (fun _ h => by cases h) (by kernel_rfl) (fun _ h => by cases h) fnParseConstraint_row_tie rfl ⟨rfl, rfl⟩ (by kernel_rfl) rfl fnParseConstraint.plain (by kernel_rfl)
end Go.Proofs.YtlmmjchdfngdgaaDoor
