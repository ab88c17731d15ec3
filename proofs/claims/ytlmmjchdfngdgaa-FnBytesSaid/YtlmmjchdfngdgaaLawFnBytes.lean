/- The law FnBytes answers true, for every input that its row speaks of; its arguments read afterwards as before. -/
import Derived.Test.YtlmmjchdfngdgaaRows
import Derived.Test.YtlmmjchdfngdgaaArgFnBytes
import Derived.Test.YtlmmjchdfngdgaaPureFnBytes
import Derived.WalkKit
import Derived.ProofKit
import Derived.OpenShut
import Derived.ShutString
import Derived.ChangeOld
import Derived.Below
import Derived.SizedLaws
import Derived.Carry
namespace Go.Proofs.Ytlmmjchdfngdgaa.fnBytes
open Go.ChangeShapes Go.WideShapes Go.ChangeAt Go.RowKit
open Go.Proofs.Ytlmmjchdfngdgaa.Open Go.Proofs.Ytlmmjchdfngdgaa.Q Go.Proofs.YtlmmjchdfngdgaaW.PrintWords Go.Proofs.Ytlmmjchdfngdgaa.fnBytesArg
set_option linter.unusedVariables false
theorem own : ownKnob Try.prog.godebug = none := by kernel_rfl
theorem laidOut : laidOutB Try.prog = true := by kernel_rfl
set_option maxHeartbeats 1000000 in
set_option maxRecDepth 100000 in
theorem lifted (os : Os) (started : os.Started) (H : Type) (enc : TypeId × Value → H) :
    ReturnsInHanded {} Try.checked os 4 .any (Rows.fnBytesSpec.pre6 enc Try.prog Try.f4 Rows.fnBytesRow.domain false) (Rows.fnBytesSpec.post enc Try.prog Try.f4 false true false false) := by
  refine returnsInHanded_of_change_sized (C := Try.checked) own started (by kernel_rfl) Try.func4
    (ChangeSpec.witness6 (enc := enc) (C := Try.checked) false ⟨#[], #[.agg #[.int .i64 0, .int .u64 0, .string ByteArray.empty]], []⟩ 8 (by kernel_rfl) (by kernel_rfl) (by kernel_rfl) (by kernel_rfl)) ?_
  intro W base args ds gs before hval0 hW hcnd hsz0 _
  have hsz : (DataW.weightsEach Try.prog (Try.f4.params.toList ++ Rows.fnBytesSpec.plain.varTypes Try.prog) (ds ++ gs)).all (· ≤ reachBytes) = true := hsz0
  have hval : ∀ (j : Nat) t v, Try.f4.params[j]? = some t → args[j]? = some v → Value.okWide Try.prog W .any base t v := hval0
  have hW' := hW
  obtain ⟨p, q, hA0, hV, rfl, hfz, hnd⟩ := hW
  have hA : DataW.TrodAll enc Try.prog W 0 (fun _ => true) true Try.f4.params.toList args.toList ds p := hA0
  rw [Try.params4] at hA hval hsz
  obtain ⟨v0, vs0, d0, ds0, p0, q0, hargs, rfl, rfl, h0, r0⟩ := trodAll_cons hA
  obtain ⟨rfl, rfl, rfl⟩ := trodAll_nil r0
  obtain rfl : args = #[v0] := by cases args; simp_all
  obtain ⟨rfl, rfl⟩ := trodVars_none hV
  have lt0 : ∀ x ∈ p0, x.block < W.heap.size := by obtain ⟨m, hm⟩ := h0; exact DataW.trod_lt m _ _ _ hm
  obtain ⟨x0, K0, L0⟩ := opens31.arg hsz (j := 0) rfl rfl h0
  obtain ⟨cs0, rfl, _⟩ := okWide_struct Try.underlying31 (hval 0 31 v0 rfl rfl)
  have e0 := k31_open K0
  obtain rfl := Array.ext' (show cs0.toList = (Array.mk _).toList from e0)
  obtain ⟨k, hk⟩ := Pure.FnBytes x0 L0
  clear hA0 hval0 hsz0 hsz
  refine (laws_FnBytes.calls k x0.f0 x0.f1 x0.f2 true W  hk).mono fun e W' ⟨he, bel0⟩ => ?_
  have bel : Below W.heap.size W W' := bel0
  subst he
  exact ⟨_, rfl, _, _, _, [], _, [], hW', trodAll_mk1 (shut_bool Try.underlying4 _), (trodAll_cons_mk (Below.trod laidOut (by kernel_rfl) (of_decide_eq_true (by kernel_rfl)) h0 bel lt0) trodAll_mk0), rfl, bel.frame _, fun h => by cases h⟩
theorem over : Rows.fnBytesRow.holds Try.pinned (OpenSpec.ofChange Rows.fnBytesSpec) :=
  OpenClaim.holds_of_wide 4 Try.f4 rfl rfl rfl rfl rfl rfl rfl ⟨rfl, rfl, rfl, rfl, rfl⟩ rfl rfl rfl rfl rfl (by kernel_rfl) Try.func4 (by kernel_rfl)
    (of_decide_eq_true (by kernel_rfl)) (by unfold Func.isWrapper; first | (rw [if_pos (by decide +kernel)]; kernel_rfl) | (rw [if_neg (by decide +kernel)]; exact ⟨rfl, rfl⟩))
    (fun os started H enc _ => lifted os started H enc)
theorem proved : Rows.FnBytesSaid := over
end Go.Proofs.Ytlmmjchdfngdgaa.fnBytes
namespace Go.Proofs.Ytlmmjchdfngdgaa
/-- The row, under a short name, for the claim. -/
theorem fnBytes_holds : Rows.FnBytesSaid := fnBytes.proved
end Go.Proofs.Ytlmmjchdfngdgaa
