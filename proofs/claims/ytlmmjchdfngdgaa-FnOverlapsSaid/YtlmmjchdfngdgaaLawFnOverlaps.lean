/- The law FnOverlaps answers true, for every input that its row speaks of; its arguments read afterwards as before. -/
import Derived.Test.YtlmmjchdfngdgaaRows
import Derived.Test.YtlmmjchdfngdgaaArgFnOverlaps
import Derived.Test.YtlmmjchdfngdgaaPureFnOverlaps
import Derived.WalkKit
import Derived.ProofKit
import Derived.OpenShut
import Derived.ShutString
import Derived.ChangeOld
import Derived.Below
import Derived.SizedLaws
import Derived.Carry
namespace Go.Proofs.Ytlmmjchdfngdgaa.fnOverlaps
open Go.ChangeShapes Go.WideShapes Go.ChangeAt Go.RowKit
open Go.Proofs.Ytlmmjchdfngdgaa.Open Go.Proofs.Ytlmmjchdfngdgaa.Q Go.Proofs.YtlmmjchdfngdgaaW.PrintWords Go.Proofs.Ytlmmjchdfngdgaa.fnOverlapsArg
set_option linter.unusedVariables false
theorem own : ownKnob Try.prog.godebug = none := by kernel_rfl
theorem laidOut : laidOutB Try.prog = true := by kernel_rfl
set_option maxHeartbeats 1000000 in
set_option maxRecDepth 100000 in
theorem lifted (os : Os) (started : os.Started) (H : Type) (enc : TypeId × Value → H) :
    ReturnsInHanded {} Try.checked os 5 .any (Rows.fnOverlapsSpec.pre6 enc Try.prog Try.f5 Rows.fnOverlapsRow.domain false) (Rows.fnOverlapsSpec.post enc Try.prog Try.f5 false true false false) := by
  refine returnsInHanded_of_change_sized (C := Try.checked) own started (by kernel_rfl) Try.func5
    (ChangeSpec.witness6 (enc := enc) (C := Try.checked) false ⟨#[], #[.agg #[.int .i64 0, .int .i64 0, .int .u64 0, .string ByteArray.empty], .agg #[.int .i64 0, .int .i64 0, .int .u64 0, .string ByteArray.empty]], []⟩ 8 (by kernel_rfl) (by kernel_rfl) (by kernel_rfl) (by kernel_rfl)) ?_
  intro W base args ds gs before hval0 hW hcnd hsz0 _
  have hsz : (DataW.weightsEach Try.prog (Try.f5.params.toList ++ Rows.fnOverlapsSpec.plain.varTypes Try.prog) (ds ++ gs)).all (· ≤ reachBytes) = true := hsz0
  have hval : ∀ (j : Nat) t v, Try.f5.params[j]? = some t → args[j]? = some v → Value.okWide Try.prog W .any base t v := hval0
  have hW' := hW
  obtain ⟨p, q, hA0, hV, rfl, hfz, hnd⟩ := hW
  have hA : DataW.TrodAll enc Try.prog W 0 (fun _ => true) true Try.f5.params.toList args.toList ds p := hA0
  rw [Try.params5] at hA hval hsz
  obtain ⟨v0, vs0, d0, ds0, p0, q0, hargs, rfl, rfl, h0, r0⟩ := trodAll_cons hA
  obtain ⟨v1, vs1, d1, ds1, p1, q1, rfl, rfl, rfl, h1, r1⟩ := trodAll_cons r0
  obtain ⟨rfl, rfl, rfl⟩ := trodAll_nil r1
  obtain rfl : args = #[v0, v1] := by cases args; simp_all
  obtain ⟨rfl, rfl⟩ := trodVars_none hV
  have lt0 : ∀ x ∈ p0, x.block < W.heap.size := by obtain ⟨m, hm⟩ := h0; exact DataW.trod_lt m _ _ _ hm
  obtain ⟨x0, K0, L0⟩ := opens35.arg hsz (j := 0) rfl rfl h0
  obtain ⟨cs0, rfl, _⟩ := okWide_struct Try.underlying35 (hval 0 35 v0 rfl rfl)
  have e0 := k35_open K0
  obtain rfl := Array.ext' (show cs0.toList = (Array.mk _).toList from e0)
  have lt1 : ∀ x ∈ p1, x.block < W.heap.size := by obtain ⟨m, hm⟩ := h1; exact DataW.trod_lt m _ _ _ hm
  obtain ⟨x1, K1, L1⟩ := opens35.arg hsz (j := 1) rfl rfl h1
  obtain ⟨cs1, rfl, _⟩ := okWide_struct Try.underlying35 (hval 1 35 v1 rfl rfl)
  have e1 := k35_open K1
  obtain rfl := Array.ext' (show cs1.toList = (Array.mk _).toList from e1)
  obtain ⟨k, hk⟩ := Pure.FnOverlaps x0 x1 L0 L1
  clear hA0 hval0 hsz0 hsz
  refine (laws_FnOverlaps.calls k x0.f0 x0.f1.f0 x0.f1.f1 x0.f1.f2 x1.f0 x1.f1.f0 x1.f1.f1 x1.f1.f2 true W  hk).mono fun e W' ⟨he, bel0⟩ => ?_
  have bel : Below W.heap.size W W' := bel0
  subst he
  exact ⟨_, rfl, _, _, _, [], _, [], hW', trodAll_mk1 (shut_bool Try.underlying4 _), (trodAll_cons_mk (Below.trod laidOut (by kernel_rfl) (of_decide_eq_true (by kernel_rfl)) h0 bel lt0) (trodAll_cons_mk (Below.trod laidOut (by kernel_rfl) (of_decide_eq_true (by kernel_rfl)) h1 bel lt1) trodAll_mk0)), rfl, bel.frame _, fun h => by cases h⟩
theorem over : Rows.fnOverlapsRow.holds Try.pinned (OpenSpec.ofChange Rows.fnOverlapsSpec) :=
  OpenClaim.holds_of_wide 5 Try.f5 rfl rfl rfl rfl rfl rfl rfl ⟨rfl, rfl, rfl, rfl, rfl⟩ rfl rfl rfl rfl rfl (by kernel_rfl) Try.func5 (by kernel_rfl)
    (of_decide_eq_true (by kernel_rfl)) (by unfold Func.isWrapper; first | (rw [if_pos (by decide +kernel)]; kernel_rfl) | (rw [if_neg (by decide +kernel)]; exact ⟨rfl, rfl⟩))
    (fun os started H enc _ => lifted os started H enc)
theorem proved : Rows.FnOverlapsSaid := over
end Go.Proofs.Ytlmmjchdfngdgaa.fnOverlaps
namespace Go.Proofs.Ytlmmjchdfngdgaa
/-- The row, under a short name, for the claim. -/
theorem fnOverlaps_holds : Rows.FnOverlapsSaid := fnOverlaps.proved
end Go.Proofs.Ytlmmjchdfngdgaa
