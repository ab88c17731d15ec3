/- The law FnOfKind answers true, for every input that its row speaks of; its arguments read afterwards as before. -/
import Derived.Test.YtlmmjchdfngdgaaRows
import Derived.Test.YtlmmjchdfngdgaaArgFnOfKind
import Derived.Test.YtlmmjchdfngdgaaPureFnOfKind
import Derived.WalkKit
import Derived.ProofKit
import Derived.OpenShut
import Derived.ShutString
import Derived.ChangeOld
import Derived.Below
import Derived.SizedLaws
import Derived.Carry
namespace Go.Proofs.Ytlmmjchdfngdgaa.fnOfKind
open Go.ChangeShapes Go.WideShapes Go.ChangeAt Go.RowKit
open Go.Proofs.Ytlmmjchdfngdgaa.Open Go.Proofs.Ytlmmjchdfngdgaa.Q Go.Proofs.YtlmmjchdfngdgaaW.PrintWords Go.Proofs.Ytlmmjchdfngdgaa.fnOfKindArg
set_option linter.unusedVariables false
theorem own : ownKnob Try.prog.godebug = none := by kernel_rfl
theorem laidOut : laidOutB Try.prog = true := by kernel_rfl
set_option maxHeartbeats 1000000 in
set_option maxRecDepth 100000 in
theorem lifted (os : Os) (started : os.Started) (H : Type) (enc : TypeId × Value → H) :
    ReturnsInHanded {} Try.checked os 8 .any (Rows.fnOfKindSpec.pre6 enc Try.prog Try.f8 Rows.fnOfKindRow.domain false) (Rows.fnOfKindSpec.post enc Try.prog Try.f8 false true false false) := by
  refine returnsInHanded_of_change_sized (C := Try.checked) own started (by kernel_rfl) Try.func8
    (ChangeSpec.witness6 (enc := enc) (C := Try.checked) false ⟨#[], #[.slice none 0 0, .int .u8 0], []⟩ 8 (by kernel_rfl) (by kernel_rfl) (by kernel_rfl) (by kernel_rfl)) ?_
  intro W base args ds gs before hval0 hW hcnd hsz0 _
  have hsz : (DataW.weightsEach Try.prog (Try.f8.params.toList ++ Rows.fnOfKindSpec.plain.varTypes Try.prog) (ds ++ gs)).all (· ≤ reachBytes) = true := hsz0
  have hval : ∀ (j : Nat) t v, Try.f8.params[j]? = some t → args[j]? = some v → Value.okWide Try.prog W .any base t v := hval0
  have hW' := hW
  obtain ⟨p, q, hA0, hV, rfl, hfz, hnd⟩ := hW
  have hA : DataW.TrodAll enc Try.prog W 0 (fun _ => true) true Try.f8.params.toList args.toList ds p := hA0
  rw [Try.params8] at hA hval hsz
  obtain ⟨v0, vs0, d0, ds0, p0, q0, hargs, rfl, rfl, h0, r0⟩ := trodAll_cons hA
  obtain ⟨v1, vs1, d1, ds1, p1, q1, rfl, rfl, rfl, h1, r1⟩ := trodAll_cons r0
  obtain ⟨rfl, rfl, rfl⟩ := trodAll_nil r1
  obtain rfl : args = #[v0, v1] := by cases args; simp_all
  obtain ⟨rfl, rfl⟩ := trodVars_none hV
  have lt0 : ∀ x ∈ p0, x.block < W.heap.size := by obtain ⟨m, hm⟩ := h0; exact DataW.trod_lt m _ _ _ hm
  obtain ⟨x0, K0, L0⟩ := opens55.arg hsz (j := 0) rfl rfl h0
  obtain ⟨a0, len0, cap0, rfl⟩ := okWide_slice Try.underlying55 (hval 0 55 v0 rfl rfl)
  obtain ⟨A0, c0, e0, hc0, hr0⟩ := K0
  obtain ⟨rfl, rfl, rfl⟩ : a0 = A0 ∧ len0 = x0.length ∧ cap0 = c0 := by simpa [Value.cells] using e0
  have lt1 : ∀ x ∈ p1, x.block < W.heap.size := by obtain ⟨m, hm⟩ := h1; exact DataW.trod_lt m _ _ _ hm
  obtain ⟨x1, K1, L1⟩ := opens5.arg hsz (j := 1) rfl rfl h1
  obtain ⟨y1, rfl⟩ := okWide_int Try.underlying5 (hval 1 5 v1 rfl rfl)
  obtain rfl : x1 = y1 := by have e := K1; change [_] = [_] at e; symm; simpa using e
  obtain ⟨k, hk⟩ := Pure.FnOfKind x0 x1 L0 L1
  clear hA0 hval0 hsz0 hsz
  refine (laws_FnOfKind.calls k _ _ x0 x1 true W hr0 hc0 hk).mono fun e W' ⟨he, bel0⟩ => ?_
  have bel : Below W.heap.size W W' := bel0
  subst he
  exact ⟨_, rfl, _, _, _, [], _, [], hW', trodAll_mk1 (shut_bool Try.underlying4 _), (trodAll_cons_mk (Below.trod laidOut (by kernel_rfl) (of_decide_eq_true (by kernel_rfl)) h0 bel lt0) (trodAll_cons_mk (Below.trod laidOut (by kernel_rfl) (of_decide_eq_true (by kernel_rfl)) h1 bel lt1) trodAll_mk0)), rfl, bel.frame _, fun h => by cases h⟩
theorem over : Rows.fnOfKindRow.holds Try.pinned (OpenSpec.ofChange Rows.fnOfKindSpec) :=
  OpenClaim.holds_of_wide 8 Try.f8 rfl rfl rfl rfl rfl rfl rfl ⟨rfl, rfl, rfl, rfl, rfl⟩ rfl rfl rfl rfl rfl (by kernel_rfl) Try.func8 (by kernel_rfl)
    (of_decide_eq_true (by kernel_rfl)) (by unfold Func.isWrapper; first | (rw [if_pos (by decide +kernel)]; kernel_rfl) | (rw [if_neg (by decide +kernel)]; exact ⟨rfl, rfl⟩))
    (fun os started H enc _ => lifted os started H enc)
theorem proved : Rows.FnOfKindSaid := over
end Go.Proofs.Ytlmmjchdfngdgaa.fnOfKind
namespace Go.Proofs.Ytlmmjchdfngdgaa
/-- The row, under a short name, for the claim. -/
theorem fnOfKind_holds : Rows.FnOfKindSaid := fnOfKind.proved
end Go.Proofs.Ytlmmjchdfngdgaa
