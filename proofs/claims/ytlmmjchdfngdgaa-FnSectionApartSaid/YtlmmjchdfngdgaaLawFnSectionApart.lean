/- The law FnSectionApart answers true, for every input that its row speaks of; its arguments read afterwards as before. -/
import Derived.Test.YtlmmjchdfngdgaaRows
import Derived.Test.YtlmmjchdfngdgaaArgFnSectionApart
import Derived.Test.YtlmmjchdfngdgaaPureFnSectionApart
import Derived.WalkKit
import Derived.ProofKit
import Derived.OpenShut
import Derived.ShutString
import Derived.ChangeOld
import Derived.Below
import Derived.SizedLaws
import Derived.Carry
namespace Go.Proofs.Ytlmmjchdfngdgaa.fnSectionApart
open Go.ChangeShapes Go.WideShapes Go.ChangeAt Go.RowKit
open Go.Proofs.Ytlmmjchdfngdgaa.Open Go.Proofs.Ytlmmjchdfngdgaa.Q Go.Proofs.YtlmmjchdfngdgaaW.PrintWords Go.Proofs.Ytlmmjchdfngdgaa.fnSectionApartArg
set_option linter.unusedVariables false
theorem own : ownKnob Try.prog.godebug = none := by kernel_rfl
theorem laidOut : laidOutB Try.prog = true := by kernel_rfl
set_option maxHeartbeats 1000000 in
set_option maxRecDepth 100000 in
theorem lifted (os : Os) (started : os.Started) (H : Type) (enc : TypeId × Value → H) :
    ReturnsInHanded {} Try.checked os 6 .any (Rows.fnSectionApartSpec.pre6 enc Try.prog Try.f6 Rows.fnSectionApartRow.domain false) (Rows.fnSectionApartSpec.post enc Try.prog Try.f6 false true false false) := by
  refine returnsInHanded_of_change_sized (C := Try.checked) own started (by kernel_rfl) Try.func6
    (ChangeSpec.witness6 (enc := enc) (C := Try.checked) false ⟨#[], #[.slice none 0 0], []⟩ 8 (by kernel_rfl) (by kernel_rfl) (by kernel_rfl) (by kernel_rfl)) ?_
  intro W base args ds gs before hval0 hW hcnd hsz0 _
  have hsz : (DataW.weightsEach Try.prog (Try.f6.params.toList ++ Rows.fnSectionApartSpec.plain.varTypes Try.prog) (ds ++ gs)).all (· ≤ reachBytes) = true := hsz0
  have hval : ∀ (j : Nat) t v, Try.f6.params[j]? = some t → args[j]? = some v → Value.okWide Try.prog W .any base t v := hval0
  have hW' := hW
  obtain ⟨p, q, hA0, hV, rfl, hfz, hnd⟩ := hW
  have hA : DataW.TrodAll enc Try.prog W 0 (fun _ => true) true Try.f6.params.toList args.toList ds p := hA0
  rw [Try.params6] at hA hval hsz
  obtain ⟨v0, vs0, d0, ds0, p0, q0, hargs, rfl, rfl, h0, r0⟩ := trodAll_cons hA
  obtain ⟨rfl, rfl, rfl⟩ := trodAll_nil r0
  obtain rfl : args = #[v0] := by cases args; simp_all
  obtain ⟨rfl, rfl⟩ := trodVars_none hV
  have lt0 : ∀ x ∈ p0, x.block < W.heap.size := by obtain ⟨m, hm⟩ := h0; exact DataW.trod_lt m _ _ _ hm
  obtain ⟨x0, K0, L0⟩ := opens40.arg hsz (j := 0) rfl rfl h0
  obtain ⟨a0, len0, cap0, rfl⟩ := okWide_slice Try.underlying40 (hval 0 40 v0 rfl rfl)
  obtain ⟨A0, c0, e0, hc0, hr0⟩ := K0
  obtain ⟨rfl, rfl, rfl⟩ : a0 = A0 ∧ len0 = x0.length ∧ cap0 = c0 := by simpa [Value.cells] using e0
  obtain ⟨k, hk⟩ := Pure.FnSectionApart x0 L0
  clear hA0 hval0 hsz0 hsz
  refine (laws_FnSectionApart.calls k _ _ x0 true W hr0 hc0 hk).mono fun e W' ⟨he, bel0⟩ => ?_
  have bel : Below W.heap.size W W' := bel0
  subst he
  exact ⟨_, rfl, _, _, _, [], _, [], hW', trodAll_mk1 (shut_bool Try.underlying4 _), (trodAll_cons_mk (Below.trod laidOut (by kernel_rfl) (of_decide_eq_true (by kernel_rfl)) h0 bel lt0) trodAll_mk0), rfl, bel.frame _, fun h => by cases h⟩
theorem over : Rows.fnSectionApartRow.holds Try.pinned (OpenSpec.ofChange Rows.fnSectionApartSpec) :=
  OpenClaim.holds_of_wide 6 Try.f6 rfl rfl rfl rfl rfl rfl rfl ⟨rfl, rfl, rfl, rfl, rfl⟩ rfl rfl rfl rfl rfl (by kernel_rfl) Try.func6 (by kernel_rfl)
    (of_decide_eq_true (by kernel_rfl)) (by unfold Func.isWrapper; first | (rw [if_pos (by decide +kernel)]; kernel_rfl) | (rw [if_neg (by decide +kernel)]; exact ⟨rfl, rfl⟩))
    (fun os started H enc _ => lifted os started H enc)
theorem proved : Rows.FnSectionApartSaid := over
end Go.Proofs.Ytlmmjchdfngdgaa.fnSectionApart
namespace Go.Proofs.Ytlmmjchdfngdgaa
/-- The row, under a short name, for the claim. -/
theorem fnSectionApart_holds : Rows.FnSectionApartSaid := fnSectionApart.proved
end Go.Proofs.Ytlmmjchdfngdgaa
