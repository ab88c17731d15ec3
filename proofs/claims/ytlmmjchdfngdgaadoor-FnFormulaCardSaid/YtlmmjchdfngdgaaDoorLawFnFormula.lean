/- The law FnFormula answers true, and its arguments read afterwards as before, for every input that its row speaks of; the listed variables hold what the program's text lays. -/
import Derived.Test.YtlmmjchdfngdgaaDoorCards
import Derived.Test.YtlmmjchdfngdgaaDoorLaid
import Derived.Test.YtlmmjchdfngdgaaDoorBulk
import Derived.Test.YtlmmjchdfngdgaaDoorLf
import Derived.WalkKit
import Derived.ProofKit
import Derived.OpenShut
import Derived.ShutString
import Derived.ChangeOld
import Derived.SizedLaws
import Derived.Carry
import Derived.Deep.DeepHandedRow
import Derived.SevenTiedAt
import Derived.Stop.Joined
namespace Go.Proofs.YtlmmjchdfngdgaaDoor.fnFormula
open Go.ChangeShapes Go.WideShapes Go.ChangeAt Go.RowKit
open Go.Proofs.YtlmmjchdfngdgaaDoor.Open Go.Proofs.YtlmmjchdfngdgaaDoor.Q Go.Proofs.YtlmmjchdfngdgaaDoorW.PrintWords Go.Proofs.YtlmmjchdfngdgaaDoor.Laid
set_option linter.unusedVariables false
theorem own : ownKnob Tryd.prog.godebug = none := by kernel_rfl
theorem laidOut : laidOutB Tryd.prog = true := by kernel_rfl
set_option maxHeartbeats 1000000 in
set_option maxRecDepth 100000 in
theorem contract (H : Type) (enc : TypeId × Value → H) (W : World) (base : Nat) (args : Array Value) (ds gs : List (DataW H)) (before : List MemPlace)
    (hval0 : ∀ (j : Nat) t v, Tryd.f3.params[j]? = some t → args[j]? = some v → Value.okWide Tryd.prog W .any base t v)
    (hW : DataW.Whole enc Tryd.prog Tryd.f3.params.toList Rows.fnFormulaSpec.vars false W args.toList ds gs before)
    (hsz0 : (DataW.weightsEach Tryd.prog (Tryd.f3.params.toList ++ Rows.fnFormulaSpec.plain.varTypes Tryd.prog) (ds ++ gs)).all (· ≤ reachBytes) = true)
    (hP : Tabs W) :
    Calls Tryd.prog 3 args W fun e W' => ∃ v, e = .returned v ∧ Rows.fnFormulaSpec.post enc Tryd.prog Tryd.f3 false true false false W args v W' := by
  have hsz : (DataW.weightsEach Tryd.prog (Tryd.f3.params.toList ++ Rows.fnFormulaSpec.plain.varTypes Tryd.prog) (ds ++ gs)).all (· ≤ reachBytes) = true := hsz0
  have hval : ∀ (j : Nat) t v, Tryd.f3.params[j]? = some t → args[j]? = some v → Value.okWide Tryd.prog W .any base t v := hval0
  have hW' := hW
  obtain ⟨p, q, hA0, hV, rfl, hfz, hnd⟩ := hW
  have hA : DataW.TrodAll enc Tryd.prog W 0 (fun _ => true) true Tryd.f3.params.toList args.toList ds p := hA0
  rw [Tryd.params3] at hA hval hsz
  obtain ⟨v0, vs0, d0, ds0, p0, q0, hargs, rfl, rfl, h0, r0⟩ := trodAll_cons hA
  obtain ⟨v1, vs1, d1, ds1, p1, q1, rfl, rfl, rfl, h1, r1⟩ := trodAll_cons r0
  obtain ⟨v2, vs2, d2, ds2, p2, q2, rfl, rfl, rfl, h2, r2⟩ := trodAll_cons r1
  obtain ⟨v3, vs3, d3, ds3, p3, q3, rfl, rfl, rfl, h3, r3⟩ := trodAll_cons r2
  obtain ⟨v4, vs4, d4, ds4, p4, q4, rfl, rfl, rfl, h4, r4⟩ := trodAll_cons r3
  obtain ⟨rfl, rfl, rfl⟩ := trodAll_nil r4
  obtain rfl : args = #[v0, v1, v2, v3, v4] := by cases args; simp_all
  obtain ⟨rfl, rfl⟩ := trodVars_none hV
  have lt0 : ∀ x ∈ p0, x.block < W.heap.size := by obtain ⟨m, hm⟩ := h0; exact DataW.trod_lt m _ _ _ hm
  obtain ⟨x0, K0, L0, B0⟩ := opens22.arg hsz (j := 0) rfl rfl h0
  obtain ⟨a0, len0, cap0, rfl⟩ := okWide_slice Tryd.underlying22 (hval 0 22 v0 rfl rfl)
  obtain ⟨A0, c0, e0, hc0, hr0⟩ := K0
  obtain ⟨rfl, rfl, rfl⟩ : a0 = A0 ∧ len0 = x0.length ∧ cap0 = c0 := by simpa [Value.cells] using e0
  have lt1 : ∀ x ∈ p1, x.block < W.heap.size := by obtain ⟨m, hm⟩ := h1; exact DataW.trod_lt m _ _ _ hm
  obtain ⟨x1, K1, L1, B1⟩ := opens23.arg hsz (j := 1) rfl rfl h1
  obtain ⟨a1, len1, cap1, rfl⟩ := okWide_slice Tryd.underlying23 (hval 1 23 v1 rfl rfl)
  obtain ⟨A1, c1, e1, hc1, hr1⟩ := K1
  obtain ⟨rfl, rfl, rfl⟩ : a1 = A1 ∧ len1 = x1.length ∧ cap1 = c1 := by simpa [Value.cells] using e1
  have lt2 : ∀ x ∈ p2, x.block < W.heap.size := by obtain ⟨m, hm⟩ := h2; exact DataW.trod_lt m _ _ _ hm
  obtain ⟨x2, K2, L2, B2⟩ := opens24.arg hsz (j := 2) rfl rfl h2
  obtain ⟨a2, len2, cap2, rfl⟩ := okWide_slice Tryd.underlying24 (hval 2 24 v2 rfl rfl)
  obtain ⟨A2, c2, e2, hc2, hr2⟩ := K2
  obtain ⟨rfl, rfl, rfl⟩ : a2 = A2 ∧ len2 = x2.length ∧ cap2 = c2 := by simpa [Value.cells] using e2
  have lt3 : ∀ x ∈ p3, x.block < W.heap.size := by obtain ⟨m, hm⟩ := h3; exact DataW.trod_lt m _ _ _ hm
  obtain ⟨x3, K3, L3, B3⟩ := opens9.arg hsz (j := 3) rfl rfl h3
  obtain ⟨y3, rfl⟩ := okWide_string Tryd.underlying9 (hval 3 9 v3 rfl rfl)
  obtain rfl : x3 = y3 := by have e := K3; change [_] = [_] at e; symm; simpa using e
  have lt4 : ∀ x ∈ p4, x.block < W.heap.size := by obtain ⟨m, hm⟩ := h4; exact DataW.trod_lt m _ _ _ hm
  obtain ⟨x4, K4, L4, B4⟩ := opens24.arg hsz (j := 4) rfl rfl h4
  obtain ⟨a4, len4, cap4, rfl⟩ := okWide_slice Tryd.underlying24 (hval 4 24 v4 rfl rfl)
  obtain ⟨A4, c4, e4, hc4, hr4⟩ := K4
  obtain ⟨rfl, rfl, rfl⟩ : a4 = A4 ∧ len4 = x4.length ∧ cap4 = c4 := by simpa [Value.cells] using e4
  clear hA0 hval0 hsz0 hsz
  refine (fnFormula_calls _ _ x0 _ _ x1 _ _ x2 x3 _ _ x4 W hP hr0 hc0 hr1 hc1 hr2 hc2 hr4 hc4).mono fun e W' ⟨he, bel⟩ => ?_
  subst he
  exact ⟨_, rfl, _, _, _, [], _, [], hW', trodAll_mk1 (shut_bool Tryd.underlying4 _), (trodAll_cons_mk (Below.trod laidOut (by kernel_rfl) (of_decide_eq_true (by kernel_rfl)) h0 bel lt0) (trodAll_cons_mk (Below.trod laidOut (by kernel_rfl) (of_decide_eq_true (by kernel_rfl)) h1 bel lt1) (trodAll_cons_mk (Below.trod laidOut (by kernel_rfl) (of_decide_eq_true (by kernel_rfl)) h2 bel lt2) (trodAll_cons_mk (Below.trod laidOut (by kernel_rfl) (of_decide_eq_true (by kernel_rfl)) h3 bel lt3) (trodAll_cons_mk (Below.trod laidOut (by kernel_rfl) (of_decide_eq_true (by kernel_rfl)) h4 bel lt4) trodAll_mk0))))), rfl, bel.frame _, fun h => by cases h⟩
theorem reads (os : Os) {H : Type} (enc : TypeId × Value → H) : DataW.whole enc Tryd.prog ((World.laidAll Tryd.prog os Rows.fnConstraintsRow.laid).forCall (fun _ _ => 0) ⟨#[], #[.slice none 0 0, .slice none 0 0, .slice none 0 0, .string ByteArray.empty, .slice none 0 0], []⟩).memory Tryd.f3.params.toList Rows.fnFormulaSpec.vars false #[Value.slice none 0 0, .slice none 0 0, .slice none 0 0, .string ByteArray.empty, .slice none 0 0].toList 8 = some ([.nil, .nil, .nil, .lit (.string []), .nil], [], []) := by kernel_rfl
set_option maxHeartbeats 1000000 in
set_option maxRecDepth 100000 in
theorem lifted (os : Os) (started : os.Started) (H : Type) (enc : TypeId × Value → H) (F : Stop.Interp) :
    ReturnsInHanded {} Tryd.checked os 3 .any ((OpenSpec.ofChange Rows.fnFormulaSpec).preRow enc Tryd.prog Tryd.f3 Rows.fnFormulaRow.domain false Rows.fnFormulaRow.laid) (((OpenSpec.ofChange Rows.fnFormulaSpec).at F).post enc Tryd.prog Tryd.f3 false true false false) := by
  refine returnsInHanded_of_row (C := Tryd.checked) (s := OpenSpec.ofChange Rows.fnFormulaSpec) own started (by kernel_rfl) Tryd.func3
    ⟨World.laidAll Tryd.prog os Rows.fnConstraintsRow.laid, fun _ _ => 0, ⟨#[], #[.slice none 0 0, .slice none 0 0, .slice none 0 0, .string ByteArray.empty, .slice none 0 0], []⟩, World.laidAll_os _ _ _, World.shaped_of_ZipB (by kernel_rfl) (by kernel_rfl), rfl, (Input.okWide_of_okWideB (by kernel_rfl)).2,
      OpenSpec.preRow_of_cond 8 (reads os enc) (by kernel_rfl) (fun k hk => by cases hk) (by kernel_rfl) (met3 os _), by
        simp only [Assume.holds]
        exact ⟨by simp, by simp, fun _ => Modest.zero, by simp, by simp⟩⟩ ?_
  intro W base args ds gs before hval hW _ hcond hsz hL _ _
  exact contract H enc W base args ds gs before hval hW hsz (tabs3 hL)
theorem said : Rows.FnFormulaSaid :=
  OpenClaim.holds_of_cond 3 Tryd.f3 rfl rfl rfl rfl rfl rfl rfl ⟨rfl, rfl, rfl, rfl, rfl⟩ rfl rfl rfl rfl rfl (by kernel_rfl) Tryd.func3 (by kernel_rfl)
    (of_decide_eq_true (by kernel_rfl)) (by unfold Func.isWrapper; first | (rw [if_pos (by decide +kernel)]; kernel_rfl) | (rw [if_neg (by decide +kernel)]; exact ⟨rfl, rfl⟩))
    (fun os started H enc _ F => by rw [OpenClaim.pre_eq_preRow]; exact lifted os started H enc F)
theorem plain (f : FuncId) (fn : Func) (hf : Tryd.pinned.checked.prog.funcNamed "pub-berthage/laws.FnFormula" = some f) (hfn : Tryd.pinned.checked.prog.funcs[f]? = some fn) :
    false = Tryd.pinned.checked.prog.looks [] ∧ ∀ (j : Nat) t, fn.params[j]? = some t → Tryd.pinned.checked.prog.wantsStandIn t = false := by
  obtain rfl : f = 3 := Option.some.inj ((show Tryd.prog.funcNamed "pub-berthage/laws.FnFormula" = some 3 by kernel_rfl).symm.trans hf) |>.symm
  obtain rfl : fn = Tryd.f3 := (Option.some.inj (Tryd.func3.symm.trans hfn)).symm
  refine ⟨by kernel_rfl, fun j t ht => ?_⟩
  rw [Tryd.params3] at ht
  have hm : t ∈ [22, 23, 24, 9, 24] := by simpa using Array.mem_of_getElem? ht
  have hall : ([22, 23, 24, 9, 24].all fun u => !Tryd.prog.wantsStandIn u) = true := by kernel_rfl
  exact (show Tryd.prog.wantsStandIn t = false by simpa using List.all_eq_true.1 hall t hm)
end Go.Proofs.YtlmmjchdfngdgaaDoor.fnFormula
namespace Go.Proofs.YtlmmjchdfngdgaaDoor
/-- The card. -/
theorem fnFormula_holds : Rows.FnFormulaCardSaid :=
  Claim7.holds_tied_plain_at .later [] _ _ _ _ fnFormula.said (fun _ h => by cases h) (by kernel_rfl) (fun _ h => by cases h) fnFormula_row_tie rfl ⟨rfl, rfl⟩ (by kernel_rfl) rfl fnFormula.plain (by kernel_rfl)
end Go.Proofs.YtlmmjchdfngdgaaDoor
