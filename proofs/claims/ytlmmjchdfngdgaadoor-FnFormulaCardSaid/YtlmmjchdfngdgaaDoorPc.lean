/- The plain law of FnConstraints: it answers true, where no more than 2 to the 62 terms come in. -/
import Derived.Test.YtlmmjchdfngdgaaDoorPx
namespace Go.Proofs.YtlmmjchdfngdgaaDoor.Pure
open Go.RowKit Go.Proofs.YtlmmjchdfngdgaaDoor.Q Go.Proofs.YtlmmjchdfngdgaaDoorW.PrintWords Go.Proofs.YtlmmjchdfngdgaaDoorW.PrintLast
theorem Ev.ex {α : Type} {f : Nat → Option α} {r : α} (h : Ev f r) : ∃ k, f k = some r := let ⟨k, hk⟩ := h; ⟨k, hk k (Nat.le_refl k)⟩
theorem shorts_of {cs : List (List (List ByteArray))} (hc : fit20 cs = true) (hn : nCs cs ≤ 2000) : shortCs cs = true := by
  have h1 : wCs cs ≤ 2147483648 * 2000 := Nat.le_trans (wCs_le hc) (Nat.mul_le_mul_left _ hn)
  have hsum : (cs.map nC).sum ≤ 2000 := by unfold nCs at hn; omega
  refine List.all_eq_true.2 fun c hcm => ?_
  have h2 : nC c ≤ (cs.map nC).sum := mem_sum nC cs hcm
  have h3 : wC c ≤ wCs cs := mem_sum wC cs hcm
  have h4 : c.length ≤ nC c := by unfold nC; omega
  rw [Bool.and_eq_true, decide_eq_true_eq]
  refine ⟨List.all_eq_true.2 fun o ho => ?_, by omega⟩
  have h5 : 1 + wO o ≤ (c.map fun o => 1 + wO o).sum := mem_sum (fun o => 1 + wO o) c ho
  have h6 := fit7_len (fit19_mem (fit20_mem hc hcm) ho)
  unfold wC at h3
  rw [Bool.and_eq_true, decide_eq_true_eq]
  exact ⟨shortO_of (by omega), by omega⟩
theorem constraints_true (cs : List (List (List ByteArray))) (tags : List ByteArray) (hn : tags.length + nCs cs < 9223372036854775807) : Ev (fun k => laws_FnConstraints.f k cs tags) true := by
  have stop : Ev (fun k => laws_FnConstraints.j0 k cs tags true) true := Ev.step (g := fun _ => some true) (fun k => by simp only [laws_FnConstraints.j0, if_true]) (Ev.const _)
  unfold laws_FnConstraints.f
  refine Ev.bind (g := fun k t => if t = true then (laws_zzFits7.f k tags).bind fun u => laws_FnConstraints.j0 k cs tags (!u) else laws_FnConstraints.j0 k cs tags true) (fit20_ev cs) ?_
  cases hc : fit20 cs with
  | false => simpa using stop
  | true =>
    simp only [if_true]
    refine Ev.bind (g := fun k u => laws_FnConstraints.j0 k cs tags (!u)) (fit7_ev tags) ?_
    cases ht : fit7 tags with
    | false => simpa using stop
    | true =>
      simp only [Bool.not_true]
      refine Ev.step (g := fun k => (laws_terms.f k cs tags).bind fun t139 => (if t139 = true then ((impl_ConstraintsValid.f cs).bind fun t140 => ((spec_ConstraintsValid.f k cs).bind fun t141 => (if (t140 == t141) = true then ((impl_ConstraintsEvaluate.f cs tags).bind fun t142 => ((spec_ConstraintsEvaluate.f k cs tags).bind fun t143 => (if (t142 == t143) = true then ((impl_ConstraintsText.f cs).bind fun t144 => ((spec_ConstraintsText.f k cs).bind fun t145 => (some (t144.toList == t145.toList)))) else (some false)))) else (some false)))) else (some true))) (fun k => by simp only [laws_FnConstraints.j0, Bool.false_eq_true, if_false]) ?_
      refine Ev.bind (terms_ev cs tags hc) ?_
      have hT := fit7_len ht
      have hC := fit20_len hc
      have e : wrap64 ((tags.length : Int) + (cs.length : Int)) = ((tags.length + cs.length : Nat) : Int) := by unfold wrap64; omega
      rw [e, wll_eq cs _ (by unfold nCs at hn; omega)]
      by_cases hle : (((tags.length + cs.length) + (cs.map nC).sum : Nat) : Int) ≤ 2000
      · rw [decide_eq_true hle, Bool.true_and]
        cases ha : asciiCs cs with
        | false => simpa using Ev.const true
        | true =>
          simp only [if_true]
          have hok := okCs_of hc ha
          have hokt := okTags_of ht
          have hN : nCs cs ≤ 2000 := by unfold nCs; omega
          have e1 : impl_ConstraintsValid.f cs = some (validCs cs) := by unfold impl_ConstraintsValid.f; rw [if_pos ⟨hok, by omega⟩]
          have e2 : impl_ConstraintsEvaluate.f cs tags = some (evalCs cs tags) := by unfold impl_ConstraintsEvaluate.f; rw [if_pos ⟨hok, hokt, by omega, by omega⟩]
          have e3 : impl_ConstraintsText.f cs = some (textCs cs) := by
            unfold impl_ConstraintsText.f
            rw [if_pos ⟨by unfold nCs at hN; omega, shorts_of hc hN, Nat.le_trans (cntC_le cs) (by omega)⟩]
          rw [e1, e2, e3]
          simp only [Option.bind_some]
          refine Ev.bind (consValid_ev cs (by omega) hok) ?_
          simp only [beq_self_eq_true, if_true]
          refine Ev.bind (consEval_ev tags (by omega) cs (by omega) hok) ?_
          simp only [beq_self_eq_true, if_true]
          refine Ev.bind (g := fun _ t => some ((textCs cs).toList == t.toList)) (consText_ev cs (by omega) (fun c hcm => ?_) ?_) ?_
          · have := fit19_len (fit20_mem hc hcm)
            exact ⟨by omega, fun o ho => by have := fit7_len (fit19_mem (fit20_mem hc hcm) ho); omega⟩
          · have := Nat.le_trans (wCs_le hc) (Nat.mul_le_mul_left _ hN); omega
          · simpa using Ev.const true
      · rw [decide_eq_false hle, Bool.false_and]
        simpa using Ev.const true
end Go.Proofs.YtlmmjchdfngdgaaDoor.Pure
