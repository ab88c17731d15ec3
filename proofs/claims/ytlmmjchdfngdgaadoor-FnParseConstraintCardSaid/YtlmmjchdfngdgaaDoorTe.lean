/- Contracts of constraints under tags: ConstraintEvaluate, ConstraintsEvaluate. -/
import Derived.Test.YtlmmjchdfngdgaaDoorTd
namespace Go.Proofs.YtlmmjchdfngdgaaDoor.Q
open Go.RowKit Go.Maps Go.Proofs.YtlmmjchdfngdgaaDoorW.PrintWords Go.Proofs.YtlmmjchdfngdgaaDoorW.PrintLast Go.Proofs.YtlmmjchdfngdgaaDoorW.PrintMore
set_option linter.unusedVariables false
set_option linter.unusedSimpArgs false

def evalC (o : List (List ByteArray)) (tags : List ByteArray) : Bool := o.any fun t => evalO t tags
def okC (o : List (List ByteArray)) : Bool := o.all fun t => okO t && decide (t.length < 4294967296)
theorem okC_at {o : List (List ByteArray)} (h : okC o = true) (p : List ByteArray) (hp : p ∈ o) : okO p = true ∧ p.length < 4294967296 := by
  have := List.all_eq_true.1 h p hp
  simp only [Bool.and_eq_true, decide_eq_true_eq] at this
  exact this
theorem evalC_step (o : List (List ByteArray)) (tags : List ByteArray) (i : Nat) (p : List ByteArray) (hp : o[i]? = some p) : evalC (o.take (i + 1)) tags = (evalC (o.take i) tags || evalO p tags) := by
  obtain ⟨h1, h2⟩ := List.getElem?_eq_some_iff.1 hp
  unfold evalC
  rw [List.take_succ_eq_append_getElem h1, List.any_append, h2]
  simp
set_option maxHeartbeats 4000000 in
set_option maxRecDepth 100000 in
theorem conEval_calls (A : Option Addr) (c : Nat) (o : List (List ByteArray)) (b m : Nat) (tags : List ByteArray) (w : World) (hr : Kd.C (Kd.slice 41 Kd.string) w A o.length o) (hM : w.ownsMap Tryd.prog 9 (plainElem Tryd.prog 4) b m (tagsD tags)) (ht : Tabs w) (hok : okC o = true) (hlen : o.length < 4294967296) :
    Calls Tryd.prog 37 #[.slice A o.length c, .map (some b)] w fun e w' => e = .returned (.bool (evalC o tags)) ∧ Below w.heap.size w w' := by
  have HR := Aside0.mk hr
  have HT := Aside0.mk ht
  have HM := Aside0.mk hM
  clear hr ht hM
  go_enter Tryd.func37, Tryd.ntmps37
  go_wp2
  go_loopg [5, 10] o.length (fun kq v5 v10 wr => ∃ (i : Nat) (r : Bool), v5 = .bool r ∧ v10 = .int .i64 (i : Int) ∧ Aside0 (i + kq = o.length) ∧ Aside0 (r = evalC (o.take i) tags) ∧ Aside0 (Below w.heap.size w wr))
  case atStart => exact ⟨0, false, rfl, rfl, ⟨by simp⟩, ⟨by simp [evalC]⟩, ⟨Below.refl _ _⟩⟩
  case round =>
    obtain ⟨i, r, rfl, rfl, HK, HV, HB⟩ := hrel
    cases gk with
    | zero =>
      have e' : (i < o.length) = False := eq_false (by have := HK.out; omega)
      go_wp2
      go_ret
      have e2 : i = o.length := by have := HK.out; omega
      exact ⟨by rw [HV.out, e2, List.take_length]; rfl, HB.out⟩
    | succ k =>
      have hi : i < o.length := by have := HK.out; omega
      obtain ⟨p, hp⟩ : ∃ p, o[i]? = some p := ⟨_, List.getElem?_eq_getElem hi⟩
      have HST := Aside0.mk (evalC_step o tags i p hp)
      have hpo := okC_at hok p (List.mem_of_getElem? hp)
      obtain ⟨ad, Ap, cp, hA, h0, hcp, hCp⟩ := at_row HR.out i hi p hp
      cases hA
      replace h0 := (HB.out.cell (World.block_lt_of_cell? w _ h0)).trans h0
      have HCp := Aside0.mk (Kd.C_below hCp HB.out)
      clear hCp hcp
      have HMr : Aside0 (wr.ownsMap Tryd.prog 9 (plainElem Tryd.prog 4) b m (tagsD tags)) := ⟨HM.out.kept ⟨HB.out.os, HB.out.tape, HB.out.output, HB.out.size, fun k hk _ => HB.out.block k hk⟩ (row := none) (by simp)⟩
      have HTr := Aside0.mk (HT.out.below HB.out)
      have e' : (i < o.length) = True := eq_true hi
      clear hi
      cases r with
      | true =>
        go_wp2
        go_roundg k
        case measure => have := HK.out; omega
        case rel => exact ⟨i + 1, true, rfl, by have := HK.out; simp [wrap64]; omega, ⟨by have := HK.out; omega⟩, ⟨by rw [HST.out, ← HV.out]; rfl⟩, HB⟩
      | false =>
        go_wp2_with (first
          | (go_at_call 35; (with_reducible refine (optEval_calls Ap cp p b m tags _ HCp.out HMr.out HTr.out hpo.1 hpo.2).mono ?_); rintro e w3 ⟨rfl, hb3⟩; have HB3 := Aside0.mk hb3; clear hb3)
          | go_in)
        go_roundg k
        case measure => have := HK.out; omega
        case rel => exact ⟨i + 1, evalO p tags, rfl, by have := HK.out; simp [wrap64]; omega, ⟨by have := HK.out; omega⟩, ⟨by rw [HST.out, ← HV.out]; rfl⟩, ⟨below_step HB.out HB3.out⟩⟩
def impl_ConstraintEvaluate.f (l0 : List (List ByteArray)) (l1 : List ByteArray) : Option Bool := if okC l0 = true ∧ okTags l1 = true ∧ l0.length < 4294967296 ∧ l1.length < 4294967296 then some (evalC l0 l1) else none
set_option maxHeartbeats 4000000 in
theorem impl_ConstraintEvaluate.calls (A0 : Option Addr) (c0 : Nat) (l0 : List (List ByteArray)) (A1 : Option Addr) (c1 : Nat) (l1 : List ByteArray) (r : Bool) (w : World) (hP : Tabs w) (hr0 : Kd.C (Kd.slice 9 Kd.string) w A0 l0.length l0) (hc0 : l0.length ≤ c0) (hr1 : Kd.C Kd.string w A1 l1.length l1) (hc1 : l1.length ≤ c1) (h : impl_ConstraintEvaluate.f l0 l1 = some r) :
    Calls Tryd.prog 14 #[.slice A0 l0.length c0, .slice A1 l1.length c1] w fun e w' => e = .returned (.bool r) ∧ Below w.heap.size w w' := by
  unfold impl_ConstraintEvaluate.f at h
  split at h
  case isFalse => cases h
  rename_i hg
  obtain rfl := Option.some.inj h
  obtain ⟨h1, h2, h3, h4⟩ := hg
  have hs := okTags_at h2
  have HP := Aside0.mk hP
  have HR0 := Aside0.mk hr0
  have HR1 := Aside0.mk hr1
  clear hP hr0 hr1 h
  go_enter Tryd.func14, Tryd.ntmps14
  go_wp2_with (first
    | (go_at_call 36; (with_reducible refine (constraint_calls A0 c0 l0 _ HR0.out h3 (fun x hx => (okC_at h1 x hx).2)).mono ?_); rintro e w1 ⟨v, rfl, hO, hb1⟩; obtain ⟨Ao, co, rfl⟩ := Kd.R_slice hO; have HO := Aside0.mk (Kd.R_reads' hO).2.2; have HB1 := Aside0.mk hb1; clear hO hb1)
    | (go_at_call 33; (with_reducible refine (setTags_calls A1 c1 l1 _ (Kd.C_below HR1.out HB1.out) hs h4).mono ?_); rintro e w2 ⟨b, rfl, hb, hM, hb2⟩; have HM := Aside0.mk hM; have HB2 := Aside0.mk hb2; clear hM hb2)
    | (go_at_call 37; (with_reducible refine (conEval_calls Ao co l0 b _ l1 _ (Kd.C_below HO.out HB2.out) HM.out (HP.out.below (below_step HB1.out HB2.out)) h1 h3).mono ?_); rintro e w3 ⟨rfl, hb3⟩)
    | go_in)
  go_ret
  exact ⟨rfl, below_step (below_step HB1.out HB2.out) hb3⟩

def evalCs (o : List (List (List ByteArray))) (tags : List ByteArray) : Bool := o.all fun t => evalC t tags
def okCs (o : List (List (List ByteArray))) : Bool := o.all fun t => okC t && decide (t.length < 4294967296)
theorem okCs_at {o : List (List (List ByteArray))} (h : okCs o = true) (p : List (List ByteArray)) (hp : p ∈ o) : okC p = true ∧ p.length < 4294967296 := by
  have := List.all_eq_true.1 h p hp
  simp only [Bool.and_eq_true, decide_eq_true_eq] at this
  exact this
theorem evalCs_step (o : List (List (List ByteArray))) (tags : List ByteArray) (i : Nat) (p : List (List ByteArray)) (hp : o[i]? = some p) : evalCs (o.take (i + 1)) tags = (evalCs (o.take i) tags && evalC p tags) := by
  obtain ⟨h1, h2⟩ := List.getElem?_eq_some_iff.1 hp
  unfold evalCs
  rw [List.take_succ_eq_append_getElem h1, List.all_append, h2]
  simp
set_option maxHeartbeats 4000000 in
set_option maxRecDepth 100000 in
theorem consEval_calls (A : Option Addr) (c : Nat) (o : List (List (List ByteArray))) (b m : Nat) (tags : List ByteArray) (w : World) (hr : Kd.C (Kd.slice 46 (Kd.slice 41 Kd.string)) w A o.length o) (hM : w.ownsMap Tryd.prog 9 (plainElem Tryd.prog 4) b m (tagsD tags)) (ht : Tabs w) (hok : okCs o = true) (hlen : o.length < 4294967296) :
    Calls Tryd.prog 39 #[.slice A o.length c, .map (some b)] w fun e w' => e = .returned (.bool (evalCs o tags)) ∧ Below w.heap.size w w' := by
  have HR := Aside0.mk hr
  have HT := Aside0.mk ht
  have HM := Aside0.mk hM
  clear hr ht hM
  go_enter Tryd.func39, Tryd.ntmps39
  go_wp2
  go_loopg [5, 10] o.length (fun kq v5 v10 wr => ∃ (i : Nat) (r : Bool), v5 = .bool r ∧ v10 = .int .i64 (i : Int) ∧ Aside0 (i + kq = o.length) ∧ Aside0 (r = evalCs (o.take i) tags) ∧ Aside0 (Below w.heap.size w wr))
  case atStart => exact ⟨0, true, rfl, rfl, ⟨by simp⟩, ⟨by simp [evalCs]⟩, ⟨Below.refl _ _⟩⟩
  case round =>
    obtain ⟨i, r, rfl, rfl, HK, HV, HB⟩ := hrel
    cases gk with
    | zero =>
      have e' : (i < o.length) = False := eq_false (by have := HK.out; omega)
      go_wp2
      go_ret
      have e2 : i = o.length := by have := HK.out; omega
      exact ⟨by rw [HV.out, e2, List.take_length]; rfl, HB.out⟩
    | succ k =>
      have hi : i < o.length := by have := HK.out; omega
      obtain ⟨p, hp⟩ : ∃ p, o[i]? = some p := ⟨_, List.getElem?_eq_getElem hi⟩
      have HST := Aside0.mk (evalCs_step o tags i p hp)
      have hpo := okCs_at hok p (List.mem_of_getElem? hp)
      obtain ⟨ad, Ap, cp, hA, h0, hcp, hCp⟩ := at_row HR.out i hi p hp
      cases hA
      replace h0 := (HB.out.cell (World.block_lt_of_cell? w _ h0)).trans h0
      have HCp := Aside0.mk (Kd.C_below hCp HB.out)
      clear hCp hcp
      have HMr : Aside0 (wr.ownsMap Tryd.prog 9 (plainElem Tryd.prog 4) b m (tagsD tags)) := ⟨HM.out.kept ⟨HB.out.os, HB.out.tape, HB.out.output, HB.out.size, fun k hk _ => HB.out.block k hk⟩ (row := none) (by simp)⟩
      have HTr := Aside0.mk (HT.out.below HB.out)
      have e' : (i < o.length) = True := eq_true hi
      clear hi
      cases r with
      | false =>
        go_wp2
        go_roundg k
        case measure => have := HK.out; omega
        case rel => exact ⟨i + 1, false, rfl, by have := HK.out; simp [wrap64]; omega, ⟨by have := HK.out; omega⟩, ⟨by rw [HST.out, ← HV.out]; rfl⟩, HB⟩
      | true =>
        go_wp2_with (first
          | (go_at_call 37; (with_reducible refine (conEval_calls Ap cp p b m tags _ HCp.out HMr.out HTr.out hpo.1 hpo.2).mono ?_); rintro e w3 ⟨rfl, hb3⟩; have HB3 := Aside0.mk hb3; clear hb3)
          | go_in)
        go_roundg k
        case measure => have := HK.out; omega
        case rel => exact ⟨i + 1, evalC p tags, rfl, by have := HK.out; simp [wrap64]; omega, ⟨by have := HK.out; omega⟩, ⟨by rw [HST.out, ← HV.out]; rfl⟩, ⟨below_step HB.out HB3.out⟩⟩
def impl_ConstraintsEvaluate.f (l0 : List (List (List ByteArray))) (l1 : List ByteArray) : Option Bool := if okCs l0 = true ∧ okTags l1 = true ∧ l0.length < 4294967296 ∧ l1.length < 4294967296 then some (evalCs l0 l1) else none
set_option maxHeartbeats 4000000 in
theorem impl_ConstraintsEvaluate.calls (A0 : Option Addr) (c0 : Nat) (l0 : List (List (List ByteArray))) (A1 : Option Addr) (c1 : Nat) (l1 : List ByteArray) (r : Bool) (w : World) (hP : Tabs w) (hr0 : Kd.C (Kd.slice 24 (Kd.slice 9 Kd.string)) w A0 l0.length l0) (hc0 : l0.length ≤ c0) (hr1 : Kd.C Kd.string w A1 l1.length l1) (hc1 : l1.length ≤ c1) (h : impl_ConstraintsEvaluate.f l0 l1 = some r) :
    Calls Tryd.prog 15 #[.slice A0 l0.length c0, .slice A1 l1.length c1] w fun e w' => e = .returned (.bool r) ∧ Below w.heap.size w w' := by
  unfold impl_ConstraintsEvaluate.f at h
  split at h
  case isFalse => cases h
  rename_i hg
  obtain rfl := Option.some.inj h
  obtain ⟨h1, h2, h3, h4⟩ := hg
  have hs := okTags_at h2
  have HP := Aside0.mk hP
  have HR0 := Aside0.mk hr0
  have HR1 := Aside0.mk hr1
  clear hP hr0 hr1 h
  go_enter Tryd.func15, Tryd.ntmps15
  go_wp2_with (first
    | (go_at_call 38; (with_reducible refine (constraints_calls A0 c0 l0 _ HR0.out h3 (fun x hx => ⟨(okCs_at h1 x hx).2, fun y hy => (okC_at (okCs_at h1 x hx).1 y hy).2⟩)).mono ?_); rintro e w1 ⟨v, rfl, hO, hb1⟩; obtain ⟨Ao, co, rfl⟩ := Kd.R_slice hO; have HO := Aside0.mk (Kd.R_reads' hO).2.2; have HB1 := Aside0.mk hb1; clear hO hb1)
    | (go_at_call 33; (with_reducible refine (setTags_calls A1 c1 l1 _ (Kd.C_below HR1.out HB1.out) hs h4).mono ?_); rintro e w2 ⟨b, rfl, hb, hM, hb2⟩; have HM := Aside0.mk hM; have HB2 := Aside0.mk hb2; clear hM hb2)
    | (go_at_call 39; (with_reducible refine (consEval_calls Ao co l0 b _ l1 _ (Kd.C_below HO.out HB2.out) HM.out (HP.out.below (below_step HB1.out HB2.out)) h1 h3).mono ?_); rintro e w3 ⟨rfl, hb3⟩)
    | go_in)
  go_ret
  exact ⟨rfl, below_step (below_step HB1.out HB2.out) hb3⟩
end Go.Proofs.YtlmmjchdfngdgaaDoor.Q
