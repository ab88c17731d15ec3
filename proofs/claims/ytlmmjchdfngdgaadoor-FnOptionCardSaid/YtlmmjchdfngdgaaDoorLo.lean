/- The walk of the law FnOption: it answers true. -/
import Derived.Test.YtlmmjchdfngdgaaDoorPf
namespace Go.Proofs.YtlmmjchdfngdgaaDoor.Q
open Go.RowKit Go.Maps Go.Proofs.YtlmmjchdfngdgaaDoorW.PrintWords Go.Proofs.YtlmmjchdfngdgaaDoorW.PrintLast Go.Proofs.YtlmmjchdfngdgaaDoorW.PrintMore Go.Proofs.YtlmmjchdfngdgaaDoor.Pure
theorem two_rows {w W : World} {A : Option Addr} {c : Nat} {o : List ByteArray} (hc : o.length ≤ c) (h : Kd.C Kd.string w A o.length o) (hb : Below w.heap.size w W) :
    Kd.C (Kd.slice 24 (Kd.slice 9 Kd.string)) ((W.alloc (Obj.cells #[Value.slice A o.length c] 24)).alloc (Obj.cells #[Value.slice (some ⟨W.heap.size, 0, none⟩) 1 1] 23)) (some ⟨W.heap.size + 1, 0, none⟩) 1 [[o]] := by
  have hb1 : Below w.heap.size w (W.alloc (Obj.cells #[Value.slice A o.length c] 24)) := below_alloc hb _
  have hb2 : Below w.heap.size w ((W.alloc (Obj.cells #[Value.slice A o.length c] 24)).alloc (Obj.cells #[Value.slice (some ⟨W.heap.size, 0, none⟩) 1 1] 23)) := below_alloc hb1 _
  have g1 : ((W.alloc (Obj.cells #[Value.slice A o.length c] 24)).alloc (Obj.cells #[Value.slice (some ⟨W.heap.size, 0, none⟩) 1 1] 23)).heap[W.heap.size]? = some (.cells [Value.slice A o.length c].toArray 24) := blk_alloc (blk_new W _) _
  have g2 : ((W.alloc (Obj.cells #[Value.slice A o.length c] 24)).alloc (Obj.cells #[Value.slice (some ⟨W.heap.size, 0, none⟩) 1 1] 23)).heap[W.heap.size + 1]? = some (.cells [Value.slice (some ⟨W.heap.size, 0, none⟩) 1 1].toArray 23) := by
    have := blk_new (W.alloc (Obj.cells #[Value.slice A o.length c] 24)) (Obj.cells #[Value.slice (some ⟨W.heap.size, 0, none⟩) 1 1] 23)
    rwa [show (W.alloc (Obj.cells #[Value.slice A o.length c] 24)).heap.size = W.heap.size + 1 by simp] at this
  have i1 : Kd.C (Kd.slice 9 Kd.string) ((W.alloc (Obj.cells #[Value.slice A o.length c] 24)).alloc (Obj.cells #[Value.slice (some ⟨W.heap.size, 0, none⟩) 1 1] 23)) (some ⟨W.heap.size, 0, none⟩) 1 [o] := C_one g1 ⟨A, c, rfl, hc, Kd.C_below h hb2⟩ rfl
  exact C_one g2 ⟨_, 1, rfl, Nat.le_refl 1, i1⟩ rfl
theorem fit_two {o : List ByteArray} (h : fit7 o = true) : fit20 [[o]] = true := by
  simp [fit20, fit19, h]
set_option maxHeartbeats 4000000 in
set_option maxRecDepth 100000 in
theorem fnOption_calls (A0 : Option Addr) (c0 : Nat) (o : List ByteArray) (A1 : Option Addr) (c1 : Nat) (tags : List ByteArray) (w : World) (hP : Tabs w) (hr0 : Kd.C Kd.string w A0 o.length o) (hc0 : o.length ≤ c0) (hr1 : Kd.C Kd.string w A1 tags.length tags) (hc1 : tags.length ≤ c1) :
    Calls Tryd.prog 4 #[.slice A0 o.length c0, .slice A1 tags.length c1] w fun e w' => e = .returned (.bool true) ∧ Below w.heap.size w w' := by
  have HP := Aside0.mk hP
  have HR0 := Aside0.mk hr0
  have HR1 := Aside0.mk hr1
  clear hP hr0 hr1
  obtain ⟨b0, hb0⟩ : ∃ b, b = fit7 o := ⟨_, rfl⟩
  obtain ⟨b1, hb1⟩ : ∃ b, b = fit7 tags := ⟨_, rfl⟩
  have H0 := Aside0.mk hb0
  have H1 := Aside0.mk hb1
  have F0 : Aside0 (∀ W, Below w.heap.size w W → Calls Tryd.prog 9 #[.slice A0 o.length c0] W fun e w' => e = .returned (.bool b0) ∧ Below w.heap.size w w') := ⟨fun W h => (fit7_calls A0 c0 W o (Kd.C_below HR0.out h) hc0).mono fun e w' ⟨h1, h2⟩ => ⟨by rw [h1, H0.out], below_step h h2⟩⟩
  have F1 : Aside0 (∀ W, Below w.heap.size w W → Calls Tryd.prog 9 #[.slice A1 tags.length c1] W fun e w' => e = .returned (.bool b1) ∧ Below w.heap.size w w') := ⟨fun W h => (fit7_calls A1 c1 W tags (Kd.C_below HR1.out h) hc1).mono fun e w' ⟨h1, h2⟩ => ⟨by rw [h1, H1.out], below_step h h2⟩⟩
  have HB := Aside0.mk (Below.refl w.heap.size w)
  clear hb0 hb1
  cases b0 with
  | false =>
    go_enter Tryd.func4, Tryd.ntmps4
    go_wp2_with (first
      | (go_at_call 9; (with_reducible refine (F0.out _ HB.out).mono ?_); rintro e w1 ⟨rfl, hb⟩)
      | go_in)
    go_ret
    exact ⟨rfl, hb⟩
  | true =>
    cases b1 with
    | false =>
      go_enter Tryd.func4, Tryd.ntmps4
      go_wp2_with (first
        | (go_at_call 9; (with_reducible refine (F0.out _ HB.out).mono ?_); rintro e w1 ⟨rfl, hb⟩; have HB1 := Aside0.mk hb; clear hb F0)
        | (go_at_call 9; (with_reducible refine (F1.out _ HB1.out).mono ?_); rintro e w2 ⟨rfl, hb⟩)
        | go_in)
      go_ret
      exact ⟨rfl, hb⟩
    | true =>
      obtain ⟨b2, hb2⟩ : ∃ b, b = termsB [[o]] tags := ⟨_, rfl⟩
      have H2 := Aside0.mk hb2
      clear hb2
      have F2 : Aside0 (∀ W, Below w.heap.size w W → Calls Tryd.prog 10 #[.slice (some ⟨W.heap.size + 1, 0, none⟩) 1 1, .slice A1 tags.length c1] ((W.alloc (Obj.cells #[Value.slice A0 o.length c0] 24)).alloc (Obj.cells #[Value.slice (some ⟨W.heap.size, 0, none⟩) 1 1] 23)) fun e w' => e = .returned (.bool b2) ∧ Below w.heap.size w w') := ⟨fun W h =>
        (terms_calls (some ⟨W.heap.size + 1, 0, none⟩) 1 A1 c1 _ [[o]] tags (fit_two H0.out.symm) (two_rows hc0 HR0.out h) (Nat.le_refl 1) (Kd.C_below HR1.out (below_alloc (below_alloc h _) _)) hc1).mono fun e w' ⟨h1, h2⟩ => ⟨by rw [h1, H2.out], below_step (below_alloc (below_alloc h _) _) h2⟩⟩
      cases b2 with
      | false =>
        go_enter Tryd.func4, Tryd.ntmps4
        go_wp2_with (first
          | (go_at_call 9; (with_reducible refine (F0.out _ HB.out).mono ?_); rintro e w1 ⟨rfl, hb⟩; have HB1 := Aside0.mk hb; clear hb F0)
          | (go_at_call 9; (with_reducible refine (F1.out _ HB1.out).mono ?_); rintro e w2 ⟨rfl, hb⟩; have HB2 := Aside0.mk hb; clear hb F1)
          | (go_at_call 10; (with_reducible refine (F2.out _ HB2.out).mono ?_); rintro e w3 ⟨rfl, hb⟩)
          | go_in)
        go_ret
        exact ⟨rfl, hb⟩
      | true =>
        have ha : asciiO o = true := by
          have h := H2.out
          simp only [termsB, asciiCs, asciiC, List.all_cons, List.all_nil, Bool.and_true] at h
          have h2 := Eq.symm h
          rw [Bool.and_eq_true] at h2
          exact h2.2
        have hle : o.length ≤ 2000 := by
          have h := Eq.symm H2.out
          rw [termsB, Bool.and_eq_true, decide_eq_true_eq] at h
          have h3 := h.1
          have l0 := fit7_len H0.out.symm
          have l1 := fit7_len H1.out.symm
          have e : wrap64 ((tags.length : Int) + (([[o]] : List (List (List ByteArray))).length : Int)) = ((tags.length + 1 : Nat) : Int) := by
            rw [show (([[o]] : List (List (List ByteArray))).length) = 1 from rfl]; unfold wrap64; omega
          rw [e, wll_eq [[o]] _ (by simp [nC]; omega)] at h3
          simp [nC] at h3
          omega
        have hok := okO_of H0.out.symm ha
        have htg := okTags_of H1.out.symm
        have ltg := fit7_len H1.out.symm
        have hw : wO o ≤ 140737488355328 := Nat.le_trans (wO_le H0.out.symm) (by omega)
        obtain ⟨v, hv⟩ : ∃ v, v = validO o := ⟨_, rfl⟩
        obtain ⟨u, hu⟩ : ∃ u, u = evalO o tags := ⟨_, rfl⟩
        obtain ⟨x, hx⟩ : ∃ x, x = textO o := ⟨_, rfl⟩
        have F16 : Aside0 (∀ W, Below w.heap.size w W → Calls Tryd.prog 16 #[.slice A0 o.length c0] W fun e w' => e = .returned (.bool v) ∧ Below w.heap.size w w') := ⟨fun W h => (iOptValid_calls A0 c0 W (HP.out.below h) o hok (by omega) (Kd.C_below HR0.out h) hc0).mono fun e w' ⟨h1, h2⟩ => ⟨by rw [h1, hv], below_step h h2⟩⟩
        have F17 : Aside0 (∀ W, Below w.heap.size w W → Calls Tryd.prog 17 #[.slice A0 o.length c0] W fun e w' => e = .returned (.bool v) ∧ Below w.heap.size w w') := ⟨fun W h => (sOptValid_calls A0 c0 W o (by omega) hok (Kd.C_below HR0.out h) hc0).mono fun e w' ⟨h1, h2⟩ => ⟨by rw [h1, hv], below_step h h2⟩⟩
        have F13 : Aside0 (∀ W, Below w.heap.size w W → Calls Tryd.prog 13 #[.slice A0 o.length c0, .slice A1 tags.length c1] W fun e w' => e = .returned (.bool u) ∧ Below w.heap.size w w') := ⟨fun W h => (iOptEval_calls A0 c0 A1 c1 W (HP.out.below h) o tags hok htg (by omega) (by omega) (Kd.C_below HR0.out h) hc0 (Kd.C_below HR1.out h) hc1).mono fun e w' ⟨h1, h2⟩ => ⟨by rw [h1, hu], below_step h h2⟩⟩
        have F18 : Aside0 (∀ W, Below w.heap.size w W → Calls Tryd.prog 18 #[.slice A0 o.length c0, .slice A1 tags.length c1] W fun e w' => e = .returned (.bool u) ∧ Below w.heap.size w w') := ⟨fun W h => (sOptEval_calls A0 c0 A1 c1 W o tags (by omega) (by omega) hok (Kd.C_below HR0.out h) hc0 (Kd.C_below HR1.out h) hc1).mono fun e w' ⟨h1, h2⟩ => ⟨by rw [h1, hu], below_step h h2⟩⟩
        have F19 : Aside0 (∀ W, Below w.heap.size w W → Calls Tryd.prog 19 #[.slice A0 o.length c0] W fun e w' => e = .returned (.string x) ∧ Below w.heap.size w w') := ⟨fun W h => (iOptText_calls A0 c0 W o (shortO_of hw) (by omega) (Kd.C_below HR0.out h) hc0).mono fun e w' ⟨h1, h2⟩ => ⟨by rw [h1, hx], below_step h h2⟩⟩
        have F20 : Aside0 (∀ W, Below w.heap.size w W → Calls Tryd.prog 20 #[.slice A0 o.length c0] W fun e w' => e = .returned (.string x) ∧ Below w.heap.size w w') := ⟨fun W h => (sOptText_calls A0 c0 W o (by omega) (by omega) (Kd.C_below HR0.out h) hc0).mono fun e w' ⟨h1, h2⟩ => ⟨by rw [h1, hx], below_step h h2⟩⟩
        clear hv hu hx ha hle hok htg ltg hw
        have ev : (v == v) = true := beq_self_eq_true v
        have eu : (u == u) = true := beq_self_eq_true u
        have ex : (x.toList == x.toList) = true := beq_self_eq_true _
        go_enter Tryd.func4, Tryd.ntmps4
        go_wp2_with (first
          | (go_at_call 9; (with_reducible refine (F0.out _ HB.out).mono ?_); rintro e w1 ⟨rfl, hb⟩; have HB1 := Aside0.mk hb; clear hb F0)
          | (go_at_call 9; (with_reducible refine (F1.out _ HB1.out).mono ?_); rintro e w2 ⟨rfl, hb⟩; have HB2 := Aside0.mk hb; clear hb F1)
          | (go_at_call 10; (with_reducible refine (F2.out _ HB2.out).mono ?_); rintro e w3 ⟨rfl, hb⟩; have HB3 := Aside0.mk hb; clear hb F2)
          | (go_at_call 16; (with_reducible refine (F16.out _ HB3.out).mono ?_); rintro e w4 ⟨rfl, hb⟩; have HB4 := Aside0.mk hb; clear hb F16)
          | (go_at_call 17; (with_reducible refine (F17.out _ HB4.out).mono ?_); rintro e w5 ⟨rfl, hb⟩; have HB5 := Aside0.mk hb; clear hb F17)
          | (go_at_call 13; (with_reducible refine (F13.out _ HB5.out).mono ?_); rintro e w6 ⟨rfl, hb⟩; have HB6 := Aside0.mk hb; clear hb F13)
          | (go_at_call 18; (with_reducible refine (F18.out _ HB6.out).mono ?_); rintro e w7 ⟨rfl, hb⟩; have HB7 := Aside0.mk hb; clear hb F18)
          | (go_at_call 19; (with_reducible refine (F19.out _ HB7.out).mono ?_); rintro e w8 ⟨rfl, hb⟩; have HB8 := Aside0.mk hb; clear hb F19)
          | (go_at_call 20; (with_reducible refine (F20.out _ HB8.out).mono ?_); rintro e w9 ⟨rfl, hb⟩; have HB9 := Aside0.mk hb; clear hb F20)
          | go_in)
        go_ret
        exact ⟨by first | rfl | simp, HB9.out⟩
end Go.Proofs.YtlmmjchdfngdgaaDoor.Q
