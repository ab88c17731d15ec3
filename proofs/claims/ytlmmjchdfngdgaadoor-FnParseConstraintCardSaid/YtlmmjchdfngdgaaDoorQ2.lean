-- Written by wip/drive.py (this claim's own program, over the kit's print).
import Derived.Test.YtlmmjchdfngdgaaDoorQ0
import Derived.Test.YtlmmjchdfngdgaaDoorQ1
namespace Go.Proofs.YtlmmjchdfngdgaaDoor.Q
open Go.RowKit Go.Proofs.YtlmmjchdfngdgaaDoorW.PrintWords Go.Proofs.YtlmmjchdfngdgaaDoorW.PrintLast Go.Proofs.YtlmmjchdfngdgaaDoorW.PrintMore
attribute [local go_sem] max2_int min2_int max_two min_two max_three min_three max_four min_four   -- for this text's walks alone
set_option linter.unusedVariables false
set_option linter.unusedSimpArgs false

/-! ### laws_terms: function 10 -/
mutual
def laws_terms.l0 : Nat → List (List (List ByteArray)) → Int → List (List (List ByteArray)) → Int → Int → Option (Bool)
  | 0, _, _, _, _, _ => none
  | k + 1, x0, x5, x15, x16, x17 => if x17 < x16 then (if 0 ≤ x17 then (if x17 < (x15.length : Int) then (laws_terms.l1 k x0 (wrap64 (x5 + ((rd_L2 x15 x17).length : Int))) x15 x16 x17 (rd_L2 x15 x17) ((rd_L2 x15 x17).length : Int) 0) else (none)) else (none)) else (if x5 ≤ 2000 then ((spec_AsciiAll.f k x0).bind fun t110 => (some t110)) else (some false))
def laws_terms.l1 : Nat → List (List (List ByteArray)) → Int → List (List (List ByteArray)) → Int → Int → List (List ByteArray) → Int → Int → Option (Bool)
  | 0, _, _, _, _, _, _, _, _ => none
  | k + 1, x0, x5, x15, x16, x17, x25, x26, x27 => if x27 < x26 then (if 0 ≤ x27 then (if x27 < (x25.length : Int) then (laws_terms.l1 k x0 (wrap64 (x5 + ((rd_L1 x25 x27).length : Int))) x15 x16 x17 x25 x26 (wrap64 (x27 + 1))) else (none)) else (none)) else (laws_terms.l0 k x0 x5 x15 x16 (wrap64 (x17 + 1)))
end
def laws_terms.f (k : Nat) (l0 : List (List (List ByteArray))) (l1 : List ByteArray) : Option (Bool) := laws_terms.l0 k l0 (wrap64 ((l1.length : Int) + (l0.length : Int))) l0 (l0.length : Int) 0
theorem laws_terms.mono_l : ∀ k, (∀ y0 y1 y2 y3 y4, LeO (laws_terms.l0 k y0 y1 y2 y3 y4) (laws_terms.l0 (k + 1) y0 y1 y2 y3 y4)) ∧ (∀ y0 y1 y2 y3 y4 y5 y6 y7, LeO (laws_terms.l1 k y0 y1 y2 y3 y4 y5 y6 y7) (laws_terms.l1 (k + 1) y0 y1 y2 y3 y4 y5 y6 y7))
  | 0 => ⟨fun _ _ _ _ _ r h => by simp [laws_terms.l0] at h, fun _ _ _ _ _ _ _ _ r h => by simp [laws_terms.l1] at h⟩
  | k + 1 => by
    obtain ⟨ih0, ih1⟩ := laws_terms.mono_l k
    refine ⟨?_, ?_⟩
    · intro y0 y1 y2 y3 y4
      unfold laws_terms.l0
      repeat' first
      | (with_reducible exact ih0 _ _ _ _ _)
      | (with_reducible exact ih1 _ _ _ _ _ _ _ _)
      | (with_reducible exact spec_AsciiAll.mono _ _)
      | (with_reducible exact LeO.refl _)
      | (with_reducible exact LeO.none _)
      | (with_reducible refine LeO.ite ?_ ?_)
      | (with_reducible refine LeO.bind ?_ (fun _ => ?_))
      | exact ih0 _ _ _ _ _
      | exact ih1 _ _ _ _ _ _ _ _
      | exact spec_AsciiAll.mono _ _
      | exact LeO.none _
      | refine LeO.ite ?_ ?_
      | refine LeO.bind ?_ (fun _ => ?_)
    · intro y0 y1 y2 y3 y4 y5 y6 y7
      unfold laws_terms.l1
      repeat' first
      | (with_reducible exact ih0 _ _ _ _ _)
      | (with_reducible exact ih1 _ _ _ _ _ _ _ _)
      | (with_reducible exact spec_AsciiAll.mono _ _)
      | (with_reducible exact LeO.refl _)
      | (with_reducible exact LeO.none _)
      | (with_reducible refine LeO.ite ?_ ?_)
      | (with_reducible refine LeO.bind ?_ (fun _ => ?_))
      | exact ih0 _ _ _ _ _
      | exact ih1 _ _ _ _ _ _ _ _
      | exact spec_AsciiAll.mono _ _
      | exact LeO.none _
      | refine LeO.ite ?_ ?_
      | refine LeO.bind ?_ (fun _ => ?_)
theorem laws_terms.mono : ∀ a0 a1 k, LeO (laws_terms.f k a0 a1) (laws_terms.f (k + 1) a0 a1) := by
  intro a0 a1 k
  obtain ⟨ih0, ih1⟩ := laws_terms.mono_l k
  unfold laws_terms.f
  repeat' first
      | (with_reducible exact ih0 _ _ _ _ _)
      | (with_reducible exact ih1 _ _ _ _ _ _ _ _)
      | (with_reducible exact spec_AsciiAll.mono _ _)
      | (with_reducible exact LeO.refl _)
      | (with_reducible exact LeO.none _)
      | (with_reducible refine LeO.ite ?_ ?_)
      | (with_reducible refine LeO.bind ?_ (fun _ => ?_))
      | exact ih0 _ _ _ _ _
      | exact ih1 _ _ _ _ _ _ _ _
      | exact spec_AsciiAll.mono _ _
      | exact LeO.none _
      | refine LeO.ite ?_ ?_
      | refine LeO.bind ?_ (fun _ => ?_)
set_option maxHeartbeats 8000000 in
set_option maxRecDepth 100000 in
theorem laws_terms.calls (k : Nat) (A0 : Option Addr) (c0 : Nat) (l0 : List (List (List ByteArray))) (A1 : Option Addr) (c1 : Nat) (l1 : List ByteArray) (r : Bool) (w : World) (hr0 : Kd.C (Kd.slice 24 (Kd.slice 9 Kd.string)) w A0 l0.length l0) (hc0 : l0.length ≤ c0) (hr1 : Kd.C Kd.string w A1 l1.length l1) (hc1 : l1.length ≤ c1) (h : laws_terms.f k l0 l1 = some r) :
    Calls Tryd.prog 10 #[.slice A0 l0.length c0, .slice A1 l1.length c1] w fun e w' => e = .returned (.bool r) ∧ Drawn0 w w' := by
  have HR0 := Aside0.mk hr0
  have HC0 := Aside0.mk hc0
  clear hr0 hc0
  have HR1 := Aside0.mk hr1
  have HC1 := Aside0.mk hc1
  clear hr1 hc1
  have H : (laws_terms.l0 k l0 (wrap64 ((l1.length : Int) + (l0.length : Int))) l0 (l0.length : Int) 0) = some r := h
  clear h
  have H' := Aside0.mk H
  clear H
  go_enter Tryd.func10, Tryd.ntmps10
  go_wp2
  go_loopg [5, 17] k (fun kq v5 v17 w' => ∃ (x5_1 : Int) (x17_1 : Int), v5 = .int .i64 x5_1 ∧ v17 = .int .i64 x17_1 ∧ Aside0 (laws_terms.l0 kq l0 x5_1 l0 (l0.length : Int) x17_1 = some r) ∧ Aside0 (kq ≤ k) ∧ Drawn0 w w')
  case atStart => exact ⟨(wrap64 ((l1.length : Int) + (l0.length : Int))), (0), (by first | rfl | (simp; done) | (simp [*]; done)), (by first | rfl | (simp; done) | (simp [*]; done)), H', ⟨Nat.le_refl _⟩, by repeat (first | exact Drawn0.refl _ | apply Drawn0.step)⟩
  case round =>
    clear H'
    try clear c1
    try clear p2
    obtain ⟨x5_1, x17_1, rfl, rfl, HA, HK1, ⟨m1, rfl⟩⟩ := hrel
    cases gk with
    | zero => exact absurd HA.out (by simp [laws_terms.l0])
    | succ k1 =>
      have H := HA.out
      clear HA
      simp only [laws_terms.l0] at H
      by_cases c3 : x17_1 < (l0.length : Int)
      · rw [if_pos c3] at H
        have c3b0 : decide (x17_1 < (l0.length : Int)) = true := decide_eq_true c3
        clear c3
        by_cases c4 : 0 ≤ x17_1
        · rw [if_pos c4] at H
          have c4b0 : decide (0 ≤ x17_1) = true := decide_eq_true c4
          clear c4
          by_cases c5 : x17_1 < (l0.length : Int)
          · rw [if_pos c5] at H
            have c5b0 : decide (x17_1 < (l0.length : Int)) = true := decide_eq_true c5
            clear c5
            have H' := Aside0.mk H
            clear H
            have p111 : 0 ≤ (x17_1 : Int) := of_decide_eq_true (by first | (with_reducible assumption) | assumption)
            have q111 : x17_1 < (l0.length : Int) := of_decide_eq_true (by first | (with_reducible assumption) | assumption)
            obtain ⟨ad111, A111_0, c111_0, e111, hx111_0, hl111_0, hi111_0⟩ := at_L2 HR0.out x17_1 p111 q111
            cases e111
            have HR111_0 := Aside0.mk hi111_0
            have HC111_0 := Aside0.mk hl111_0
            clear hi111_0 hl111_0
            replace p111 := eq_true p111
            replace q111 := eq_true q111
            go_wp2
            go_loopg [5, 27] k1 (fun kq v5 v27 w' => ∃ (x5_2 : Int) (x27_2 : Int), v5 = .int .i64 x5_2 ∧ v27 = .int .i64 x27_2 ∧ Aside0 (laws_terms.l1 kq l0 x5_2 l0 (l0.length : Int) x17_1 (rd_L2 l0 x17_1) ((rd_L2 l0 x17_1).length : Int) x27_2 = some r) ∧ Aside0 (kq ≤ k1) ∧ Drawn0 w w')
            case atStart => exact ⟨(wrap64 (x5_1 + ((rd_L2 l0 x17_1).length : Int))), (0), (by first | rfl | (simp; done) | (simp [*]; done)), (by first | rfl | (simp; done) | (simp [*]; done)), H', ⟨Nat.le_refl _⟩, by repeat (first | exact Drawn0.refl _ | apply Drawn0.step)⟩
            case round =>
              clear H'
              try clear c1
              try clear p1
              try clear q1
              try clear hx1
              try clear p2
              try clear c3
              try clear c3b0
              try clear c4
              try clear c4b0
              try clear c5
              try clear c5b0
              try clear hx111_0
              try clear p111
              try clear p2
              try clear q111
              obtain ⟨x5_2, x27_2, rfl, rfl, HA, HK2, ⟨m2, rfl⟩⟩ := hrel
              cases gk with
              | zero => exact absurd HA.out (by simp [laws_terms.l1])
              | succ k2 =>
                have H := HA.out
                clear HA
                simp only [laws_terms.l1] at H
                by_cases c6 : x27_2 < ((rd_L2 l0 x17_1).length : Int)
                · rw [if_pos c6] at H
                  have c6b0 : decide (x27_2 < ((rd_L2 l0 x17_1).length : Int)) = true := decide_eq_true c6
                  clear c6
                  by_cases c7 : 0 ≤ x27_2
                  · rw [if_pos c7] at H
                    have c7b0 : decide (0 ≤ x27_2) = true := decide_eq_true c7
                    clear c7
                    by_cases c8 : x27_2 < ((rd_L2 l0 x17_1).length : Int)
                    · rw [if_pos c8] at H
                      have c8b0 : decide (x27_2 < ((rd_L2 l0 x17_1).length : Int)) = true := decide_eq_true c8
                      clear c8
                      have H' := Aside0.mk H
                      clear H
                      have p112 : 0 ≤ (x27_2 : Int) := of_decide_eq_true (by first | (with_reducible assumption) | assumption)
                      have q112 : x27_2 < ((rd_L2 l0 x17_1).length : Int) := of_decide_eq_true (by first | (with_reducible assumption) | assumption)
                      obtain ⟨ad112, A112_0, c112_0, e112, hx112_0, hl112_0, hi112_0⟩ := at_L1 HR111_0.out x27_2 p112 q112
                      cases e112
                      have HR112_0 := Aside0.mk hi112_0
                      have HC112_0 := Aside0.mk hl112_0
                      clear hi112_0 hl112_0
                      replace p112 := eq_true p112
                      replace q112 := eq_true q112
                      go_wp2
                      go_roundg k2
                      case measure => have := HK1.out; have := HK2.out; omega
                      case rel => exact ⟨(wrap64 (x5_2 + ((rd_L1 (rd_L2 l0 x17_1) x27_2).length : Int))), (wrap64 (x27_2 + 1)), (by first | rfl | (simp; done) | (simp [*]; done)), (by first | rfl | (simp; done) | (simp [*]; done)), H', ⟨by have := HK1.out; have := HK2.out; omega⟩, by repeat (first | exact Drawn0.refl _ | apply Drawn0.step)⟩
                    · rw [if_neg c8] at H
                      exact absurd H (by simp)
                  · rw [if_neg c7] at H
                    exact absurd H (by simp)
                · rw [if_neg c6] at H
                  have c6b0 : decide (x27_2 < ((rd_L2 l0 x17_1).length : Int)) = false := decide_eq_false c6
                  clear c6
                  have H' := Aside0.mk H
                  clear H
                  go_wp2
                  go_roundg k2
                  case measure => have := HK1.out; have := HK2.out; omega
                  case rel => exact ⟨(x5_2), (wrap64 (x17_1 + 1)), (by first | rfl | (simp; done) | (simp [*]; done)), (by first | rfl | (simp; done) | (simp [*]; done)), H', ⟨by have := HK1.out; have := HK2.out; omega⟩, by repeat (first | exact Drawn0.refl _ | apply Drawn0.step)⟩
          · rw [if_neg c5] at H
            exact absurd H (by simp)
        · rw [if_neg c4] at H
          exact absurd H (by simp)
      · rw [if_neg c3] at H
        have c3b0 : decide (x17_1 < (l0.length : Int)) = false := decide_eq_false c3
        clear c3
        by_cases c9 : x5_1 ≤ 2000
        · rw [if_pos c9] at H
          have c9b0 : decide (x5_1 ≤ 2000) = true := decide_eq_true c9
          clear c9
          replace H := Option.bind_eq_some_iff.mp H
          obtain ⟨t110, A100, H⟩ := H
          replace H : (some t110) = some r := H
          have A10 := Aside0.mk A100
          clear A100
          obtain rfl := Option.some.inj H
          go_wp2_with (first | (go_at_call 30; (with_reducible refine (spec_AsciiAll.calls k1 _ _ l0 t110 _ ?side1 ?side2 A10.out).mono ?_); (case side1 => repeat (first | exact HR0.out | (with_reducible refine Kd.C_alloc ?_ _) | (with_reducible refine Kd.C_drewN ?_ _) | (with_reducible refine Kd.C_drew ?_))); (case side2 => exact HC0.out); rintro e w' ⟨rfl, ⟨nd, rfl⟩⟩))
          go_ret
          exact ⟨by first | rfl | (simp; done) | (simp [*]; done), by repeat (first | exact Drawn0.refl _ | apply Drawn0.step)⟩
        · rw [if_neg c9] at H
          have c9b0 : decide (x5_1 ≤ 2000) = false := decide_eq_false c9
          clear c9
          obtain rfl := Option.some.inj H
          go_wp2
          go_ret
          exact ⟨by first | rfl | (simp; done) | (simp [*]; done), by repeat (first | exact Drawn0.refl _ | apply Drawn0.step)⟩

-- GIVEN: function 15 (impl_ConstraintsEvaluate)

-- GIVEN: function 25 (impl_ConstraintsValid)

/-! ### spec_TermParts: function 31 -/
def spec_TermParts.f (a0 : ByteArray) : Option (Bool × ByteArray) := if (a0.size : Int) > 0 then (if 0 < (a0.size : Int) then (if (bt a0 0) = 33 then (if 1 ≤ (a0.size : Int) then (some (true, a0.extract 1 a0.size)) else (none)) else (some (false, a0))) else (none)) else (some (false, a0))
set_option maxHeartbeats 8000000 in
set_option maxRecDepth 100000 in
theorem spec_TermParts.calls (a0 : ByteArray) (r1 : Bool) (r2 : ByteArray) (w : World) (h : spec_TermParts.f a0 = some (r1, r2)) :
    Calls Tryd.prog 31 #[.string a0] w fun e w' => e = .returned (.tuple #[.bool r1, .string r2]) ∧ Drawn0 w w' := by
  have H : (if (a0.size : Int) > 0 then (if 0 < (a0.size : Int) then (if (bt a0 0) = 33 then (if 1 ≤ (a0.size : Int) then (some (true, a0.extract 1 a0.size)) else (none)) else (some (false, a0))) else (none)) else (some (false, a0))) = some (r1, r2) := h
  clear h
  by_cases c2 : (a0.size : Int) > 0
  · rw [if_pos c2] at H
    have c2b0 : decide (0 < (a0.size : Int)) = true := decide_eq_true c2
    have c2b1 : decide (0 < a0.size) = true := decide_eq_true (by omega)
    clear c2
    by_cases c3 : 0 < (a0.size : Int)
    · rw [if_pos c3] at H
      have c3b0 : decide (0 < (a0.size : Int)) = true := decide_eq_true c3
      have c3b1 : decide (0 < a0.size) = true := decide_eq_true (by omega)
      clear c3
      by_cases c5 : (bt a0 0) = 33
      · rw [if_pos c5] at H
        have c5b0 : ((bt a0 0) == 33) = true := beq_iff_eq.mpr c5
        have c5b1 : ((bt a0 0) != 33) = false := bne_eq_false_iff_eq.mpr c5
        clear c5
        by_cases c6 : 1 ≤ (a0.size : Int)
        · rw [if_pos c6] at H
          have c6b0 := eq_true c6
          have c6b1 : decide (1 ≤ (a0.size : Int)) = true := decide_eq_true c6
          clear c6
          simp only [Option.some.injEq, Prod.mk.injEq] at H
          obtain ⟨rfl, rfl⟩ := H
          have p4 : 0 ≤ (0 : Int) := (by omega)
          have q4 : 0 < a0.size := (by have : (0 : Int) < (a0.size : Int) := of_decide_eq_true (by first | (with_reducible assumption) | assumption); omega)
          have hx4 : ∀ h : 0 < a0.size, ((a0[0]'h).toNat : Int) = bt a0 0 := bt_at a0 0
          clear p4
          have qi4 : (0 < (a0.size : Int)) = True := eq_true (of_decide_eq_true (by first | (with_reducible assumption) | assumption))
          replace q4 := eq_true q4
          go_enter Tryd.func31, Tryd.ntmps31
          go_wp2
          repeat (go_quiet (fail); try go_wp2)
          go_ret2
          exact ⟨by first | rfl | (simp; done) | (simp [*]; done), by repeat (first | exact Drawn0.refl _ | apply Drawn0.step)⟩
        · rw [if_neg c6] at H
          exact absurd H (by simp)
      · rw [if_neg c5] at H
        have c5b0 : ((bt a0 0) == 33) = false := beq_eq_false_iff_ne.mpr c5
        have c5b1 : ((bt a0 0) != 33) = true := bne_iff_ne.mpr c5
        simp only [Option.some.injEq, Prod.mk.injEq] at H
        obtain ⟨rfl, rfl⟩ := H
        have p4 : 0 ≤ (0 : Int) := (by omega)
        have q4 : 0 < a0.size := (by have : (0 : Int) < (a0.size : Int) := of_decide_eq_true (by first | (with_reducible assumption) | assumption); omega)
        have hx4 : ∀ h : 0 < a0.size, ((a0[0]'h).toNat : Int) = bt a0 0 := bt_at a0 0
        clear p4
        have qi4 : (0 < (a0.size : Int)) = True := eq_true (of_decide_eq_true (by first | (with_reducible assumption) | assumption))
        replace q4 := eq_true q4
        go_enter Tryd.func31, Tryd.ntmps31
        go_wp2
        repeat (go_quiet (fail); try go_wp2)
        go_ret2
        exact ⟨by first | rfl | (simp; done) | (simp [*]; done), by repeat (first | exact Drawn0.refl _ | apply Drawn0.step)⟩
    · rw [if_neg c3] at H
      exact absurd H (by simp)
  · rw [if_neg c2] at H
    have c2b0 : decide (0 < (a0.size : Int)) = false := decide_eq_false c2
    have c2b1 : decide (0 < a0.size) = false := decide_eq_false (by omega)
    clear c2
    simp only [Option.some.injEq, Prod.mk.injEq] at H
    obtain ⟨rfl, rfl⟩ := H
    go_enter Tryd.func31, Tryd.ntmps31
    go_wp2
    repeat (go_quiet (fail); try go_wp2)
    go_ret2
    exact ⟨by first | rfl | (simp; done) | (simp [*]; done), by repeat (first | exact Drawn0.refl _ | apply Drawn0.step)⟩

end Go.Proofs.YtlmmjchdfngdgaaDoor.Q
