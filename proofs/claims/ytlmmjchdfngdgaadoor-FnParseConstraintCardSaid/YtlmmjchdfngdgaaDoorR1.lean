-- Written by wip/drive.py (this claim's own program, over the kit's print).
import Derived.Test.YtlmmjchdfngdgaaDoorR0
namespace Go.Proofs.YtlmmjchdfngdgaaDoor.R
open Go.RowKit Go.Proofs.YtlmmjchdfngdgaaDoorW.PrintWords Go.Proofs.YtlmmjchdfngdgaaDoorW.PrintLast Go.Proofs.YtlmmjchdfngdgaaDoorW.PrintMore
attribute [local go_sem] max2_int min2_int max_two min_two max_three min_three max_four min_four   -- for this text's walks alone
set_option linter.unusedVariables false
set_option linter.unusedSimpArgs false

/-! ### spec_Ascii: function 21 -/
def spec_Ascii.l0 : Nat → ByteArray → Int → Option (Bool)
  | 0, _, _ => none
  | k + 1, x0, x3 => if x3 < (x0.size : Int) then (if 0 ≤ x3 then (if (bt x0 x3) > 127 then (some false) else (spec_Ascii.l0 k x0 (wrap64 (x3 + 1)))) else (none)) else (some true)
def spec_Ascii.f (k : Nat) (a0 : ByteArray) : Option (Bool) := spec_Ascii.l0 k a0 0
theorem spec_Ascii.mono_l : ∀ k, (∀ y0 y1, LeO (spec_Ascii.l0 k y0 y1) (spec_Ascii.l0 (k + 1) y0 y1))
  | 0 => fun _ _ r h => by simp [spec_Ascii.l0] at h
  | k + 1 => by
    have ih0 := spec_Ascii.mono_l k
    · intro y0 y1
      unfold spec_Ascii.l0
      repeat' first
      | (with_reducible exact ih0 _ _)
      | (with_reducible exact LeO.refl _)
      | (with_reducible exact LeO.none _)
      | (with_reducible refine LeO.ite ?_ ?_)
      | (with_reducible refine LeO.bind ?_ (fun _ => ?_))
      | exact ih0 _ _
      | exact LeO.none _
      | refine LeO.ite ?_ ?_
      | refine LeO.bind ?_ (fun _ => ?_)
theorem spec_Ascii.mono : ∀ a0 k, LeO (spec_Ascii.f k a0) (spec_Ascii.f (k + 1) a0) := by
  intro a0 k
  have ih0 := spec_Ascii.mono_l k
  unfold spec_Ascii.f
  repeat' first
      | (with_reducible exact ih0 _ _)
      | (with_reducible exact LeO.refl _)
      | (with_reducible exact LeO.none _)
      | (with_reducible refine LeO.ite ?_ ?_)
      | (with_reducible refine LeO.bind ?_ (fun _ => ?_))
      | exact ih0 _ _
      | exact LeO.none _
      | refine LeO.ite ?_ ?_
      | refine LeO.bind ?_ (fun _ => ?_)
set_option maxHeartbeats 8000000 in
set_option maxRecDepth 100000 in
theorem spec_Ascii.calls (k : Nat) (a0 : ByteArray) (r : Bool) (w : World) (h : spec_Ascii.f k a0 = some r) :
    Calls Tryd.prog 21 #[.string a0] w fun e w' => e = .returned (.bool r) ∧ Drawn0 w w' := by
  have H : (spec_Ascii.l0 k a0 0) = some r := h
  clear h
  have H' := Aside0.mk H
  clear H
  go_enter Tryd.func21, Tryd.ntmps21
  go_wp2
  go_loopg [3] k (fun kq v3 w' => ∃ (x3_1 : Int), v3 = .int .i64 x3_1 ∧ Aside0 (spec_Ascii.l0 kq a0 x3_1 = some r) ∧ Aside0 (kq ≤ k) ∧ Drawn0 w w')
  case atStart => exact ⟨(0), (by first | rfl | (simp; done) | (simp [*]; done)), H', ⟨Nat.le_refl _⟩, by repeat (first | exact Drawn0.refl _ | apply Drawn0.step)⟩
  case round =>
    clear H'
    obtain ⟨x3_1, rfl, HA, HK1, ⟨m1, rfl⟩⟩ := hrel
    cases gk with
    | zero => exact absurd HA.out (by simp [spec_Ascii.l0])
    | succ k1 =>
      have H := HA.out
      clear HA
      simp only [spec_Ascii.l0] at H
      by_cases c2 : x3_1 < (a0.size : Int)
      · rw [if_pos c2] at H
        have c2b0 : decide (x3_1 < (a0.size : Int)) = true := decide_eq_true c2
        clear c2
        by_cases c3 : 0 ≤ x3_1
        · rw [if_pos c3] at H
          have c3b0 : decide (0 ≤ x3_1) = true := decide_eq_true c3
          clear c3
          by_cases c5 : (bt a0 x3_1) > 127
          · rw [if_pos c5] at H
            have c5b0 : decide (127 < (bt a0 x3_1)) = true := decide_eq_true c5
            clear c5
            obtain rfl := Option.some.inj H
            have p4 : 0 ≤ (x3_1 : Int) := of_decide_eq_true (by first | (with_reducible assumption) | assumption)
            have q4 : x3_1 < (a0.size : Int) := of_decide_eq_true (by first | (with_reducible assumption) | assumption)
            have hx4 := bt_at a0 x3_1
            replace p4 := eq_true p4
            replace q4 := eq_true q4
            go_wp2
            go_ret
            exact ⟨by first | rfl | (simp; done) | (simp [*]; done), by repeat (first | exact Drawn0.refl _ | apply Drawn0.step)⟩
          · rw [if_neg c5] at H
            have c5b0 : decide (127 < (bt a0 x3_1)) = false := decide_eq_false c5
            clear c5
            have H' := Aside0.mk H
            clear H
            have p4 : 0 ≤ (x3_1 : Int) := of_decide_eq_true (by first | (with_reducible assumption) | assumption)
            have q4 : x3_1 < (a0.size : Int) := of_decide_eq_true (by first | (with_reducible assumption) | assumption)
            have hx4 := bt_at a0 x3_1
            replace p4 := eq_true p4
            replace q4 := eq_true q4
            go_wp2
            go_roundg k1
            case measure => have := HK1.out; omega
            case rel => exact ⟨(wrap64 (x3_1 + 1)), (by first | rfl | (simp; done) | (simp [*]; done)), H', ⟨by have := HK1.out; omega⟩, by repeat (first | exact Drawn0.refl _ | apply Drawn0.step)⟩
        · rw [if_neg c3] at H
          exact absurd H (by simp)
      · rw [if_neg c2] at H
        have c2b0 : decide (x3_1 < (a0.size : Int)) = false := decide_eq_false c2
        clear c2
        obtain rfl := Option.some.inj H
        go_wp2
        go_ret
        exact ⟨by first | rfl | (simp; done) | (simp [*]; done), by repeat (first | exact Drawn0.refl _ | apply Drawn0.step)⟩

-- GIVEN: function 22 (impl_ParseConstraint)

/-! ### spec_tagsFields: function 45 -/
mutual
def spec_tagsFields.l0 : Nat → ByteArray → List ByteArray → ByteArray → Int → Option (List ByteArray)
  | 0, _, _, _, _ => none
  | k + 1, x0, x3, x4, x5 => if x5 < (x0.size : Int) then (if 0 ≤ x5 then (if (bt x0 x5) = 32 then (spec_tagsFields.j1 k x0 x3 x4 x5 false) else (if (bt x0 x5) < 9 then (spec_tagsFields.j1 k x0 x3 x4 x5 true) else (spec_tagsFields.j1 k x0 x3 x4 x5 (decide ((bt x0 x5) > 13))))) else (none)) else (if x4.toList = ([] : List UInt8) then (some x3) else (if x3.length < 8796093022208 then (some (x3 ++ [x4])) else (none)))
def spec_tagsFields.j1 : Nat → ByteArray → List ByteArray → ByteArray → Int → Bool → Option (List ByteArray)
  | 0, _, _, _, _, _ => none
  | k + 1, x0, x3, x4, x5, x27 => if x27 = true then (if 0 ≤ x5 then (if x5 ≤ (wrap64 (x5 + 1)) then (if (wrap64 (x5 + 1)) ≤ (x0.size : Int) then (if x4.size + (x0.extract (x5 : Int).toNat ((wrap64 (x5 + 1)) : Int).toNat).size ≤ 9223372036854775807 then (spec_tagsFields.l0 k x0 x3 (x4 ++ (x0.extract (x5 : Int).toNat ((wrap64 (x5 + 1)) : Int).toNat)) (wrap64 (x5 + 1))) else (none)) else (none)) else (none)) else (none)) else (if x4.toList = ([] : List UInt8) then (spec_tagsFields.l0 k x0 x3 x4 (wrap64 (x5 + 1))) else (if x3.length < 8796093022208 then (spec_tagsFields.l0 k x0 (x3 ++ [x4]) (⟨#[]⟩ : ByteArray) (wrap64 (x5 + 1))) else (none)))
end
def spec_tagsFields.f (k : Nat) (a0 : ByteArray) : Option (List ByteArray) := spec_tagsFields.l0 k a0 ([] : List ByteArray) (⟨#[]⟩ : ByteArray) 0
theorem spec_tagsFields.mono_l : ∀ k, (∀ y0 y1 y2 y3, LeO (spec_tagsFields.l0 k y0 y1 y2 y3) (spec_tagsFields.l0 (k + 1) y0 y1 y2 y3)) ∧ (∀ y0 y1 y2 y3 y4, LeO (spec_tagsFields.j1 k y0 y1 y2 y3 y4) (spec_tagsFields.j1 (k + 1) y0 y1 y2 y3 y4))
  | 0 => ⟨fun _ _ _ _ r h => by simp [spec_tagsFields.l0] at h, fun _ _ _ _ _ r h => by simp [spec_tagsFields.j1] at h⟩
  | k + 1 => by
    obtain ⟨ih0, ih1⟩ := spec_tagsFields.mono_l k
    refine ⟨?_, ?_⟩
    · intro y0 y1 y2 y3
      unfold spec_tagsFields.l0
      repeat' first
      | (with_reducible exact ih0 _ _ _ _)
      | (with_reducible exact ih1 _ _ _ _ _)
      | (with_reducible exact LeO.refl _)
      | (with_reducible exact LeO.none _)
      | (with_reducible refine LeO.ite ?_ ?_)
      | (with_reducible refine LeO.bind ?_ (fun _ => ?_))
      | exact ih0 _ _ _ _
      | exact ih1 _ _ _ _ _
      | exact LeO.none _
      | refine LeO.ite ?_ ?_
      | refine LeO.bind ?_ (fun _ => ?_)
    · intro y0 y1 y2 y3 y4
      unfold spec_tagsFields.j1
      repeat' first
      | (with_reducible exact ih0 _ _ _ _)
      | (with_reducible exact ih1 _ _ _ _ _)
      | (with_reducible exact LeO.refl _)
      | (with_reducible exact LeO.none _)
      | (with_reducible refine LeO.ite ?_ ?_)
      | (with_reducible refine LeO.bind ?_ (fun _ => ?_))
      | exact ih0 _ _ _ _
      | exact ih1 _ _ _ _ _
      | exact LeO.none _
      | refine LeO.ite ?_ ?_
      | refine LeO.bind ?_ (fun _ => ?_)
theorem spec_tagsFields.mono : ∀ a0 k, LeO (spec_tagsFields.f k a0) (spec_tagsFields.f (k + 1) a0) := by
  intro a0 k
  obtain ⟨ih0, ih1⟩ := spec_tagsFields.mono_l k
  unfold spec_tagsFields.f
  repeat' first
      | (with_reducible exact ih0 _ _ _ _)
      | (with_reducible exact ih1 _ _ _ _ _)
      | (with_reducible exact LeO.refl _)
      | (with_reducible exact LeO.none _)
      | (with_reducible refine LeO.ite ?_ ?_)
      | (with_reducible refine LeO.bind ?_ (fun _ => ?_))
      | exact ih0 _ _ _ _
      | exact ih1 _ _ _ _ _
      | exact LeO.none _
      | refine LeO.ite ?_ ?_
      | refine LeO.bind ?_ (fun _ => ?_)
set_option maxHeartbeats 8000000 in
set_option maxRecDepth 100000 in
theorem spec_tagsFields.calls (k : Nat) (a0 : ByteArray) (r : List ByteArray) (w : World) (h : spec_tagsFields.f k a0 = some r) :
    Calls Tryd.prog 45 #[.string a0] w fun e w' => ∃ v0_ : Value, e = .returned (v0_) ∧ Kd.R Kd.string 9 w' w.heap.size (fun _ => True) v0_ r ∧ Below w.heap.size w w' := by
  have HB := Aside0.mk (Below.refl w.heap.size w)
  have H : (spec_tagsFields.l0 k a0 ([] : List ByteArray) (⟨#[]⟩ : ByteArray) 0) = some r := h
  clear h
  have H' := Aside0.mk H
  clear H
  go_enter Tryd.func45, Tryd.ntmps45
  go_wp2
  go_loopg [3, 4, 5] k (fun kq v3 v4 v5 w' => ∃ (x3_1 : List ByteArray) (x4_1 : ByteArray) (x5_1 : Int), v4 = .string x4_1 ∧ v5 = .int .i64 x5_1 ∧ Aside0 (spec_tagsFields.l0 kq a0 x3_1 x4_1 x5_1 = some r) ∧ Aside0 (kq ≤ k) ∧ Aside0 (Kd.R Kd.string 9 w' w.heap.size (fun _ => True) v3 x3_1) ∧ Aside0 (Below w.heap.size w w'))
  case atStart => exact ⟨(([] : List ByteArray)), ((⟨#[]⟩ : ByteArray)), (0), (by first | rfl | (simp; done) | (simp [*]; done)), (by first | rfl | (simp; done) | (simp [*]; done)), H', ⟨Nat.le_refl _⟩, ⟨by first | exact Kd.R_nil _ _ _ _ _ | exact Kd.N_nil _ _ _ _ _ | exact Kd.V_nil _ _ _ _ _ | exact Kd.Q_nil _ _ _ _ _ | exact Kd.S_nil _ _ _ _ _⟩, ⟨by repeat (first | (with_reducible first | exact HB.out | apply below_alloc | apply pw_below_drewN | apply below_drew1) | exact HB.out)⟩⟩
  case round =>
    clear H'
    obtain ⟨x3_1, x4_1, x5_1, rfl, rfl, HA, HK1, HO_3, HB⟩ := hrel
    cases gk with
    | zero => exact absurd HA.out (by simp [spec_tagsFields.l0])
    | succ k1 =>
      have H := HA.out
      clear HA
      simp only [spec_tagsFields.l0] at H
      by_cases c2 : x5_1 < (a0.size : Int)
      · rw [if_pos c2] at H
        have c2b0 : decide (x5_1 < (a0.size : Int)) = true := decide_eq_true c2
        clear c2
        have HC3 := Aside0.mk H
        clear H
        go_upto_region 6 with (fail)
        go_cut [27] (fun v27 wc => ∃ (kq : Nat) (x27_2 : Bool), v27 = .bool x27_2 ∧ Aside0 (spec_tagsFields.j1 kq a0 x3_1 x4_1 x5_1 x27_2 = some r) ∧ Aside0 (kq ≤ k1) ∧ Aside0 (Kd.R Kd.string 9 wc w.heap.size (fun _ => True) u3 x3_1) ∧ Aside0 (Below w.heap.size w wc))
        case first =>
          have H := HC3.out
          clear HC3
          by_cases c4 : 0 ≤ x5_1
          · rw [if_pos c4] at H
            have c4b0 : decide (0 ≤ x5_1) = true := decide_eq_true c4
            clear c4
            (first | rw [c4b0] | (simp only [i64_w, i32_w]; rw [c4b0]) | skip)
            by_cases c6 : (bt a0 x5_1) = 32
            · rw [if_pos c6] at H
              have c6b0 : ((bt a0 x5_1) == 32) = true := beq_iff_eq.mpr c6
              have c6b1 : ((bt a0 x5_1) != 32) = false := bne_eq_false_iff_eq.mpr c6
              clear c6
              have H' := Aside0.mk H
              clear H
              have p5 : 0 ≤ (x5_1 : Int) := of_decide_eq_true (by first | (with_reducible assumption) | assumption)
              have q5 : x5_1 < (a0.size : Int) := of_decide_eq_true (by first | (with_reducible assumption) | assumption)
              have hx5 := bt_at a0 x5_1
              replace p5 := eq_true p5
              replace q5 := eq_true q5
              go_wp2
              go_meet
              case rel => exact ⟨_, (false), (by first | rfl | (simp; done) | (simp [*]; done)), H', ⟨by have := HK1.out; first | omega | exact Nat.le_refl _⟩, ⟨by (with_reducible repeat (first | apply Kd.R_alloc | apply Kd.R_drewN | apply Kd.R_drew)); exact HO_3.out⟩, ⟨by repeat (first | (with_reducible first | exact HB.out | apply below_alloc | apply pw_below_drewN | apply below_drew1) | exact HB.out)⟩⟩
            · rw [if_neg c6] at H
              have c6b0 : ((bt a0 x5_1) == 32) = false := beq_eq_false_iff_ne.mpr c6
              have c6b1 : ((bt a0 x5_1) != 32) = true := bne_iff_ne.mpr c6
              by_cases c8 : (bt a0 x5_1) < 9
              · rw [if_pos c8] at H
                have c8b0 : decide ((bt a0 x5_1) < 9) = true := decide_eq_true c8
                clear c8
                have H' := Aside0.mk H
                clear H
                have p5 : 0 ≤ (x5_1 : Int) := of_decide_eq_true (by first | (with_reducible assumption) | assumption)
                have q5 : x5_1 < (a0.size : Int) := of_decide_eq_true (by first | (with_reducible assumption) | assumption)
                have hx5 := bt_at a0 x5_1
                replace p5 := eq_true p5
                replace q5 := eq_true q5
                have p7 : 0 ≤ (x5_1 : Int) := of_decide_eq_true (by first | (with_reducible assumption) | assumption)
                have q7 : x5_1 < (a0.size : Int) := of_decide_eq_true (by first | (with_reducible assumption) | assumption)
                have hx7 := bt_at a0 x5_1
                replace p7 := eq_true p7
                replace q7 := eq_true q7
                go_wp2
                go_meet
                case rel => exact ⟨_, (true), (by first | rfl | (simp; done) | (simp [*]; done)), H', ⟨by have := HK1.out; first | omega | exact Nat.le_refl _⟩, ⟨by (with_reducible repeat (first | apply Kd.R_alloc | apply Kd.R_drewN | apply Kd.R_drew)); exact HO_3.out⟩, ⟨by repeat (first | (with_reducible first | exact HB.out | apply below_alloc | apply pw_below_drewN | apply below_drew1) | exact HB.out)⟩⟩
              · rw [if_neg c8] at H
                have c8b0 : decide ((bt a0 x5_1) < 9) = false := decide_eq_false c8
                clear c8
                have H' := Aside0.mk H
                clear H
                have p5 : 0 ≤ (x5_1 : Int) := of_decide_eq_true (by first | (with_reducible assumption) | assumption)
                have q5 : x5_1 < (a0.size : Int) := of_decide_eq_true (by first | (with_reducible assumption) | assumption)
                have hx5 := bt_at a0 x5_1
                replace p5 := eq_true p5
                replace q5 := eq_true q5
                have p7 : 0 ≤ (x5_1 : Int) := of_decide_eq_true (by first | (with_reducible assumption) | assumption)
                have q7 : x5_1 < (a0.size : Int) := of_decide_eq_true (by first | (with_reducible assumption) | assumption)
                have hx7 := bt_at a0 x5_1
                replace p7 := eq_true p7
                replace q7 := eq_true q7
                have p9 : 0 ≤ (x5_1 : Int) := of_decide_eq_true (by first | (with_reducible assumption) | assumption)
                have q9 : x5_1 < (a0.size : Int) := of_decide_eq_true (by first | (with_reducible assumption) | assumption)
                have hx9 := bt_at a0 x5_1
                replace p9 := eq_true p9
                replace q9 := eq_true q9
                go_wp2
                go_meet
                case rel => exact ⟨_, (decide ((bt a0 x5_1) > 13)), (by first | rfl | (simp; done) | (simp [*]; done)), H', ⟨by have := HK1.out; first | omega | exact Nat.le_refl _⟩, ⟨by (with_reducible repeat (first | apply Kd.R_alloc | apply Kd.R_drewN | apply Kd.R_drew)); exact HO_3.out⟩, ⟨by repeat (first | (with_reducible first | exact HB.out | apply below_alloc | apply pw_below_drewN | apply below_drew1) | exact HB.out)⟩⟩
          · rw [if_neg c4] at H
            exact absurd H (by simp)
        case rest =>
          clear HC3
          try clear c2
          try clear c2b0
          try clear p2
          try clear c4
          try clear c4b0
          try clear p5
          try clear q5
          try clear hx5
          try clear c6
          try clear c6b0
          try clear c6b1
          try clear p7
          try clear q7
          try clear hx7
          try clear c8
          try clear c8b0
          try clear p9
          try clear q9
          try clear hx9
          try clear p5
          try clear p7
          try clear p9
          try clear q5
          try clear q7
          try clear q9
          obtain ⟨kq, x27_2, rfl, HA, HJ2, HO_3, HB⟩ := hcut
          cases kq with
          | zero => exact absurd HA.out (by simp [spec_tagsFields.j1])
          | succ kj2 =>
            have H := HA.out
            clear HA
            simp only [spec_tagsFields.j1] at H
            by_cases c10 : x27_2 = true
            · subst c10
              have H1 : (if 0 ≤ x5_1 then (if x5_1 ≤ (wrap64 (x5_1 + 1)) then (if (wrap64 (x5_1 + 1)) ≤ (a0.size : Int) then (if x4_1.size + (a0.extract (x5_1 : Int).toNat ((wrap64 (x5_1 + 1)) : Int).toNat).size ≤ 9223372036854775807 then (spec_tagsFields.l0 kj2 a0 x3_1 (x4_1 ++ (a0.extract (x5_1 : Int).toNat ((wrap64 (x5_1 + 1)) : Int).toNat)) (wrap64 (x5_1 + 1))) else (none)) else (none)) else (none)) else (none)) = some r := by rw [if_pos rfl] at H; exact H
              clear H
              have H := H1
              clear H1
              by_cases c11 : 0 ≤ x5_1
              · rw [if_pos c11] at H
                have c11b0 := eq_true c11
                have c11b1 : decide (0 ≤ x5_1) = true := decide_eq_true c11
                clear c11
                by_cases c12 : x5_1 ≤ (wrap64 (x5_1 + 1))
                · rw [if_pos c12] at H
                  have c12b0 := eq_true c12
                  have c12b1 : decide (x5_1 ≤ (wrap64 (x5_1 + 1))) = true := decide_eq_true c12
                  by_cases c13 : (wrap64 (x5_1 + 1)) ≤ (a0.size : Int)
                  · rw [if_pos c13] at H
                    have c13b0 := eq_true c13
                    have c13b1 : decide ((wrap64 (x5_1 + 1)) ≤ (a0.size : Int)) = true := decide_eq_true c13
                    by_cases c14 : x4_1.size + (a0.extract (x5_1 : Int).toNat ((wrap64 (x5_1 + 1)) : Int).toNat).size ≤ 9223372036854775807
                    · rw [if_pos c14] at H
                      have c14b0 := eq_true c14
                      have c14b1 : decide (x4_1.size + (a0.extract (x5_1 : Int).toNat ((wrap64 (x5_1 + 1)) : Int).toNat).size ≤ 9223372036854775807) = true := decide_eq_true c14
                      try have c14b2 : (9223372036854775807 < x4_1.size + (a0.extract (x5_1 : Int).toNat ((wrap64 (x5_1 + 1)) : Int).toNat).size) = False := eq_false (Nat.not_lt.2 c14)
                      have H' := Aside0.mk H
                      clear H
                      go_wp2
                      go_roundg kj2
                      case measure => have := HK1.out; have := HJ2.out; omega
                      case rel => exact ⟨(x3_1), (x4_1 ++ (a0.extract (x5_1 : Int).toNat ((wrap64 (x5_1 + 1)) : Int).toNat)), (wrap64 (x5_1 + 1)), (by first | rfl | (simp; done) | (simp [*]; done)), (by first | rfl | (simp; done) | (simp [*]; done)), H', ⟨by have := HK1.out; have := HJ2.out; omega⟩, ⟨by (with_reducible repeat (first | apply Kd.R_alloc | apply Kd.R_drewN | apply Kd.R_drew)); exact HO_3.out⟩, ⟨by repeat (first | (with_reducible first | exact HB.out | apply below_alloc | apply pw_below_drewN | apply below_drew1) | exact HB.out)⟩⟩
                    · rw [if_neg c14] at H
                      exact absurd H (by simp)
                  · rw [if_neg c13] at H
                    exact absurd H (by simp)
                · rw [if_neg c12] at H
                  exact absurd H (by simp)
              · rw [if_neg c11] at H
                exact absurd H (by simp)
            · replace c10 := Bool.eq_false_iff.mpr c10
              subst c10
              have H1 : (if x4_1.toList = ([] : List UInt8) then (spec_tagsFields.l0 kj2 a0 x3_1 x4_1 (wrap64 (x5_1 + 1))) else (if x3_1.length < 8796093022208 then (spec_tagsFields.l0 kj2 a0 (x3_1 ++ [x4_1]) (⟨#[]⟩ : ByteArray) (wrap64 (x5_1 + 1))) else (none))) = some r := by rw [if_neg (show ¬ (false = true) by decide)] at H; exact H
              clear H
              have H := H1
              clear H1
              by_cases c15 : x4_1.toList = ([] : List UInt8)
              · rw [if_pos c15] at H
                have c15b0 : (x4_1.toList == ([] : List UInt8)) = true := beq_iff_eq.mpr c15
                have c15b1 : (x4_1.toList != ([] : List UInt8)) = false := bne_eq_false_iff_eq.mpr c15
                clear c15
                have H' := Aside0.mk H
                clear H
                go_wp2
                go_roundg kj2
                case measure => have := HK1.out; have := HJ2.out; omega
                case rel => exact ⟨(x3_1), (x4_1), (wrap64 (x5_1 + 1)), (by first | rfl | (simp; done) | (simp [*]; done)), (by first | rfl | (simp; done) | (simp [*]; done)), H', ⟨by have := HK1.out; have := HJ2.out; omega⟩, ⟨by (with_reducible repeat (first | apply Kd.R_alloc | apply Kd.R_drewN | apply Kd.R_drew)); exact HO_3.out⟩, ⟨by repeat (first | (with_reducible first | exact HB.out | apply below_alloc | apply pw_below_drewN | apply below_drew1) | exact HB.out)⟩⟩
              · rw [if_neg c15] at H
                have c15b0 : (x4_1.toList == ([] : List UInt8)) = false := beq_eq_false_iff_ne.mpr c15
                have c15b1 : (x4_1.toList != ([] : List UInt8)) = true := bne_iff_ne.mpr c15
                by_cases c16 : x3_1.length < 8796093022208
                · rw [if_pos c16] at H
                  have LMc16 := Aside0.mk c16
                  clear c16
                  obtain ⟨y104, hy104⟩ : ∃ y_ : List ByteArray, y_ = (x3_1 ++ [x4_1]) := ⟨_, rfl⟩
                  replace H : (spec_tagsFields.l0 kj2 a0 y104 (⟨#[]⟩ : ByteArray) (wrap64 (x5_1 + 1))) = some r := by first | (rw [hy104]; with_reducible exact H) | (have H2_ := (Option.bind_some _ _).symm.trans H; rw [hy104]; with_reducible exact H2_) | (have H2_ := (Option.bind_some _ _).symm.trans H; with_reducible exact H2_) | with_reducible exact H | (rw [hy104]; exact H) | exact H
                  have Ny104 := Aside0.mk hy104
                  clear hy104
                  have H' := Aside0.mk H
                  clear H
                  go_wp2_with (first | ((with_reducible refine gate_builtin (b := .append) (xs := #[.tmp 37, .tmp 39]) rfl ?_); at_builtin; refine Kd.R_append Kd.string (w0 := w) w.heap.size rfl (.tmp 37) (.tmp 39) 24 9 (.string ⟨#[]⟩) 16 rfl Tryd.underlying24 info9 rfl (by decide) (by omega) u3 x3_1 x4_1 [.string x4_1] (fun _ => True) (fun _ => False) rfl rfl ?aP (fun _ hk => hk.elim) ?aF ?aO ?aB ?aS ?aL ?_; (case aP => exact rfl); (case aB => exact (by repeat (first | (with_reducible first | exact HB.out | apply below_alloc | apply pw_below_drewN | apply below_drew1) | exact HB.out))); (case aF => exact (fun _ _ => trivial)); (case aO => exact (by (with_reducible repeat (first | apply Kd.R_alloc | apply Kd.R_drewN | apply Kd.R_drew)); exact HO_3.out)); (case aS => exact (below_size (by repeat (first | (with_reducible first | exact HB.out | apply below_alloc | apply pw_below_drewN | apply below_drew1) | exact HB.out)))); (case aL => have := LMc16.out; omega); intro v105 w17 ho hb hg hat; rw [← Ny104.out] at ho; have n0_ := Aside0.mk (hb); have n1_ := Aside0.mk (ho); clear HB; clear HO_3; have HB := n0_; have HO106 := n1_; clear n0_ n1_; clear ho hb hg hat))
                  go_roundg kj2
                  case measure => have := HK1.out; have := HJ2.out; omega
                  case rel => exact ⟨(y104), ((⟨#[]⟩ : ByteArray)), (wrap64 (x5_1 + 1)), (by first | rfl | (simp; done) | (simp [*]; done)), (by first | rfl | (simp; done) | (simp [*]; done)), H', ⟨by have := HK1.out; have := HJ2.out; omega⟩, ⟨by (with_reducible repeat (first | apply Kd.R_alloc | apply Kd.R_drewN | apply Kd.R_drew)); exact HO106.out⟩, ⟨by repeat (first | (with_reducible first | exact HB.out | apply below_alloc | apply pw_below_drewN | apply below_drew1) | exact HB.out)⟩⟩
                · rw [if_neg c16] at H
                  exact absurd H (by simp)
      · rw [if_neg c2] at H
        have c2b0 : decide (x5_1 < (a0.size : Int)) = false := decide_eq_false c2
        clear c2
        by_cases c18 : x4_1.toList = ([] : List UInt8)
        · rw [if_pos c18] at H
          have c18b0 : (x4_1.toList == ([] : List UInt8)) = true := beq_iff_eq.mpr c18
          have c18b1 : (x4_1.toList != ([] : List UInt8)) = false := bne_eq_false_iff_eq.mpr c18
          clear c18
          obtain rfl := Option.some.inj H
          go_wp2
          go_ret
          exact ⟨_, by first | rfl | (simp [errW_none, errW_some] <;> rfl) | (simp [*, errW_none, errW_some] <;> rfl), by (with_reducible repeat (first | apply Kd.R_alloc | apply Kd.R_drewN | apply Kd.R_drew)); exact HO_3.out, by repeat (first | (with_reducible first | exact HB.out | apply below_alloc | apply pw_below_drewN | apply below_drew1) | exact HB.out)⟩
        · rw [if_neg c18] at H
          have c18b0 : (x4_1.toList == ([] : List UInt8)) = false := beq_eq_false_iff_ne.mpr c18
          have c18b1 : (x4_1.toList != ([] : List UInt8)) = true := bne_iff_ne.mpr c18
          by_cases c19 : x3_1.length < 8796093022208
          · rw [if_pos c19] at H
            have LMc19 := Aside0.mk c19
            clear c19
            obtain ⟨y101, hy101⟩ : ∃ y_ : List ByteArray, y_ = (x3_1 ++ [x4_1]) := ⟨_, rfl⟩
            replace H : (some y101) = some r := by first | (rw [hy101]; with_reducible exact H) | (have H2_ := (Option.bind_some _ _).symm.trans H; rw [hy101]; with_reducible exact H2_) | (have H2_ := (Option.bind_some _ _).symm.trans H; with_reducible exact H2_) | with_reducible exact H | (rw [hy101]; exact H) | exact H
            have Ny101 := Aside0.mk hy101
            clear hy101
            obtain rfl := Option.some.inj H
            go_wp2_with (first | ((with_reducible refine gate_builtin (b := .append) (xs := #[.tmp 43, .tmp 45]) rfl ?_); at_builtin; refine Kd.R_append Kd.string (w0 := w) w.heap.size rfl (.tmp 43) (.tmp 45) 24 9 (.string ⟨#[]⟩) 16 rfl Tryd.underlying24 info9 rfl (by decide) (by omega) u3 x3_1 x4_1 [.string x4_1] (fun _ => True) (fun _ => False) rfl rfl ?aP (fun _ hk => hk.elim) ?aF ?aO ?aB ?aS ?aL ?_; (case aP => exact rfl); (case aB => exact (by repeat (first | (with_reducible first | exact HB.out | apply below_alloc | apply pw_below_drewN | apply below_drew1) | exact HB.out))); (case aF => exact (fun _ _ => trivial)); (case aO => exact (by (with_reducible repeat (first | apply Kd.R_alloc | apply Kd.R_drewN | apply Kd.R_drew)); exact HO_3.out)); (case aS => exact (below_size (by repeat (first | (with_reducible first | exact HB.out | apply below_alloc | apply pw_below_drewN | apply below_drew1) | exact HB.out)))); (case aL => have := LMc19.out; omega); intro v102 w20 ho hb hg hat; rw [← Ny101.out] at ho; have n0_ := Aside0.mk (hb); have n1_ := Aside0.mk (ho); clear HB; clear HO_3; have HB := n0_; have HO103 := n1_; clear n0_ n1_; clear ho hb hg hat))
            go_ret
            exact ⟨_, by first | rfl | (simp [errW_none, errW_some] <;> rfl) | (simp [*, errW_none, errW_some] <;> rfl), by (with_reducible repeat (first | apply Kd.R_alloc | apply Kd.R_drewN | apply Kd.R_drew)); exact HO103.out, by repeat (first | (with_reducible first | exact HB.out | apply below_alloc | apply pw_below_drewN | apply below_drew1) | exact HB.out)⟩
          · rw [if_neg c19] at H
            exact absurd H (by simp)

/-! ### spec_TermParts: function 31 -/
def spec_TermParts.f (a0 : ByteArray) : Option (Bool × ByteArray) := if (a0.size : Int) > 0 then (if 0 < (a0.size : Int) then (if (bt a0 0) = 33 then (if 1 ≤ (a0.size : Int) then (some (true, a0.extract 1 a0.size)) else (none)) else (some (false, a0))) else (none)) else (some (false, a0))
set_option maxHeartbeats 8000000 in
set_option maxRecDepth 100000 in
theorem spec_TermParts.calls (a0 : ByteArray) (r1 : Bool) (r2 : ByteArray) (w : World) (h : spec_TermParts.f a0 = some (r1, r2)) :
    Calls Tryd.prog 31 #[.string a0] w fun e w' => e = .returned (.tuple #[.bool r1, .string r2]) ∧ Drawn0 w w' := by
  have H : (if (a0.size : Int) > 0 then (if 0 < (a0.size : Int) then (if (bt a0 0) = 33 then (if 1 ≤ (a0.size : Int) then (some (true, a0.extract 1 a0.size)) else (none)) else (some (false, a0))) else (none)) else (some (false, a0))) = some (r1, r2) := h
  clear h
  by_cases c2 : (a0.size : Int) > 0
  · rw [if_pos c2] at H
    have c2b0 : decide (0 < (a0.size : Int)) = true := decide_eq_true c2
    have c2b1 : decide (0 < a0.size) = true := decide_eq_true (by omega)
    clear c2
    by_cases c3 : 0 < (a0.size : Int)
    · rw [if_pos c3] at H
      have c3b0 : decide (0 < (a0.size : Int)) = true := decide_eq_true c3
      have c3b1 : decide (0 < a0.size) = true := decide_eq_true (by omega)
      clear c3
      by_cases c5 : (bt a0 0) = 33
      · rw [if_pos c5] at H
        have c5b0 : ((bt a0 0) == 33) = true := beq_iff_eq.mpr c5
        have c5b1 : ((bt a0 0) != 33) = false := bne_eq_false_iff_eq.mpr c5
        clear c5
        by_cases c6 : 1 ≤ (a0.size : Int)
        · rw [if_pos c6] at H
          have c6b0 := eq_true c6
          have c6b1 : decide (1 ≤ (a0.size : Int)) = true := decide_eq_true c6
          clear c6
          simp only [Option.some.injEq, Prod.mk.injEq] at H
          obtain ⟨rfl, rfl⟩ := H
          have p4 : 0 ≤ (0 : Int) := (by omega)
          have q4 : 0 < a0.size := (by have : (0 : Int) < (a0.size : Int) := of_decide_eq_true (by first | (with_reducible assumption) | assumption); omega)
          have hx4 : ∀ h : 0 < a0.size, ((a0[0]'h).toNat : Int) = bt a0 0 := bt_at a0 0
          clear p4
          have qi4 : (0 < (a0.size : Int)) = True := eq_true (of_decide_eq_true (by first | (with_reducible assumption) | assumption))
          replace q4 := eq_true q4
          go_enter Tryd.func31, Tryd.ntmps31
          go_wp2
          repeat (go_quiet (fail); try go_wp2)
          go_ret2
          exact ⟨by first | rfl | (simp; done) | (simp [*]; done), by repeat (first | exact Drawn0.refl _ | apply Drawn0.step)⟩
        · rw [if_neg c6] at H
          exact absurd H (by simp)
      · rw [if_neg c5] at H
        have c5b0 : ((bt a0 0) == 33) = false := beq_eq_false_iff_ne.mpr c5
        have c5b1 : ((bt a0 0) != 33) = true := bne_iff_ne.mpr c5
        simp only [Option.some.injEq, Prod.mk.injEq] at H
        obtain ⟨rfl, rfl⟩ := H
        have p4 : 0 ≤ (0 : Int) := (by omega)
        have q4 : 0 < a0.size := (by have : (0 : Int) < (a0.size : Int) := of_decide_eq_true (by first | (with_reducible assumption) | assumption); omega)
        have hx4 : ∀ h : 0 < a0.size, ((a0[0]'h).toNat : Int) = bt a0 0 := bt_at a0 0
        clear p4
        have qi4 : (0 < (a0.size : Int)) = True := eq_true (of_decide_eq_true (by first | (with_reducible assumption) | assumption))
        replace q4 := eq_true q4
        go_enter Tryd.func31, Tryd.ntmps31
        go_wp2
        repeat (go_quiet (fail); try go_wp2)
        go_ret2
        exact ⟨by first | rfl | (simp; done) | (simp [*]; done), by repeat (first | exact Drawn0.refl _ | apply Drawn0.step)⟩
    · rw [if_neg c3] at H
      exact absurd H (by simp)
  · rw [if_neg c2] at H
    have c2b0 : decide (0 < (a0.size : Int)) = false := decide_eq_false c2
    have c2b1 : decide (0 < a0.size) = false := decide_eq_false (by omega)
    clear c2
    simp only [Option.some.injEq, Prod.mk.injEq] at H
    obtain ⟨rfl, rfl⟩ := H
    go_enter Tryd.func31, Tryd.ntmps31
    go_wp2
    repeat (go_quiet (fail); try go_wp2)
    go_ret2
    exact ⟨by first | rfl | (simp; done) | (simp [*]; done), by repeat (first | exact Drawn0.refl _ | apply Drawn0.step)⟩

end Go.Proofs.YtlmmjchdfngdgaaDoor.R
