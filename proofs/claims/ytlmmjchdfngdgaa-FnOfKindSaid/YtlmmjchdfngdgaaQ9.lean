-- Written by wip/drive.py (this claim's own program, over the kit's print).
import Derived.Test.YtlmmjchdfngdgaaQ0
import Derived.Test.YtlmmjchdfngdgaaQ7
import Derived.Test.YtlmmjchdfngdgaaQ8
import Derived.Test.YtlmmjchdfngdgaaGk
namespace Go.Proofs.Ytlmmjchdfngdgaa.Q
open Go.RowKit Go.Proofs.YtlmmjchdfngdgaaW.PrintWords Go.Proofs.YtlmmjchdfngdgaaW.PrintLast Go.Proofs.YtlmmjchdfngdgaaW.PrintMore
attribute [local go_sem] max2_int min2_int max_two min_two max_three min_three max_four min_four   -- for this text's walks alone
set_option linter.unusedVariables false
set_option linter.unusedSimpArgs false

/-! ### spec_Tidy: function 26 -/
mutual
def spec_Tidy.l0 : Nat → List (S95) → List (S95) → Int → Option ((List (S95)))
  | 0, _, _, _ => none
  | k + 1, x0, x3, x4 => if x4 < (x0.length : Int) then (spec_Tidy.l1 k x0 x3 x4 true (wrap64 (x4 + 1))) else (some x3)
def spec_Tidy.l1 : Nat → List (S95) → List (S95) → Int → Bool → Int → Option ((List (S95)))
  | 0, _, _, _, _, _ => none
  | k + 1, x0, x3, x4, x5, x6 => if x6 < (x0.length : Int) then (if x5 = true then (if 0 ≤ x6 then (if 0 ≤ x4 then (if x4 < (x0.length : Int) then (spec_Tidy.l1 k x0 x3 x4 (((rd_T95 x0 x6).f0) != ((rd_T95 x0 x4).f0)) (wrap64 (x6 + 1))) else (none)) else (none)) else (none)) else (spec_Tidy.l1 k x0 x3 x4 false (wrap64 (x6 + 1)))) else (if x5 = true then (if 0 ≤ x4 then (if x4 < (x0.length : Int) then ((spec_maskAdd.f k x3 ((rd_T95 x0 x4).f0) ((rd_T95 x0 x4).f1)).bind fun t262 => (spec_Tidy.l0 k x0 t262 (wrap64 (x4 + 1)))) else (none)) else (none)) else (spec_Tidy.l0 k x0 x3 (wrap64 (x4 + 1))))
end
def spec_Tidy.f (k : Nat) (l0 : List (S95)) : Option ((List (S95))) := spec_Tidy.l0 k l0 ([] : List (S95)) 0
theorem spec_Tidy.mono_l : ∀ k, (∀ y0 y1 y2, LeO (spec_Tidy.l0 k y0 y1 y2) (spec_Tidy.l0 (k + 1) y0 y1 y2)) ∧ (∀ y0 y1 y2 y3 y4, LeO (spec_Tidy.l1 k y0 y1 y2 y3 y4) (spec_Tidy.l1 (k + 1) y0 y1 y2 y3 y4))
  | 0 => ⟨fun _ _ _ r h => by simp [spec_Tidy.l0] at h, fun _ _ _ _ _ r h => by simp [spec_Tidy.l1] at h⟩
  | k + 1 => by
    obtain ⟨ih0, ih1⟩ := spec_Tidy.mono_l k
    refine ⟨?_, ?_⟩
    · intro y0 y1 y2
      unfold spec_Tidy.l0
      repeat' first
      | (with_reducible exact ih0 _ _ _)
      | (with_reducible exact ih1 _ _ _ _ _)
      | (with_reducible exact spec_maskAdd.mono _ _ _ _)
      | (with_reducible exact LeO.refl _)
      | (with_reducible exact LeO.none _)
      | (with_reducible refine LeO.ite ?_ ?_)
      | (with_reducible refine LeO.bind ?_ (fun _ => ?_))
      | exact ih0 _ _ _
      | exact ih1 _ _ _ _ _
      | exact spec_maskAdd.mono _ _ _ _
      | exact LeO.none _
      | refine LeO.ite ?_ ?_
      | refine LeO.bind ?_ (fun _ => ?_)
    · intro y0 y1 y2 y3 y4
      unfold spec_Tidy.l1
      repeat' first
      | (with_reducible exact ih0 _ _ _)
      | (with_reducible exact ih1 _ _ _ _ _)
      | (with_reducible exact spec_maskAdd.mono _ _ _ _)
      | (with_reducible exact LeO.refl _)
      | (with_reducible exact LeO.none _)
      | (with_reducible refine LeO.ite ?_ ?_)
      | (with_reducible refine LeO.bind ?_ (fun _ => ?_))
      | exact ih0 _ _ _
      | exact ih1 _ _ _ _ _
      | exact spec_maskAdd.mono _ _ _ _
      | exact LeO.none _
      | refine LeO.ite ?_ ?_
      | refine LeO.bind ?_ (fun _ => ?_)
theorem spec_Tidy.mono : ∀ a0 k, LeO (spec_Tidy.f k a0) (spec_Tidy.f (k + 1) a0) := by
  intro a0 k
  obtain ⟨ih0, ih1⟩ := spec_Tidy.mono_l k
  unfold spec_Tidy.f
  repeat' first
      | (with_reducible exact ih0 _ _ _)
      | (with_reducible exact ih1 _ _ _ _ _)
      | (with_reducible exact spec_maskAdd.mono _ _ _ _)
      | (with_reducible exact LeO.refl _)
      | (with_reducible exact LeO.none _)
      | (with_reducible refine LeO.ite ?_ ?_)
      | (with_reducible refine LeO.bind ?_ (fun _ => ?_))
      | exact ih0 _ _ _
      | exact ih1 _ _ _ _ _
      | exact spec_maskAdd.mono _ _ _ _
      | exact LeO.none _
      | refine LeO.ite ?_ ?_
      | refine LeO.bind ?_ (fun _ => ?_)
def spec_Tidy.T9 : Bool × List (List Nat × List Nat) := (true, [([], []), ([0], [0]), ([1], [1]), ([1], [1]), ([2, 3, 1], [1, 2, 3]), ([4, 1], [1, 4]), ([5, 1], [1, 5]), ([1], [1]), ([1], [1]), ([7, 8, 1], [1, 7, 8]), ([9, 1], [1, 9]), ([10, 1], [1, 10]), ([6, 11, 1], [1, 6, 11]), ([1, 12], [1, 12]), ([13, 1, 0, 1, 2, 3, 4, 5, 6, 7, 8, 9, 10, 11, 12, 13], [0, 13])])
def spec_Tidy.B9 : List Nat := [0, 1, 3, 3, 15, 31, 63, 3, 3, 387, 899, 1923, 4095, 8191, 16383]
theorem spec_Tidy.tab9 : rtab .any (opsOf Try.f26 9) = spec_Tidy.T9 := by kernel_rfl
theorem spec_Tidy.bits9 : waitsOk spec_Tidy.T9.2 spec_Tidy.B9 = true := by kernel_rfl
def spec_Tidy.T11 : Bool × List (List Nat × List Nat) := (true, [([], []), ([], []), ([], []), ([1, 2], [1, 2]), ([3], [3]), ([4], [4]), ([], []), ([], []), ([6, 7], [6, 7]), ([8], [8]), ([9], [9]), ([0, 5, 10], [0, 5, 10]), ([11, 11, 0, 1, 2, 3, 4, 5, 6, 7, 8, 9, 10, 11], [0, 11])])
def spec_Tidy.B11 : List Nat := [0, 0, 0, 6, 14, 30, 0, 0, 192, 448, 960, 2047, 4095]
theorem spec_Tidy.tab11 : rtab .any (opsOf Try.f26 11) = spec_Tidy.T11 := by kernel_rfl
theorem spec_Tidy.bits11 : waitsOk spec_Tidy.T11.2 spec_Tidy.B11 = true := by kernel_rfl
set_option maxHeartbeats 8000000 in
set_option maxRecDepth 100000 in
theorem spec_Tidy.calls (k : Nat) (A0 : Option Addr) (c0 : Nat) (l0 : List (S95)) (r : List (S95)) (w : World) (hr0 : Kd.C k95 w A0 l0.length l0) (hc0 : l0.length ≤ c0) (h : spec_Tidy.f k l0 = some r) :
    Calls Try.prog 26 #[.slice A0 l0.length c0] w fun e w' => ∃ v0_ : Value, e = .returned (v0_) ∧ Kd.R k95 95 w' w.heap.size (fun _ => True) v0_ r ∧ Below w.heap.size w w' := by
  have HR0 := Aside0.mk hr0
  have HC0 := Aside0.mk hc0
  clear hr0 hc0
  have HB := Aside0.mk (Below.refl w.heap.size w)
  have H : (spec_Tidy.l0 k l0 ([] : List (S95)) 0) = some r := h
  clear h
  have H' := Aside0.mk H
  clear H
  go_enter Try.func26, Try.ntmps26
  go_wp2
  go_loopg [3, 4] k (fun kq v3 v4 w' => ∃ (x3_1 : List (S95)) (x4_1 : Int), v4 = .int .i64 x4_1 ∧ Aside0 (spec_Tidy.l0 kq l0 x3_1 x4_1 = some r) ∧ Aside0 (kq ≤ k) ∧ Aside0 (Kd.R k95 95 w' w.heap.size (fun _ => True) v3 x3_1) ∧ Aside0 (Below w.heap.size w w'))
  case atStart => exact ⟨(([] : List (S95))), (0), (by first | rfl | (simp; done) | (simp [*]; done)), H', ⟨Nat.le_refl _⟩, ⟨by first | exact Kd.R_nil _ _ _ _ _ | exact Kd.N_nil _ _ _ _ _ | exact Kd.V_nil _ _ _ _ _ | exact Kd.Q_nil _ _ _ _ _ | exact Kd.S_nil _ _ _ _ _⟩, ⟨by repeat (first | (with_reducible first | exact HB.out | apply below_alloc | apply pw_below_drewN | apply below_drew1) | exact HB.out)⟩⟩
  case round =>
    clear H'
    obtain ⟨x3_1, x4_1, rfl, HA, HK1, HO_3, HB⟩ := hrel
    cases gk with
    | zero => exact absurd HA.out (by simp [spec_Tidy.l0])
    | succ k1 =>
      have H := HA.out
      clear HA
      simp only [spec_Tidy.l0] at H
      by_cases c2 : x4_1 < (l0.length : Int)
      · rw [if_pos c2] at H
        have c2b0 : decide (x4_1 < (l0.length : Int)) = true := decide_eq_true c2
        clear c2
        have H' := Aside0.mk H
        clear H
        go_wp2
        go_loopg [5, 6] k1 (fun kq v5 v6 w' => ∃ (x5_2 : Bool) (x6_2 : Int), v5 = .bool x5_2 ∧ v6 = .int .i64 x6_2 ∧ Aside0 (spec_Tidy.l1 kq l0 x3_1 x4_1 x5_2 x6_2 = some r) ∧ Aside0 (kq ≤ k1) ∧ Aside0 (Kd.R k95 95 w' w.heap.size (fun _ => True) u3 x3_1) ∧ Aside0 (Below w.heap.size w w'))
        case atStart => exact ⟨(true), (wrap64 (x4_1 + 1)), (by first | rfl | (simp; done) | (simp [*]; done)), (by first | rfl | (simp; done) | (simp [*]; done)), H', ⟨Nat.le_refl _⟩, ⟨by (with_reducible repeat (first | apply Kd.R_alloc | apply Kd.R_drewN | apply Kd.R_drew)); exact HO_3.out⟩, ⟨by repeat (first | (with_reducible first | exact HB.out | apply below_alloc | apply pw_below_drewN | apply below_drew1) | exact HB.out)⟩⟩
        case round =>
          clear H'
          try clear c2
          try clear c2b0
          try clear p2
          obtain ⟨x5_2, x6_2, rfl, rfl, HA, HK2, HO_3, HB⟩ := hrel
          cases gk with
          | zero => exact absurd HA.out (by simp [spec_Tidy.l1])
          | succ k2 =>
            have H := HA.out
            clear HA
            simp only [spec_Tidy.l1] at H
            by_cases c3 : x6_2 < (l0.length : Int)
            · rw [if_pos c3] at H
              have c3b0 : decide (x6_2 < (l0.length : Int)) = true := decide_eq_true c3
              clear c3
              by_cases c4 : x5_2 = true
              · subst c4
                have H1 : (if 0 ≤ x6_2 then (if 0 ≤ x4_1 then (if x4_1 < (l0.length : Int) then (spec_Tidy.l1 k2 l0 x3_1 x4_1 (((rd_T95 l0 x6_2).f0) != ((rd_T95 l0 x4_1).f0)) (wrap64 (x6_2 + 1))) else (none)) else (none)) else (none)) = some r := by rw [if_pos rfl] at H; exact H
                clear H
                have H := H1
                clear H1
                by_cases c5 : 0 ≤ x6_2
                · rw [if_pos c5] at H
                  have c5b0 : decide (0 ≤ x6_2) = true := decide_eq_true c5
                  clear c5
                  by_cases c6 : 0 ≤ x4_1
                  · rw [if_pos c6] at H
                    have c6b0 : decide (0 ≤ x4_1) = true := decide_eq_true c6
                    clear c6
                    by_cases c7 : x4_1 < (l0.length : Int)
                    · rw [if_pos c7] at H
                      have c7b0 : decide (x4_1 < (l0.length : Int)) = true := decide_eq_true c7
                      clear c7
                      have H' := Aside0.mk H
                      clear H
                      try go_wp2
                      have n0_ := Aside0.mk (Kd.R_drew HO_3.out)
                      have n1_ := Aside0.mk (below_drew1 HB.out)
                      clear HO_3
                      clear HB
                      have HO_3 := n0_
                      have HB := n1_
                      clear n0_ n1_
                      have p258 : 0 ≤ (x6_2 : Int) := of_decide_eq_true (by first | (with_reducible assumption) | assumption)
                      have q258 : x6_2 < (l0.length : Int) := of_decide_eq_true (by first | (with_reducible assumption) | assumption)
                      obtain ⟨ad258, e258, hx258_0, hx258_1⟩ := at_T95 HR0.out x6_2 p258 q258
                      have hw258_1 := hx258_1
                      have hw258_0 := hx258_0
                      cases e258
                      replace hx258_0 := (HB.out.cell (World.block_lt_of_cell? w _ hx258_0)).trans hx258_0
                      replace hx258_1 := (HB.out.cell (World.block_lt_of_cell? w _ hx258_1)).trans hx258_1
                      replace p258 := eq_true p258
                      replace q258 := eq_true q258
                      have p259 : 0 ≤ (x4_1 : Int) := of_decide_eq_true (by first | (with_reducible assumption) | assumption)
                      have q259 : x4_1 < (l0.length : Int) := of_decide_eq_true (by first | (with_reducible assumption) | assumption)
                      obtain ⟨ad259, e259, hx259_0, hx259_1⟩ := at_T95 HR0.out x4_1 p259 q259
                      have hw259_1 := hx259_1
                      have hw259_0 := hx259_0
                      obtain rfl : ad258 = ad259 := (by injection e259)
                      replace hx259_0 := (HB.out.cell (World.block_lt_of_cell? w _ hx259_0)).trans hx259_0
                      replace hx259_1 := (HB.out.cell (World.block_lt_of_cell? w _ hx259_1)).trans hx259_1
                      replace p259 := eq_true p259
                      replace q259 := eq_true q259
                      refine start_ (n := 15) (S := fun w' => w'.cell? (ad258.add ((x6_2).toNat * 2)) = some (.int .u32 ((rd_T95 l0 x6_2).f0)) ∧ w'.cell? ⟨(ad258.add ((x6_2).toNat * 2)).block, (ad258.add ((x6_2).toNat * 2)).off + 1, none⟩ = some (.int .u16 ((rd_T95 l0 x6_2).f1)) ∧ w'.cell? (ad258.add ((x4_1).toNat * 2)) = some (.int .u32 ((rd_T95 l0 x4_1).f0)) ∧ w'.cell? ⟨(ad258.add ((x4_1).toNat * 2)).block, (ad258.add ((x4_1).toNat * 2)).off + 1, none⟩ = some (.int .u16 ((rd_T95 l0 x4_1).f1))) (ds := []) #[false, false, false, false, false, false, false, false, false, false, false, false, false, false, false] (by kernel_rfl) rfl rfl ⟨((HB.out.cell (World.block_lt_of_cell? w _ hw258_0)).trans hw258_0), ((HB.out.cell (World.block_lt_of_cell? w _ hw258_1)).trans hw258_1), ((HB.out.cell (World.block_lt_of_cell? w _ hw259_0)).trans hw259_0), ((HB.out.cell (World.block_lt_of_cell? w _ hw259_1)).trans hw259_1)⟩ (fun hHeld => ?_); refine with_tabW spec_Tidy.tab9 spec_Tidy.bits9 (fun HT_ HW_ => ?_)
                      generalize wr.drew = w8 at HO_3 HB hx258_0 hx258_1 hx259_0 hx259_1 hHeld ⊢
                      refine pure_ (i := 0) (N := some 21) (v := ?_) (a' := ?_) #[true, false, false, false, false, false, false, false, false, false, false, false, false, false, false] rfl rfl (any_of HT_.out (by kernel_rfl)) (fun _ _ _ h => h) (Or.inl ⟨by rfl, ?_⟩) ?_ ?_
                      rotate_left
                      · intro w'
                        go_simp
                        with_reducible rfl
                      rotate_left
                      · simp only [Act.put, List.setIfInBounds_toArray, List.set_cons_zero, List.set_cons_succ, i64_w, i32_w]
                        rfl
                      refine pure_ (i := 1) (N := some 22) (v := ?_) (a' := ?_) #[true, true, false, false, false, false, false, false, false, false, false, false, false, false, false] rfl rfl (any_of HT_.out (by kernel_rfl)) (fun _ _ _ h => h) (Or.inl ⟨by rfl, ?_⟩) ?_ ?_
                      rotate_left
                      · intro w'
                        go_simp
                        with_reducible rfl
                      rotate_left
                      · simp only [Act.put, List.setIfInBounds_toArray, List.set_cons_zero, List.set_cons_succ, i64_w, i32_w]
                        rfl
                      refine pure_ (i := 2) (N := some 23) (v := ?_) (a' := ?_) #[true, true, true, false, false, false, false, false, false, false, false, false, false, false, false] rfl rfl (any_of HT_.out (by kernel_rfl)) (fun _ _ _ h => h) (Or.inl ⟨by rfl, ?_⟩) ?_ ?_
                      rotate_left
                      · intro w'
                        go_simp
                        with_reducible rfl
                      rotate_left
                      · simp only [Act.put, List.setIfInBounds_toArray, List.set_cons_zero, List.set_cons_succ, i64_w, i32_w]
                        rfl
                      refine pure_ (i := 3) (N := some 24) (v := ?_) (a' := ?_) #[true, true, true, true, false, false, false, false, false, false, false, false, false, false, false] rfl rfl (any_of HT_.out (by kernel_rfl)) (fun _ _ _ h => h) (Or.inl ⟨by rfl, ?_⟩) ?_ ?_
                      rotate_left
                      · intro w'
                        go_simp
                        with_reducible rfl
                      rotate_left
                      · simp only [Act.put, List.setIfInBounds_toArray, List.set_cons_zero, List.set_cons_succ, i64_w, i32_w]
                        rfl
                      refine pure_ (i := 4) (N := some 25) (v := ?_) (a' := ?_) #[true, true, true, true, true, false, false, false, false, false, false, false, false, false, false] rfl rfl (any_of HT_.out (by kernel_rfl)) (fun _ _ _ h => h) (Or.inl ⟨by rfl, ?_⟩) ?_ ?_
                      rotate_left
                      · intro w'
                        go_simp
                        with_reducible rfl
                      rotate_left
                      · simp only [Act.put, List.setIfInBounds_toArray, List.set_cons_zero, List.set_cons_succ, i64_w, i32_w]
                        rfl
                      refine pure_ (i := 5) (N := some 26) (v := ?_) (a' := ?_) #[true, true, true, true, true, true, false, false, false, false, false, false, false, false, false] rfl rfl (any_of HT_.out (by kernel_rfl)) (fun _ _ _ h => h) (Or.inl ⟨by rfl, ?_⟩) ?_ ?_
                      rotate_left
                      · intro w'
                        go_simp
                        with_reducible rfl
                      rotate_left
                      · simp only [Act.put, List.setIfInBounds_toArray, List.set_cons_zero, List.set_cons_succ, i64_w, i32_w]
                        rfl
                      refine pure_ (i := 7) (N := some 28) (v := ?_) (a' := ?_) #[true, true, true, true, true, true, false, true, false, false, false, false, false, false, false] rfl rfl (any_of HT_.out (by kernel_rfl)) (fun _ _ _ h => h) (Or.inl ⟨by rfl, ?_⟩) ?_ ?_
                      rotate_left
                      · intro w'
                        go_simp
                        with_reducible rfl
                      rotate_left
                      · simp only [Act.put, List.setIfInBounds_toArray, List.set_cons_zero, List.set_cons_succ, i64_w, i32_w]
                        rfl
                      refine pure_ (i := 8) (N := some 29) (v := ?_) (a' := ?_) #[true, true, true, true, true, true, false, true, true, false, false, false, false, false, false] rfl rfl (any_of HT_.out (by kernel_rfl)) (fun _ _ _ h => h) (Or.inl ⟨by rfl, ?_⟩) ?_ ?_
                      rotate_left
                      · intro w'
                        go_simp
                        with_reducible rfl
                      rotate_left
                      · simp only [Act.put, List.setIfInBounds_toArray, List.set_cons_zero, List.set_cons_succ, i64_w, i32_w]
                        rfl
                      refine pure_ (i := 9) (N := some 30) (v := ?_) (a' := ?_) #[true, true, true, true, true, true, false, true, true, true, false, false, false, false, false] rfl rfl (any_of HT_.out (by kernel_rfl)) (fun _ _ _ h => h) (Or.inl ⟨by rfl, ?_⟩) ?_ ?_
                      rotate_left
                      · intro w'
                        go_simp
                        with_reducible rfl
                      rotate_left
                      · simp only [Act.put, List.setIfInBounds_toArray, List.set_cons_zero, List.set_cons_succ, i64_w, i32_w]
                        rfl
                      refine pure_ (i := 10) (N := some 31) (v := ?_) (a' := ?_) #[true, true, true, true, true, true, false, true, true, true, true, false, false, false, false] rfl rfl (any_of HT_.out (by kernel_rfl)) (fun _ _ _ h => h) (Or.inl ⟨by rfl, ?_⟩) ?_ ?_
                      rotate_left
                      · intro w'
                        go_simp
                        with_reducible rfl
                      rotate_left
                      · simp only [Act.put, List.setIfInBounds_toArray, List.set_cons_zero, List.set_cons_succ, i64_w, i32_w]
                        rfl
                      refine take_ (i := 6) (N := some 27) (v := ?_) (a' := ?_) #[true, true, true, true, true, true, true, true, true, true, true, false, false, false, false] rfl rfl (take_ofW HT_.out HW_.out (by kernel_rfl)) (fun _ _ _ h => h) (Or.inl ⟨by rfl, ?_⟩) hHeld ?_ ?_
                      rotate_left
                      · rintro w' ⟨s0, s1, s2, s3⟩
                        go_simp
                        with_reducible rfl
                      rotate_left
                      · simp only [Act.put, List.setIfInBounds_toArray, List.set_cons_zero, List.set_cons_succ, i64_w, i32_w]
                        rfl
                      refine take_ (i := 11) (N := some 32) (v := ?_) (a' := ?_) #[true, true, true, true, true, true, true, true, true, true, true, true, false, false, false] rfl rfl (take_ofW HT_.out HW_.out (by kernel_rfl)) (fun _ _ _ h => h) (Or.inl ⟨by rfl, ?_⟩) hHeld ?_ ?_
                      rotate_left
                      · rintro w' ⟨s0, s1, s2, s3⟩
                        go_simp
                        with_reducible rfl
                      rotate_left
                      · simp only [Act.put, List.setIfInBounds_toArray, List.set_cons_zero, List.set_cons_succ, i64_w, i32_w]
                        rfl
                      refine pure_ (i := 12) (N := some 33) (v := ?_) (a' := ?_) #[true, true, true, true, true, true, true, true, true, true, true, true, true, false, false] rfl rfl (any_of HT_.out (by kernel_rfl)) (fun _ _ _ h => h) (Or.inl ⟨by rfl, ?_⟩) ?_ ?_
                      rotate_left
                      · intro w'
                        go_simp
                        with_reducible rfl
                      rotate_left
                      · simp only [Act.put, List.setIfInBounds_toArray, List.set_cons_zero, List.set_cons_succ, i64_w, i32_w]
                        rfl
                      refine pure_ (i := 13) (N := some 34) (v := ?_) (a' := ?_) #[true, true, true, true, true, true, true, true, true, true, true, true, true, true, false] rfl rfl (any_of HT_.out (by kernel_rfl)) (fun _ _ _ h => h) (Or.inl ⟨by rfl, ?_⟩) ?_ ?_
                      rotate_left
                      · intro w'
                        go_simp
                        with_reducible rfl
                      rotate_left
                      · simp only [Act.put, List.setIfInBounds_toArray, List.set_cons_zero, List.set_cons_succ, i64_w, i32_w]
                        rfl
                      refine pure_ (i := 14) (N := some 5) (v := ?_) (a' := ?_) #[true, true, true, true, true, true, true, true, true, true, true, true, true, true, true] rfl rfl (any_of HT_.out (by kernel_rfl)) (fun _ _ _ h => h) (Or.inl ⟨by rfl, ?_⟩) ?_ ?_
                      rotate_left
                      · intro w'
                        go_simp
                        with_reducible rfl
                      rotate_left
                      · simp only [Act.put, List.setIfInBounds_toArray, List.set_cons_zero, List.set_cons_succ, i64_w, i32_w]
                        rfl
                      refine done_ (done_of HT_.out (by kernel_rfl)) ?_
                      try go_wp2
                      go_roundg k2
                      case measure => have := HK1.out; have := HK2.out; omega
                      case rel => exact ⟨((((rd_T95 l0 x6_2).f0) != ((rd_T95 l0 x4_1).f0))), (wrap64 (x6_2 + 1)), (by first | rfl | (simp; done) | (simp [*]; done)), (by first | rfl | (simp; done) | (simp [*]; done)), H', ⟨by have := HK1.out; have := HK2.out; omega⟩, ⟨by (with_reducible repeat (first | apply Kd.R_alloc | apply Kd.R_drewN | apply Kd.R_drew)); exact HO_3.out⟩, ⟨by repeat (first | (with_reducible first | exact HB.out | apply below_alloc | apply pw_below_drewN | apply below_drew1) | exact HB.out)⟩⟩
                    · rw [if_neg c7] at H
                      exact absurd H (by simp)
                  · rw [if_neg c6] at H
                    exact absurd H (by simp)
                · rw [if_neg c5] at H
                  exact absurd H (by simp)
              · replace c4 := Bool.eq_false_iff.mpr c4
                subst c4
                have H1 : (spec_Tidy.l1 k2 l0 x3_1 x4_1 false (wrap64 (x6_2 + 1))) = some r := by rw [if_neg (show ¬ (false = true) by decide)] at H; exact H
                clear H
                have H := H1
                clear H1
                have H' := Aside0.mk H
                clear H
                try go_wp2
                have n0_ := Aside0.mk (Kd.R_drew HO_3.out)
                have n1_ := Aside0.mk (below_drew1 HB.out)
                clear HO_3
                clear HB
                have HO_3 := n0_
                have HB := n1_
                clear n0_ n1_
                refine start_ (n := 15) (S := fun w' => True) (ds := []) #[false, false, false, false, false, false, false, false, false, false, false, false, false, false, false] (by kernel_rfl) rfl rfl trivial (fun hHeld => ?_); refine with_tabW spec_Tidy.tab9 spec_Tidy.bits9 (fun HT_ HW_ => ?_)
                generalize wr.drew = w9 at HO_3 HB hHeld ⊢
                refine pure_ (i := 0) (N := some 21) (v := ?_) (a' := ?_) #[true, false, false, false, false, false, false, false, false, false, false, false, false, false, false] rfl rfl (any_of HT_.out (by kernel_rfl)) (fun _ _ _ h => h) (Or.inl ⟨by rfl, ?_⟩) ?_ ?_
                rotate_left
                · intro w'
                  go_simp
                  with_reducible rfl
                rotate_left
                · simp only [Act.put, List.setIfInBounds_toArray, List.set_cons_zero, List.set_cons_succ, i64_w, i32_w]
                  rfl
                refine pure_ (i := 1) (N := some 22) (v := ?_) (a' := ?_) #[true, true, false, false, false, false, false, false, false, false, false, false, false, false, false] rfl rfl (any_of HT_.out (by kernel_rfl)) (fun _ _ _ h => h) (Or.inl ⟨by rfl, ?_⟩) ?_ ?_
                rotate_left
                · intro w'
                  go_simp
                  with_reducible rfl
                rotate_left
                · simp only [Act.put, List.setIfInBounds_toArray, List.set_cons_zero, List.set_cons_succ, i64_w, i32_w]
                  rfl
                refine pure_ (i := 2) (N := some 23) (v := undef) (a' := ?_) #[true, true, true, false, false, false, false, false, false, false, false, false, false, false, false] rfl rfl (any_of HT_.out (by kernel_rfl)) (fun _ _ _ h => h) (Or.inr ⟨by rfl, rfl⟩) ?_ ?_
                rotate_left
                · simp only [Act.put, List.setIfInBounds_toArray, List.set_cons_zero, List.set_cons_succ, i64_w, i32_w]
                  rfl
                refine pure_ (i := 3) (N := some 24) (v := undef) (a' := ?_) #[true, true, true, true, false, false, false, false, false, false, false, false, false, false, false] rfl rfl (any_of HT_.out (by kernel_rfl)) (fun _ _ _ h => h) (Or.inr ⟨by rfl, rfl⟩) ?_ ?_
                rotate_left
                · simp only [Act.put, List.setIfInBounds_toArray, List.set_cons_zero, List.set_cons_succ, i64_w, i32_w]
                  rfl
                refine pure_ (i := 4) (N := some 25) (v := undef) (a' := ?_) #[true, true, true, true, true, false, false, false, false, false, false, false, false, false, false] rfl rfl (any_of HT_.out (by kernel_rfl)) (fun _ _ _ h => h) (Or.inr ⟨by rfl, rfl⟩) ?_ ?_
                rotate_left
                · simp only [Act.put, List.setIfInBounds_toArray, List.set_cons_zero, List.set_cons_succ, i64_w, i32_w]
                  rfl
                refine pure_ (i := 5) (N := some 26) (v := undef) (a' := ?_) #[true, true, true, true, true, true, false, false, false, false, false, false, false, false, false] rfl rfl (any_of HT_.out (by kernel_rfl)) (fun _ _ _ h => h) (Or.inr ⟨by rfl, rfl⟩) ?_ ?_
                rotate_left
                · simp only [Act.put, List.setIfInBounds_toArray, List.set_cons_zero, List.set_cons_succ, i64_w, i32_w]
                  rfl
                refine pure_ (i := 6) (N := some 27) (v := undef) (a' := ?_) #[true, true, true, true, true, true, true, false, false, false, false, false, false, false, false] rfl rfl (any_of HT_.out (by kernel_rfl)) (fun _ _ _ h => h) (Or.inr ⟨by rfl, rfl⟩) ?_ ?_
                rotate_left
                · simp only [Act.put, List.setIfInBounds_toArray, List.set_cons_zero, List.set_cons_succ, i64_w, i32_w]
                  rfl
                refine pure_ (i := 7) (N := some 28) (v := undef) (a' := ?_) #[true, true, true, true, true, true, true, true, false, false, false, false, false, false, false] rfl rfl (any_of HT_.out (by kernel_rfl)) (fun _ _ _ h => h) (Or.inr ⟨by rfl, rfl⟩) ?_ ?_
                rotate_left
                · simp only [Act.put, List.setIfInBounds_toArray, List.set_cons_zero, List.set_cons_succ, i64_w, i32_w]
                  rfl
                refine pure_ (i := 8) (N := some 29) (v := undef) (a' := ?_) #[true, true, true, true, true, true, true, true, true, false, false, false, false, false, false] rfl rfl (any_of HT_.out (by kernel_rfl)) (fun _ _ _ h => h) (Or.inr ⟨by rfl, rfl⟩) ?_ ?_
                rotate_left
                · simp only [Act.put, List.setIfInBounds_toArray, List.set_cons_zero, List.set_cons_succ, i64_w, i32_w]
                  rfl
                refine pure_ (i := 9) (N := some 30) (v := undef) (a' := ?_) #[true, true, true, true, true, true, true, true, true, true, false, false, false, false, false] rfl rfl (any_of HT_.out (by kernel_rfl)) (fun _ _ _ h => h) (Or.inr ⟨by rfl, rfl⟩) ?_ ?_
                rotate_left
                · simp only [Act.put, List.setIfInBounds_toArray, List.set_cons_zero, List.set_cons_succ, i64_w, i32_w]
                  rfl
                refine pure_ (i := 10) (N := some 31) (v := undef) (a' := ?_) #[true, true, true, true, true, true, true, true, true, true, true, false, false, false, false] rfl rfl (any_of HT_.out (by kernel_rfl)) (fun _ _ _ h => h) (Or.inr ⟨by rfl, rfl⟩) ?_ ?_
                rotate_left
                · simp only [Act.put, List.setIfInBounds_toArray, List.set_cons_zero, List.set_cons_succ, i64_w, i32_w]
                  rfl
                refine pure_ (i := 11) (N := some 32) (v := undef) (a' := ?_) #[true, true, true, true, true, true, true, true, true, true, true, true, false, false, false] rfl rfl (any_of HT_.out (by kernel_rfl)) (fun _ _ _ h => h) (Or.inr ⟨by rfl, rfl⟩) ?_ ?_
                rotate_left
                · simp only [Act.put, List.setIfInBounds_toArray, List.set_cons_zero, List.set_cons_succ, i64_w, i32_w]
                  rfl
                refine pure_ (i := 12) (N := some 33) (v := undef) (a' := ?_) #[true, true, true, true, true, true, true, true, true, true, true, true, true, false, false] rfl rfl (any_of HT_.out (by kernel_rfl)) (fun _ _ _ h => h) (Or.inr ⟨by rfl, rfl⟩) ?_ ?_
                rotate_left
                · simp only [Act.put, List.setIfInBounds_toArray, List.set_cons_zero, List.set_cons_succ, i64_w, i32_w]
                  rfl
                refine pure_ (i := 13) (N := some 34) (v := ?_) (a' := ?_) #[true, true, true, true, true, true, true, true, true, true, true, true, true, true, false] rfl rfl (any_of HT_.out (by kernel_rfl)) (fun _ _ _ h => h) (Or.inl ⟨by rfl, ?_⟩) ?_ ?_
                rotate_left
                · intro w'
                  go_simp
                  with_reducible rfl
                rotate_left
                · simp only [Act.put, List.setIfInBounds_toArray, List.set_cons_zero, List.set_cons_succ, i64_w, i32_w]
                  rfl
                refine pure_ (i := 14) (N := some 5) (v := ?_) (a' := ?_) #[true, true, true, true, true, true, true, true, true, true, true, true, true, true, true] rfl rfl (any_of HT_.out (by kernel_rfl)) (fun _ _ _ h => h) (Or.inl ⟨by rfl, ?_⟩) ?_ ?_
                rotate_left
                · intro w'
                  go_simp
                  with_reducible rfl
                rotate_left
                · simp only [Act.put, List.setIfInBounds_toArray, List.set_cons_zero, List.set_cons_succ, i64_w, i32_w]
                  rfl
                refine done_ (done_of HT_.out (by kernel_rfl)) ?_
                try go_wp2
                go_roundg k2
                case measure => have := HK1.out; have := HK2.out; omega
                case rel => exact ⟨(false), (wrap64 (x6_2 + 1)), (by first | rfl | (simp; done) | (simp [*]; done)), (by first | rfl | (simp; done) | (simp [*]; done)), H', ⟨by have := HK1.out; have := HK2.out; omega⟩, ⟨by (with_reducible repeat (first | apply Kd.R_alloc | apply Kd.R_drewN | apply Kd.R_drew)); exact HO_3.out⟩, ⟨by repeat (first | (with_reducible first | exact HB.out | apply below_alloc | apply pw_below_drewN | apply below_drew1) | exact HB.out)⟩⟩
            · rw [if_neg c3] at H
              have c3b0 : decide (x6_2 < (l0.length : Int)) = false := decide_eq_false c3
              clear c3
              by_cases c10 : x5_2 = true
              · subst c10
                have H1 : (if 0 ≤ x4_1 then (if x4_1 < (l0.length : Int) then ((spec_maskAdd.f k2 x3_1 ((rd_T95 l0 x4_1).f0) ((rd_T95 l0 x4_1).f1)).bind fun t262 => (spec_Tidy.l0 k2 l0 t262 (wrap64 (x4_1 + 1)))) else (none)) else (none)) = some r := by rw [if_pos rfl] at H; exact H
                clear H
                have H := H1
                clear H1
                by_cases c11 : 0 ≤ x4_1
                · rw [if_pos c11] at H
                  have c11b0 : decide (0 ≤ x4_1) = true := decide_eq_true c11
                  clear c11
                  by_cases c12 : x4_1 < (l0.length : Int)
                  · rw [if_pos c12] at H
                    have c12b0 : decide (x4_1 < (l0.length : Int)) = true := decide_eq_true c12
                    clear c12
                    replace H := Option.bind_eq_some_iff.mp H
                    obtain ⟨t262, A130, H⟩ := H
                    replace H : (spec_Tidy.l0 k2 l0 t262 (wrap64 (x4_1 + 1))) = some r := H
                    have A13 := Aside0.mk A130
                    clear A130
                    have H' := Aside0.mk H
                    clear H
                    try go_wp2
                    have n0_ := Aside0.mk (Kd.R_drew HO_3.out)
                    have n1_ := Aside0.mk (below_drew1 HB.out)
                    clear HO_3
                    clear HB
                    have HO_3 := n0_
                    have HB := n1_
                    clear n0_ n1_
                    have p260 : 0 ≤ (x4_1 : Int) := of_decide_eq_true (by first | (with_reducible assumption) | assumption)
                    have q260 : x4_1 < (l0.length : Int) := of_decide_eq_true (by first | (with_reducible assumption) | assumption)
                    obtain ⟨ad260, e260, hx260_0, hx260_1⟩ := at_T95 HR0.out x4_1 p260 q260
                    have hw260_1 := hx260_1
                    have hw260_0 := hx260_0
                    cases e260
                    replace hx260_0 := (HB.out.cell (World.block_lt_of_cell? w _ hx260_0)).trans hx260_0
                    replace hx260_1 := (HB.out.cell (World.block_lt_of_cell? w _ hx260_1)).trans hx260_1
                    replace p260 := eq_true p260
                    replace q260 := eq_true q260
                    have p261 : 0 ≤ (x4_1 : Int) := of_decide_eq_true (by first | (with_reducible assumption) | assumption)
                    have q261 : x4_1 < (l0.length : Int) := of_decide_eq_true (by first | (with_reducible assumption) | assumption)
                    obtain ⟨ad261, e261, hx261_0, hx261_1⟩ := at_T95 HR0.out x4_1 p261 q261
                    have hw261_1 := hx261_1
                    have hw261_0 := hx261_0
                    obtain rfl : ad260 = ad261 := (by injection e261)
                    replace hx261_0 := (HB.out.cell (World.block_lt_of_cell? w _ hx261_0)).trans hx261_0
                    replace hx261_1 := (HB.out.cell (World.block_lt_of_cell? w _ hx261_1)).trans hx261_1
                    replace p261 := eq_true p261
                    replace q261 := eq_true q261
                    obtain ⟨Ao15, co15, eo15⟩ := Kd.R_slice HO_3.out
                    (first | subst eo15 | (injection eo15 with f1_ f2_ f3_; have f4_ := f1_.symm; have f5_ := f3_.symm; clear f1_ f2_ f3_; subst f4_; subst f5_))
                    refine start_ (n := 13) (S := fun w' => w'.cell? (ad260.add ((x4_1).toNat * 2)) = some (.int .u32 ((rd_T95 l0 x4_1).f0)) ∧ w'.cell? ⟨(ad260.add ((x4_1).toNat * 2)).block, (ad260.add ((x4_1).toNat * 2)).off + 1, none⟩ = some (.int .u16 ((rd_T95 l0 x4_1).f1)) ∧ w'.cell? (ad260.add ((x4_1).toNat * 2)) = some (.int .u32 ((rd_T95 l0 x4_1).f0)) ∧ w'.cell? ⟨(ad260.add ((x4_1).toNat * 2)).block, (ad260.add ((x4_1).toNat * 2)).off + 1, none⟩ = some (.int .u16 ((rd_T95 l0 x4_1).f1))) (ds := []) #[false, false, false, false, false, false, false, false, false, false, false, false, false] (by kernel_rfl) rfl rfl ⟨((HB.out.cell (World.block_lt_of_cell? w _ hw260_0)).trans hw260_0), ((HB.out.cell (World.block_lt_of_cell? w _ hw260_1)).trans hw260_1), ((HB.out.cell (World.block_lt_of_cell? w _ hw261_0)).trans hw261_0), ((HB.out.cell (World.block_lt_of_cell? w _ hw261_1)).trans hw261_1)⟩ (fun hHeld => ?_); refine with_tabW spec_Tidy.tab11 spec_Tidy.bits11 (fun HT_ HW_ => ?_)
                    generalize wr.drew = w14 at HO_3 HB hx260_0 hx260_1 hx261_0 hx261_1 hHeld ⊢
                    refine pure_ (i := 0) (N := some 36) (v := ?_) (a' := ?_) #[true, false, false, false, false, false, false, false, false, false, false, false, false] rfl rfl (any_of HT_.out (by kernel_rfl)) (fun _ _ _ h => h) (Or.inl ⟨by rfl, ?_⟩) ?_ ?_
                    rotate_left
                    · intro w'
                      go_simp
                      with_reducible rfl
                    rotate_left
                    · simp only [Act.put, List.setIfInBounds_toArray, List.set_cons_zero, List.set_cons_succ, i64_w, i32_w]
                      rfl
                    refine pure_ (i := 1) (N := some 37) (v := ?_) (a' := ?_) #[true, true, false, false, false, false, false, false, false, false, false, false, false] rfl rfl (any_of HT_.out (by kernel_rfl)) (fun _ _ _ h => h) (Or.inl ⟨by rfl, ?_⟩) ?_ ?_
                    rotate_left
                    · intro w'
                      go_simp
                      with_reducible rfl
                    rotate_left
                    · simp only [Act.put, List.setIfInBounds_toArray, List.set_cons_zero, List.set_cons_succ, i64_w, i32_w]
                      rfl
                    refine pure_ (i := 2) (N := some 38) (v := ?_) (a' := ?_) #[true, true, true, false, false, false, false, false, false, false, false, false, false] rfl rfl (any_of HT_.out (by kernel_rfl)) (fun _ _ _ h => h) (Or.inl ⟨by rfl, ?_⟩) ?_ ?_
                    rotate_left
                    · intro w'
                      go_simp
                      with_reducible rfl
                    rotate_left
                    · simp only [Act.put, List.setIfInBounds_toArray, List.set_cons_zero, List.set_cons_succ, i64_w, i32_w]
                      rfl
                    refine pure_ (i := 3) (N := some 39) (v := ?_) (a' := ?_) #[true, true, true, true, false, false, false, false, false, false, false, false, false] rfl rfl (any_of HT_.out (by kernel_rfl)) (fun _ _ _ h => h) (Or.inl ⟨by rfl, ?_⟩) ?_ ?_
                    rotate_left
                    · intro w'
                      go_simp
                      with_reducible rfl
                    rotate_left
                    · simp only [Act.put, List.setIfInBounds_toArray, List.set_cons_zero, List.set_cons_succ, i64_w, i32_w]
                      rfl
                    refine pure_ (i := 4) (N := some 40) (v := ?_) (a' := ?_) #[true, true, true, true, true, false, false, false, false, false, false, false, false] rfl rfl (any_of HT_.out (by kernel_rfl)) (fun _ _ _ h => h) (Or.inl ⟨by rfl, ?_⟩) ?_ ?_
                    rotate_left
                    · intro w'
                      go_simp
                      with_reducible rfl
                    rotate_left
                    · simp only [Act.put, List.setIfInBounds_toArray, List.set_cons_zero, List.set_cons_succ, i64_w, i32_w]
                      rfl
                    refine pure_ (i := 6) (N := some 42) (v := ?_) (a' := ?_) #[true, true, true, true, true, false, true, false, false, false, false, false, false] rfl rfl (any_of HT_.out (by kernel_rfl)) (fun _ _ _ h => h) (Or.inl ⟨by rfl, ?_⟩) ?_ ?_
                    rotate_left
                    · intro w'
                      go_simp
                      with_reducible rfl
                    rotate_left
                    · simp only [Act.put, List.setIfInBounds_toArray, List.set_cons_zero, List.set_cons_succ, i64_w, i32_w]
                      rfl
                    refine pure_ (i := 7) (N := some 43) (v := ?_) (a' := ?_) #[true, true, true, true, true, false, true, true, false, false, false, false, false] rfl rfl (any_of HT_.out (by kernel_rfl)) (fun _ _ _ h => h) (Or.inl ⟨by rfl, ?_⟩) ?_ ?_
                    rotate_left
                    · intro w'
                      go_simp
                      with_reducible rfl
                    rotate_left
                    · simp only [Act.put, List.setIfInBounds_toArray, List.set_cons_zero, List.set_cons_succ, i64_w, i32_w]
                      rfl
                    refine pure_ (i := 8) (N := some 44) (v := ?_) (a' := ?_) #[true, true, true, true, true, false, true, true, true, false, false, false, false] rfl rfl (any_of HT_.out (by kernel_rfl)) (fun _ _ _ h => h) (Or.inl ⟨by rfl, ?_⟩) ?_ ?_
                    rotate_left
                    · intro w'
                      go_simp
                      with_reducible rfl
                    rotate_left
                    · simp only [Act.put, List.setIfInBounds_toArray, List.set_cons_zero, List.set_cons_succ, i64_w, i32_w]
                      rfl
                    refine pure_ (i := 9) (N := some 45) (v := ?_) (a' := ?_) #[true, true, true, true, true, false, true, true, true, true, false, false, false] rfl rfl (any_of HT_.out (by kernel_rfl)) (fun _ _ _ h => h) (Or.inl ⟨by rfl, ?_⟩) ?_ ?_
                    rotate_left
                    · intro w'
                      go_simp
                      with_reducible rfl
                    rotate_left
                    · simp only [Act.put, List.setIfInBounds_toArray, List.set_cons_zero, List.set_cons_succ, i64_w, i32_w]
                      rfl
                    refine take_ (i := 5) (N := some 41) (v := ?_) (a' := ?_) #[true, true, true, true, true, true, true, true, true, true, false, false, false] rfl rfl (take_ofW HT_.out HW_.out (by kernel_rfl)) (fun _ _ _ h => h) (Or.inl ⟨by rfl, ?_⟩) hHeld ?_ ?_
                    rotate_left
                    · rintro w' ⟨s0, s1, s2, s3⟩
                      go_simp
                      with_reducible rfl
                    rotate_left
                    · simp only [Act.put, List.setIfInBounds_toArray, List.set_cons_zero, List.set_cons_succ, i64_w, i32_w]
                      rfl
                    refine take_ (i := 10) (N := some 46) (v := ?_) (a' := ?_) #[true, true, true, true, true, true, true, true, true, true, true, false, false] rfl rfl (take_ofW HT_.out HW_.out (by kernel_rfl)) (fun _ _ _ h => h) (Or.inl ⟨by rfl, ?_⟩) hHeld ?_ ?_
                    rotate_left
                    · rintro w' ⟨s0, s1, s2, s3⟩
                      go_simp
                      with_reducible rfl
                    rotate_left
                    · simp only [Act.put, List.setIfInBounds_toArray, List.set_cons_zero, List.set_cons_succ, i64_w, i32_w]
                      rfl
                    refine one_ (i := 11) (N := some 47) #[true, true, true, true, true, true, true, true, true, true, true, true, false] rfl rfl (one_of HT_.out (by kernel_rfl)) (by decide) (fun K hK => ?_)
                    refine goes_ Try.func47 (by kernel_rfl) rfl #[.slice Ao15 x3_1.length co15, .int .u32 ((rd_T95 l0 x4_1).f0), .int .u16 ((rd_T95 l0 x4_1).f1)] (by rfl) rfl rfl (by (try simp only [List.map_toArray, List.map_cons, List.map_nil]); first | done | rfl | (simp only [List.length_drop, List.length_take]; rfl)) ?_
                    with_reducible refine (spec_maskAdd.calls k2 (fun k_ => some k_ = (.slice Ao15 x3_1.length co15 : Value).ownBlock) (.slice Ao15 x3_1.length co15) x3_1 ((rd_T95 l0 x4_1).f0) ((rd_T95 l0 x4_1).f1) t262 w _ ?side1 ?side2 A13.out).mono ?_
                    (case side1 => repeat (first | (with_reducible first | exact HB.out | apply below_alloc | apply pw_below_drewN | apply below_drew1) | exact HB.out))
                    (case side2 => exact Kd.R_tight rfl HO_3.out)
                    rintro e w16 ⟨v263, rfl, ho0, hb, hkp⟩
                    refine ⟨_, rfl, ?_⟩
                    have n0_ := Aside0.mk (Kd.R_mono (ok' := fun k_ => True) ho0 (fun k_ hk_ => trivial))
                    have n1_ := Aside0.mk (hb)
                    clear HB
                    clear HO_3
                    have HO264 := n0_
                    have HB := n1_
                    clear n0_ n1_
                    (try clear hb)
                    (try clear hkp)
                    (try clear ho0)
                    refine hK.out _ _ ⟨((HB.out.cell (World.block_lt_of_cell? w _ hw260_0)).trans hw260_0), ((HB.out.cell (World.block_lt_of_cell? w _ hw260_1)).trans hw260_1), ((HB.out.cell (World.block_lt_of_cell? w _ hw261_0)).trans hw261_0), ((HB.out.cell (World.block_lt_of_cell? w _ hw261_1)).trans hw261_1)⟩ (fun hHeld => ?_)
                    clear hK K
                    refine norm_ (a' := ?_) ?_ ?_
                    rotate_left
                    · show Act.put _ (some 47) _ = _
                      simp only [Act.put, List.setIfInBounds_toArray, List.set_cons_zero, List.set_cons_succ, i64_w, i32_w]
                      rfl
                    refine pure_ (i := 12) (N := some 3) (v := ?_) (a' := ?_) #[true, true, true, true, true, true, true, true, true, true, true, true, true] rfl rfl (any_of HT_.out (by kernel_rfl)) (fun _ _ _ h => h) (Or.inl ⟨by rfl, ?_⟩) ?_ ?_
                    rotate_left
                    · intro w'
                      go_simp
                      with_reducible rfl
                    rotate_left
                    · simp only [Act.put, List.setIfInBounds_toArray, List.set_cons_zero, List.set_cons_succ, i64_w, i32_w]
                      rfl
                    refine done_ (done_of HT_.out (by kernel_rfl)) ?_
                    try go_wp2
                    go_roundg k2
                    case measure => have := HK1.out; have := HK2.out; omega
                    case rel => exact ⟨(t262), (wrap64 (x4_1 + 1)), (by first | rfl | (simp; done) | (simp [*]; done)), H', ⟨by have := HK1.out; have := HK2.out; omega⟩, ⟨by (with_reducible repeat (first | apply Kd.R_alloc | apply Kd.R_drewN | apply Kd.R_drew)); exact HO264.out⟩, ⟨by repeat (first | (with_reducible first | exact HB.out | apply below_alloc | apply pw_below_drewN | apply below_drew1) | exact HB.out)⟩⟩
                  · rw [if_neg c12] at H
                    exact absurd H (by simp)
                · rw [if_neg c11] at H
                  exact absurd H (by simp)
              · replace c10 := Bool.eq_false_iff.mpr c10
                subst c10
                have H1 : (spec_Tidy.l0 k2 l0 x3_1 (wrap64 (x4_1 + 1))) = some r := by rw [if_neg (show ¬ (false = true) by decide)] at H; exact H
                clear H
                have H := H1
                clear H1
                have H' := Aside0.mk H
                clear H
                go_wp2
                go_roundg k2
                case measure => have := HK1.out; have := HK2.out; omega
                case rel => exact ⟨(x3_1), (wrap64 (x4_1 + 1)), (by first | rfl | (simp; done) | (simp [*]; done)), H', ⟨by have := HK1.out; have := HK2.out; omega⟩, ⟨by (with_reducible repeat (first | apply Kd.R_alloc | apply Kd.R_drewN | apply Kd.R_drew)); exact HO_3.out⟩, ⟨by repeat (first | (with_reducible first | exact HB.out | apply below_alloc | apply pw_below_drewN | apply below_drew1) | exact HB.out)⟩⟩
      · rw [if_neg c2] at H
        have c2b0 : decide (x4_1 < (l0.length : Int)) = false := decide_eq_false c2
        clear c2
        obtain rfl := Option.some.inj H
        go_wp2
        go_ret
        exact ⟨_, by first | rfl | (simp [errW_none, errW_some] <;> rfl) | (simp [*, errW_none, errW_some] <;> rfl), by (with_reducible repeat (first | apply Kd.R_alloc | apply Kd.R_drewN | apply Kd.R_drew)); exact HO_3.out, by repeat (first | (with_reducible first | exact HB.out | apply below_alloc | apply pw_below_drewN | apply below_drew1) | exact HB.out)⟩

-- GIVEN: function 27 (impl_OfKind)

/-! ### spec_IDParts: function 51 -/
def spec_IDParts.f (a0 : Int) : Option (Bool × Int × Int) := some (((Go.bits .and .u32 a0 1) == 1), (a0 / 256) % 256, IntKind.u16.wrap (a0 / 65536))
set_option maxHeartbeats 8000000 in
set_option maxRecDepth 100000 in
theorem spec_IDParts.calls (a0 : Int) (r1 : Bool) (r2 : Int) (r3 : Int) (w : World) (h : spec_IDParts.f a0 = some (r1, r2, r3)) :
    Calls Try.prog 51 #[.int .u32 a0] w fun e w' => e = .returned (.tuple #[.bool r1, .int .u8 r2, .int .u16 r3]) ∧ Drawn0 w w' := by
  have H : (some (((Go.bits .and .u32 a0 1) == 1), (a0 / 256) % 256, IntKind.u16.wrap (a0 / 65536))) = some (r1, r2, r3) := h
  clear h
  simp only [Option.some.injEq, Prod.mk.injEq] at H
  obtain ⟨rfl, rfl, rfl⟩ := H
  go_enter Try.func51, Try.ntmps51
  go_wp2
  go_ret3
  exact ⟨by first | rfl | (simp; done) | (simp [*]; done), by repeat (first | exact Drawn0.refl _ | apply Drawn0.step)⟩

/-! ### spec_OfKind: function 28 -/
def spec_OfKind.l0 : Nat → List (S95) → Int → List (S95) → Int → Option ((List (S95)))
  | 0, _, _, _, _ => none
  | k + 1, x0, x1, x5, x6 => if x6 < (x0.length : Int) then (if 0 ≤ x6 then ((spec_IDParts.f ((rd_T95 x0 x6).f0)).bind fun bt269 => (if bt269.2.1 = x1 then (if x5.length < 17592186044416 then (spec_OfKind.l0 k x0 x1 (x5 ++ [(⟨(rd_T95 x0 x6).f0, (rd_T95 x0 x6).f1⟩ : S95)]) (wrap64 (x6 + 1))) else (none)) else (spec_OfKind.l0 k x0 x1 x5 (wrap64 (x6 + 1))))) else (none)) else (some x5)
def spec_OfKind.f (k : Nat) (l0 : List (S95)) (a1 : Int) : Option ((List (S95))) := (spec_Tidy.f k l0).bind fun t265 => (spec_OfKind.l0 k t265 a1 ([] : List (S95)) 0)
theorem spec_OfKind.mono_l : ∀ k, (∀ y0 y1 y2 y3, LeO (spec_OfKind.l0 k y0 y1 y2 y3) (spec_OfKind.l0 (k + 1) y0 y1 y2 y3))
  | 0 => fun _ _ _ _ r h => by simp [spec_OfKind.l0] at h
  | k + 1 => by
    have ih0 := spec_OfKind.mono_l k
    · intro y0 y1 y2 y3
      unfold spec_OfKind.l0
      repeat' first
      | (with_reducible exact ih0 _ _ _ _)
      | (with_reducible exact spec_Tidy.mono _ _)
      | (with_reducible exact LeO.refl _)
      | (with_reducible exact LeO.none _)
      | (with_reducible refine LeO.ite ?_ ?_)
      | (with_reducible refine LeO.bind ?_ (fun _ => ?_))
      | exact ih0 _ _ _ _
      | exact spec_Tidy.mono _ _
      | exact LeO.none _
      | refine LeO.ite ?_ ?_
      | refine LeO.bind ?_ (fun _ => ?_)
theorem spec_OfKind.mono : ∀ a0 a1 k, LeO (spec_OfKind.f k a0 a1) (spec_OfKind.f (k + 1) a0 a1) := by
  intro a0 a1 k
  have ih0 := spec_OfKind.mono_l k
  unfold spec_OfKind.f
  repeat' first
      | (with_reducible exact ih0 _ _ _ _)
      | (with_reducible exact spec_Tidy.mono _ _)
      | (with_reducible exact LeO.refl _)
      | (with_reducible exact LeO.none _)
      | (with_reducible refine LeO.ite ?_ ?_)
      | (with_reducible refine LeO.bind ?_ (fun _ => ?_))
      | exact ih0 _ _ _ _
      | exact spec_Tidy.mono _ _
      | exact LeO.none _
      | refine LeO.ite ?_ ?_
      | refine LeO.bind ?_ (fun _ => ?_)
set_option maxHeartbeats 8000000 in
set_option maxRecDepth 100000 in
theorem spec_OfKind.calls (k : Nat) (A0 : Option Addr) (c0 : Nat) (l0 : List (S95)) (a1 : Int) (r : List (S95)) (w : World) (hr0 : Kd.C k95 w A0 l0.length l0) (hc0 : l0.length ≤ c0) (h : spec_OfKind.f k l0 a1 = some r) :
    Calls Try.prog 28 #[.slice A0 l0.length c0, .int .u8 a1] w fun e w' => ∃ v0_ : Value, e = .returned (v0_) ∧ Kd.R k95 95 w' w.heap.size (fun _ => True) v0_ r ∧ Below w.heap.size w w' := by
  have hu95 := Try.underlying95
  have HR0 := Aside0.mk hr0
  have HC0 := Aside0.mk hc0
  clear hr0 hc0
  have HB := Aside0.mk (Below.refl w.heap.size w)
  have H : ((spec_Tidy.f k l0).bind fun t265 => (spec_OfKind.l0 k t265 a1 ([] : List (S95)) 0)) = some r := h
  clear h
  replace H := Option.bind_eq_some_iff.mp H
  obtain ⟨t265, A30, H⟩ := H
  replace H : (spec_OfKind.l0 k t265 a1 ([] : List (S95)) 0) = some r := H
  have A3 := Aside0.mk A30
  clear A30
  have H' := Aside0.mk H
  clear H
  go_enter Try.func28, Try.ntmps28
  go_wp2_with (first | ((with_reducible refine gate_callee (f := 26) rfl ?_); refine goesL_ (some 11) rfl rfl Try.func26 (by kernel_rfl) rfl #[.slice A0 l0.length c0] rfl (by (try simp only [List.map_toArray, List.map_cons, List.map_nil]); first | done | rfl | (simp only [List.length_drop, List.length_take]; rfl)) ?_; (with_reducible refine (spec_Tidy.calls k _ _ l0 t265 _ ?side1 ?side2 A3.out).mono ?_); (case side1 => repeat (first | exact HR0.out | (with_reducible refine Kd.C_alloc ?_ _) | (with_reducible refine Kd.C_drewN ?_ _) | (with_reducible refine Kd.C_drew ?_))); (case side2 => exact HC0.out); rintro e w4 ⟨v266, rfl, ho0, hb⟩; refine ⟨_, rfl, ?_⟩; have n0_ := Aside0.mk (Kd.R_lower ho0 (below_size (by repeat (first | (with_reducible first | exact HB.out | apply below_alloc | apply pw_below_drewN | apply below_drew1) | exact HB.out)))); have n1_ := Aside0.mk (below_step (by repeat (first | (with_reducible first | exact HB.out | apply below_alloc | apply pw_below_drewN | apply below_drew1) | exact HB.out)) hb); clear HB; have HO267 := n0_; have HB := n1_; clear n0_ n1_; (try clear hb); (try clear hb2); (try clear hk); (try clear hi); (try clear ho0)))
  go_loopg [5, 6] k (fun kq v5 v6 w' => ∃ (x5_1 : List (S95)) (x6_1 : Int), v6 = .int .i64 x6_1 ∧ Aside0 (spec_OfKind.l0 kq t265 a1 x5_1 x6_1 = some r) ∧ Aside0 (kq ≤ k) ∧ Aside0 (Kd.R k95 95 w' w.heap.size (fun k_ => some k_ ≠ (v5 : Value).ownBlock) v266 t265) ∧ Aside0 (Kd.R k95 95 w' w.heap.size (fun k_ => some k_ ≠ (v266 : Value).ownBlock) v5 x5_1) ∧ Aside0 (Below w.heap.size w w'))
  case atStart => exact ⟨(([] : List (S95))), (0), (by first | rfl | (simp; done) | (simp [*]; done)), H', ⟨Nat.le_refl _⟩, ⟨by (with_reducible repeat (first | apply Kd.R_alloc | apply Kd.R_drewN | apply Kd.R_drew)); exact Kd.R_mono HO267.out (fun _ hk => (by simp [Value.ownBlock]))⟩, ⟨by first | exact Kd.R_nil _ _ _ _ _ | exact Kd.N_nil _ _ _ _ _ | exact Kd.V_nil _ _ _ _ _ | exact Kd.Q_nil _ _ _ _ _ | exact Kd.S_nil _ _ _ _ _⟩, ⟨by repeat (first | (with_reducible first | exact HB.out | apply below_alloc | apply pw_below_drewN | apply below_drew1) | exact HB.out)⟩⟩
  case round =>
    clear H'
    try clear c2
    try clear p2
    obtain ⟨x5_1, x6_1, rfl, HA, HK1, HO_0, HO_5, HB⟩ := hrel
    cases gk with
    | zero => exact absurd HA.out (by simp [spec_OfKind.l0])
    | succ k1 =>
      have H := HA.out
      clear HA
      simp only [spec_OfKind.l0] at H
      by_cases c5 : x6_1 < (t265.length : Int)
      · rw [if_pos c5] at H
        have c5b0 : decide (x6_1 < (t265.length : Int)) = true := decide_eq_true c5
        clear c5
        by_cases c6 : 0 ≤ x6_1
        · rw [if_pos c6] at H
          have c6b0 : decide (0 ≤ x6_1) = true := decide_eq_true c6
          clear c6
          replace H := Option.bind_eq_some_iff.mp H
          obtain ⟨⟨t269, t270, t271⟩, A70, H⟩ := H
          replace H : (if t270 = a1 then (if x5_1.length < 17592186044416 then (spec_OfKind.l0 k1 t265 a1 (x5_1 ++ [(⟨(rd_T95 t265 x6_1).f0, (rd_T95 t265 x6_1).f1⟩ : S95)]) (wrap64 (x6_1 + 1))) else (none)) else (spec_OfKind.l0 k1 t265 a1 x5_1 (wrap64 (x6_1 + 1)))) = some r := H
          have A7 := Aside0.mk A70
          clear A70
          by_cases c8 : t270 = a1
          · rw [if_pos c8] at H
            have c8b0 : (t270 == a1) = true := beq_iff_eq.mpr c8
            have c8b1 : (t270 != a1) = false := bne_eq_false_iff_eq.mpr c8
            clear c8
            by_cases c9 : x5_1.length < 17592186044416
            · rw [if_pos c9] at H
              have LMc9 := Aside0.mk c9
              clear c9
              obtain ⟨y273, hy273⟩ : ∃ y_ : List (S95), y_ = (x5_1 ++ [(⟨(rd_T95 t265 x6_1).f0, (rd_T95 t265 x6_1).f1⟩ : S95)]) := ⟨_, rfl⟩
              replace H : (spec_OfKind.l0 k1 t265 a1 y273 (wrap64 (x6_1 + 1))) = some r := by first | (rw [hy273]; with_reducible exact H) | (have H2_ := (Option.bind_some _ _).symm.trans H; rw [hy273]; with_reducible exact H2_) | (have H2_ := (Option.bind_some _ _).symm.trans H; with_reducible exact H2_) | with_reducible exact H | (rw [hy273]; exact H) | exact H
              have Ny273 := Aside0.mk hy273
              clear hy273
              have H' := Aside0.mk H
              clear H
              obtain ⟨Ao10, co10, eo10⟩ := Kd.R_slice HO_0.out
              subst eo10
              have p268 : 0 ≤ (x6_1 : Int) := of_decide_eq_true (by first | (with_reducible assumption) | assumption)
              have q268 : x6_1 < (t265.length : Int) := of_decide_eq_true (by first | (with_reducible assumption) | assumption)
              obtain ⟨ad268, e268, hx268_0, hx268_1⟩ := at_T95 (Kd.R_reads' HO_0.out).2.2 x6_1 p268 q268
              cases e268
              replace p268 := eq_true p268
              replace q268 := eq_true q268
              go_wp2_with (first | ((with_reducible refine gate_callee (f := 51) rfl ?_); refine goesL_ (some 24) rfl rfl Try.func51 (by kernel_rfl) rfl #[.int .u32 ((rd_T95 t265 x6_1).f0)] rfl (by (try simp only [List.map_toArray, List.map_cons, List.map_nil]); first | done | rfl | (simp only [List.length_drop, List.length_take]; rfl)) ?_; (with_reducible refine (spec_IDParts.calls ((rd_T95 t265 x6_1).f0) t269 t270 t271 _ A7.out).mono ?_); rintro e w' ⟨rfl, ⟨nd, rfl⟩⟩; refine ⟨_, rfl, ?_⟩; have p272 : 0 ≤ (x6_1 : Int) := of_decide_eq_true (by first | (with_reducible assumption) | assumption); have q272 : x6_1 < (t265.length : Int) := of_decide_eq_true (by first | (with_reducible assumption) | assumption); obtain ⟨ad272, e272, hx272_0, hx272_1⟩ := at_T95 (Kd.R_reads' HO_0.out).2.2 x6_1 p272 q272; obtain rfl : ad268 = ad272 := (by injection e272); replace p272 := eq_true p272; replace q272 := eq_true q272) | ((with_reducible refine gate_builtin (b := .append) (xs := #[.tmp 31, .tmp 36]) rfl ?_); at_builtin; refine Kd.R_append k95 (w0 := w) w.heap.size rfl (.tmp 31) (.tmp 36) 55 95 (.agg #[(.int .u32 0), (.int .u16 0)]) 8 rfl Try.underlying55 info95 rfl (by decide) (by omega) u5 x5_1 (⟨(rd_T95 t265 x6_1).f0, (rd_T95 t265 x6_1).f1⟩ : S95) [.int .u32 ((rd_T95 t265 x6_1).f0), .int .u16 ((rd_T95 t265 x6_1).f1)] (fun k_ => some k_ ≠ (.slice (some ad268) t265.length co10 : Value).ownBlock) (fun _ => False) rfl rfl ?aP (fun _ hk => hk.elim) ?aF ?aO ?aB ?aS ?aL ?_; (case aP => exact k95_mkM _ _ _ (⟨(rd_T95 t265 x6_1).f0, (rd_T95 t265 x6_1).f1⟩ : S95)); (case aB => exact (by repeat (first | (with_reducible first | exact HB.out | apply below_alloc | apply pw_below_drewN | apply below_drew1) | exact HB.out))); (case aF => exact (fun k_ hk => Kd.fresh' (Kd.R_lt (by (with_reducible repeat (first | apply Kd.R_alloc | apply Kd.R_drewN | apply Kd.R_drew)); exact HO_0.out)) k_ hk)); (case aO => exact (by (with_reducible repeat (first | apply Kd.R_alloc | apply Kd.R_drewN | apply Kd.R_drew)); exact HO_5.out)); (case aS => exact (below_size (by repeat (first | (with_reducible first | exact HB.out | apply below_alloc | apply pw_below_drewN | apply below_drew1) | exact HB.out)))); (case aL => have := LMc9.out; omega); intro v274 w11 ho hb hg hat; rw [← Ny273.out] at ho; have n0_ := Aside0.mk (Kd.R_after (ok := (fun _ => True)) (by (with_reducible repeat (first | apply Kd.R_alloc | apply Kd.R_drewN | apply Kd.R_drew)); exact Kd.R_mono HO_0.out (fun _ hk => ⟨trivial, hk⟩)) hg hat); have n1_ := Aside0.mk (hb); have n2_ := Aside0.mk (ho); clear HO_0; clear HB; clear HO_5; have HO_0 := n0_; have HB := n1_; have HO275 := n2_; clear n0_ n1_ n2_; clear ho hb hg hat))
              go_roundg k1
              case measure => have := HK1.out; omega
              case rel => exact ⟨(y273), (wrap64 (x6_1 + 1)), (by first | rfl | (simp; done) | (simp [*]; done)), H', ⟨by have := HK1.out; omega⟩, ⟨by (with_reducible repeat (first | apply Kd.R_alloc | apply Kd.R_drewN | apply Kd.R_drew)); exact Kd.R_mono HO_0.out (fun _ hk => hk.2)⟩, ⟨by (with_reducible repeat (first | apply Kd.R_alloc | apply Kd.R_drewN | apply Kd.R_drew)); exact HO275.out⟩, ⟨by repeat (first | (with_reducible first | exact HB.out | apply below_alloc | apply pw_below_drewN | apply below_drew1) | exact HB.out)⟩⟩
            · rw [if_neg c9] at H
              exact absurd H (by simp)
          · rw [if_neg c8] at H
            have c8b0 : (t270 == a1) = false := beq_eq_false_iff_ne.mpr c8
            have c8b1 : (t270 != a1) = true := bne_iff_ne.mpr c8
            have H' := Aside0.mk H
            clear H
            obtain ⟨Ao12, co12, eo12⟩ := Kd.R_slice HO_0.out
            subst eo12
            have p268 : 0 ≤ (x6_1 : Int) := of_decide_eq_true (by first | (with_reducible assumption) | assumption)
            have q268 : x6_1 < (t265.length : Int) := of_decide_eq_true (by first | (with_reducible assumption) | assumption)
            obtain ⟨ad268, e268, hx268_0, hx268_1⟩ := at_T95 (Kd.R_reads' HO_0.out).2.2 x6_1 p268 q268
            cases e268
            replace p268 := eq_true p268
            replace q268 := eq_true q268
            go_wp2_with (first | ((with_reducible refine gate_callee (f := 51) rfl ?_); refine goesL_ (some 24) rfl rfl Try.func51 (by kernel_rfl) rfl #[.int .u32 ((rd_T95 t265 x6_1).f0)] rfl (by (try simp only [List.map_toArray, List.map_cons, List.map_nil]); first | done | rfl | (simp only [List.length_drop, List.length_take]; rfl)) ?_; (with_reducible refine (spec_IDParts.calls ((rd_T95 t265 x6_1).f0) t269 t270 t271 _ A7.out).mono ?_); rintro e w' ⟨rfl, ⟨nd, rfl⟩⟩; refine ⟨_, rfl, ?_⟩))
            go_roundg k1
            case measure => have := HK1.out; omega
            case rel => exact ⟨(x5_1), (wrap64 (x6_1 + 1)), (by first | rfl | (simp; done) | (simp [*]; done)), H', ⟨by have := HK1.out; omega⟩, ⟨by (with_reducible repeat (first | apply Kd.R_alloc | apply Kd.R_drewN | apply Kd.R_drew)); exact HO_0.out⟩, ⟨by (with_reducible repeat (first | apply Kd.R_alloc | apply Kd.R_drewN | apply Kd.R_drew)); exact HO_5.out⟩, ⟨by repeat (first | (with_reducible first | exact HB.out | apply below_alloc | apply pw_below_drewN | apply below_drew1) | exact HB.out)⟩⟩
        · rw [if_neg c6] at H
          exact absurd H (by simp)
      · rw [if_neg c5] at H
        have c5b0 : decide (x6_1 < (t265.length : Int)) = false := decide_eq_false c5
        clear c5
        obtain rfl := Option.some.inj H
        obtain ⟨Ao13, co13, eo13⟩ := Kd.R_slice HO_0.out
        subst eo13
        go_wp2
        go_ret
        exact ⟨_, by first | rfl | (simp [errW_none, errW_some] <;> rfl) | (simp [*, errW_none, errW_some] <;> rfl), by (with_reducible repeat (first | apply Kd.R_alloc | apply Kd.R_drewN | apply Kd.R_drew)); exact Kd.R_mono HO_5.out (fun _ hk => trivial), by repeat (first | (with_reducible first | exact HB.out | apply below_alloc | apply pw_below_drewN | apply below_drew1) | exact HB.out)⟩

/-! ### laws_FnOfKind: function 8 -/
def laws_FnOfKind.f (k : Nat) (l0 : List (S95)) (a1 : Int) : Option (Bool) := if (l0.length : Int) > 2147483647 then (some true) else (if (l0.length : Int) > 2000 then (some true) else ((impl_OfKind.f l0 a1).bind fun t276 => ((spec_Tidy.f k t276).bind fun t279 => ((spec_OfKind.f k l0 a1).bind fun t282 => ((spec_Tidy.f k t282).bind fun t285 => ((spec_SameLive.f k t279 t285).bind fun t288 => (some t288)))))))
theorem laws_FnOfKind.mono : ∀ a0 a1 k, LeO (laws_FnOfKind.f k a0 a1) (laws_FnOfKind.f (k + 1) a0 a1) := by
  intro a0 a1 k
  unfold laws_FnOfKind.f
  repeat' first
      | (with_reducible exact spec_OfKind.mono _ _ _)
      | (with_reducible exact spec_SameLive.mono _ _ _)
      | (with_reducible exact spec_Tidy.mono _ _)
      | (with_reducible exact LeO.refl _)
      | (with_reducible exact LeO.none _)
      | (with_reducible refine LeO.ite ?_ ?_)
      | (with_reducible refine LeO.bind ?_ (fun _ => ?_))
      | exact spec_OfKind.mono _ _ _
      | exact spec_SameLive.mono _ _ _
      | exact spec_Tidy.mono _ _
      | exact LeO.none _
      | refine LeO.ite ?_ ?_
      | refine LeO.bind ?_ (fun _ => ?_)
set_option maxHeartbeats 8000000 in
set_option maxRecDepth 100000 in
theorem laws_FnOfKind.calls (k : Nat) (A0 : Option Addr) (c0 : Nat) (l0 : List (S95)) (a1 : Int) (r : Bool) (w : World) (hr0 : Kd.C k95 w A0 l0.length l0) (hc0 : l0.length ≤ c0) (h : laws_FnOfKind.f k l0 a1 = some r) :
    Calls Try.prog 8 #[.slice A0 l0.length c0, .int .u8 a1] w fun e w' => e = .returned (.bool r) ∧ Below w.heap.size w w' := by
  have HR0 := Aside0.mk hr0
  have HC0 := Aside0.mk hc0
  clear hr0 hc0
  have HB := Aside0.mk (Below.refl w.heap.size w)
  have H : (if (l0.length : Int) > 2147483647 then (some true) else (if (l0.length : Int) > 2000 then (some true) else ((impl_OfKind.f l0 a1).bind fun t276 => ((spec_Tidy.f k t276).bind fun t279 => ((spec_OfKind.f k l0 a1).bind fun t282 => ((spec_Tidy.f k t282).bind fun t285 => ((spec_SameLive.f k t279 t285).bind fun t288 => (some t288)))))))) = some r := h
  clear h
  by_cases c3 : (l0.length : Int) > 2147483647
  · rw [if_pos c3] at H
    have c3b0 : decide (2147483647 < (l0.length : Int)) = true := decide_eq_true c3
    have c3b1 : decide (2147483647 < l0.length) = true := decide_eq_true (by omega)
    clear c3
    obtain rfl := Option.some.inj H
    go_enter Try.func8, Try.ntmps8
    go_wp2
    go_ret
    exact ⟨by first | rfl | (simp [errW_none, errW_some] <;> rfl) | (simp [*, errW_none, errW_some] <;> rfl), by repeat (first | (with_reducible first | exact HB.out | apply below_alloc | apply pw_below_drewN | apply below_drew1) | exact HB.out)⟩
  · rw [if_neg c3] at H
    have c3b0 : decide (2147483647 < (l0.length : Int)) = false := decide_eq_false c3
    have c3b1 : decide (2147483647 < l0.length) = false := decide_eq_false (by omega)
    clear c3
    by_cases c4 : (l0.length : Int) > 2000
    · rw [if_pos c4] at H
      have c4b0 : decide (2000 < (l0.length : Int)) = true := decide_eq_true c4
      have c4b1 : decide (2000 < l0.length) = true := decide_eq_true (by omega)
      clear c4
      obtain rfl := Option.some.inj H
      go_enter Try.func8, Try.ntmps8
      go_wp2
      go_ret
      exact ⟨by first | rfl | (simp [errW_none, errW_some] <;> rfl) | (simp [*, errW_none, errW_some] <;> rfl), by repeat (first | (with_reducible first | exact HB.out | apply below_alloc | apply pw_below_drewN | apply below_drew1) | exact HB.out)⟩
    · rw [if_neg c4] at H
      have c4b0 : decide (2000 < (l0.length : Int)) = false := decide_eq_false c4
      have c4b1 : decide (2000 < l0.length) = false := decide_eq_false (by omega)
      clear c4
      replace H := Option.bind_eq_some_iff.mp H
      obtain ⟨t276, A50, H⟩ := H
      replace H : ((spec_Tidy.f k t276).bind fun t279 => ((spec_OfKind.f k l0 a1).bind fun t282 => ((spec_Tidy.f k t282).bind fun t285 => ((spec_SameLive.f k t279 t285).bind fun t288 => (some t288))))) = some r := H
      have A5 := Aside0.mk A50
      clear A50
      replace H := Option.bind_eq_some_iff.mp H
      obtain ⟨t279, A60, H⟩ := H
      replace H : ((spec_OfKind.f k l0 a1).bind fun t282 => ((spec_Tidy.f k t282).bind fun t285 => ((spec_SameLive.f k t279 t285).bind fun t288 => (some t288)))) = some r := H
      have A6 := Aside0.mk A60
      clear A60
      replace H := Option.bind_eq_some_iff.mp H
      obtain ⟨t282, A70, H⟩ := H
      replace H : ((spec_Tidy.f k t282).bind fun t285 => ((spec_SameLive.f k t279 t285).bind fun t288 => (some t288))) = some r := H
      have A7 := Aside0.mk A70
      clear A70
      replace H := Option.bind_eq_some_iff.mp H
      obtain ⟨t285, A80, H⟩ := H
      replace H : ((spec_SameLive.f k t279 t285).bind fun t288 => (some t288)) = some r := H
      have A8 := Aside0.mk A80
      clear A80
      replace H := Option.bind_eq_some_iff.mp H
      obtain ⟨t288, A90, H⟩ := H
      replace H : (some t288) = some r := H
      have A9 := Aside0.mk A90
      clear A90
      obtain rfl := Option.some.inj H
      go_enter Try.func8, Try.ntmps8
      go_wp2_with (first | ((with_reducible refine gate_callee (f := 27) rfl ?_); refine goesL_ (some 13) rfl rfl Try.func27 (by kernel_rfl) rfl #[.slice A0 l0.length c0, .int .u8 a1] rfl (by (try simp only [List.map_toArray, List.map_cons, List.map_nil]); first | done | rfl | (simp only [List.length_drop, List.length_take]; rfl)) ?_; (with_reducible refine (impl_OfKind.calls _ _ l0 a1 t276 _ ?side1 ?side2 A5.out).mono ?_); (case side1 => repeat (first | exact HR0.out | (with_reducible refine Kd.C_alloc ?_ _) | (with_reducible refine Kd.C_drewN ?_ _) | (with_reducible refine Kd.C_drew ?_))); (case side2 => exact HC0.out); rintro e w10 ⟨v277, rfl, ho0, hb⟩; refine ⟨_, rfl, ?_⟩; have n0_ := Aside0.mk (Kd.R_lower ho0 (below_size (by repeat (first | (with_reducible first | exact HB.out | apply below_alloc | apply pw_below_drewN | apply below_drew1) | exact HB.out)))); have n1_ := Aside0.mk (below_step (by repeat (first | (with_reducible first | exact HB.out | apply below_alloc | apply pw_below_drewN | apply below_drew1) | exact HB.out)) hb); clear HB; have HO278 := n0_; have HB := n1_; clear n0_ n1_; (try clear hb); (try clear hb2); (try clear hk); (try clear hi); (try clear ho0); obtain ⟨Ao11, co11, eo11⟩ := Kd.R_slice HO278.out; subst eo11) | ((with_reducible refine gate_callee (f := 26) rfl ?_); refine goesL_ (some 14) rfl rfl Try.func26 (by kernel_rfl) rfl #[.slice Ao11 t276.length co11] rfl (by (try simp only [List.map_toArray, List.map_cons, List.map_nil]); first | done | rfl | (simp only [List.length_drop, List.length_take]; rfl)) ?_; (with_reducible refine (spec_Tidy.calls k _ _ t276 t279 _ ?side1 ?side2 A6.out).mono ?_); (case side1 => repeat (first | exact (Kd.R_reads' HO278.out).2.2 | (with_reducible refine Kd.C_alloc ?_ _) | (with_reducible refine Kd.C_drewN ?_ _) | (with_reducible refine Kd.C_drew ?_))); (case side2 => exact (Kd.R_reads' HO278.out).2.1); rintro e w12 ⟨v280, rfl, ho0, hb⟩; refine ⟨_, rfl, ?_⟩; have n0_ := Aside0.mk (Kd.R_elder' (by (with_reducible repeat (first | apply Kd.R_alloc | apply Kd.R_drewN | apply Kd.R_drew)); exact HO278.out) (Kd.R_base ho0) hb); have n1_ := Aside0.mk (Kd.R_lower (Kd.R_new' ho0 (Kd.R_lt (by (with_reducible repeat (first | apply Kd.R_alloc | apply Kd.R_drewN | apply Kd.R_drew)); exact HO278.out))) (below_size (by repeat (first | (with_reducible first | exact HB.out | apply below_alloc | apply pw_below_drewN | apply below_drew1) | exact HB.out)))); have n2_ := Aside0.mk (below_step (by repeat (first | (with_reducible first | exact HB.out | apply below_alloc | apply pw_below_drewN | apply below_drew1) | exact HB.out)) hb); clear HO278; clear HB; have HO278 := n0_; have HO281 := n1_; have HB := n2_; clear n0_ n1_ n2_; (try clear hb); (try clear hb2); (try clear hk); (try clear hi); (try clear ho0)) | ((with_reducible refine gate_callee (f := 28) rfl ?_); refine goesL_ (some 17) rfl rfl Try.func28 (by kernel_rfl) rfl #[.slice A0 l0.length c0, .int .u8 a1] rfl (by (try simp only [List.map_toArray, List.map_cons, List.map_nil]); first | done | rfl | (simp only [List.length_drop, List.length_take]; rfl)) ?_; (with_reducible refine (spec_OfKind.calls k _ _ l0 a1 t282 _ ?side1 ?side2 A7.out).mono ?_); (case side1 => repeat (first | exact (Kd.C_below HR0.out HB.out) | (with_reducible refine Kd.C_alloc ?_ _) | (with_reducible refine Kd.C_drewN ?_ _) | (with_reducible refine Kd.C_drew ?_))); (case side2 => exact HC0.out); rintro e w13 ⟨v283, rfl, ho0, hb⟩; refine ⟨_, rfl, ?_⟩; have n0_ := Aside0.mk (Kd.R_elder' (by (with_reducible repeat (first | apply Kd.R_alloc | apply Kd.R_drewN | apply Kd.R_drew)); exact HO278.out) (Kd.R_base ho0) hb); have n1_ := Aside0.mk (Kd.R_elder' (by (with_reducible repeat (first | apply Kd.R_alloc | apply Kd.R_drewN | apply Kd.R_drew)); exact HO281.out) (Kd.R_base ho0) hb); have n2_ := Aside0.mk (Kd.R_lower (Kd.R_new' (Kd.R_new' ho0 (Kd.R_lt (by (with_reducible repeat (first | apply Kd.R_alloc | apply Kd.R_drewN | apply Kd.R_drew)); exact HO278.out))) (Kd.R_lt (by (with_reducible repeat (first | apply Kd.R_alloc | apply Kd.R_drewN | apply Kd.R_drew)); exact HO281.out))) (below_size (by repeat (first | (with_reducible first | exact HB.out | apply below_alloc | apply pw_below_drewN | apply below_drew1) | exact HB.out)))); have n3_ := Aside0.mk (below_step (by repeat (first | (with_reducible first | exact HB.out | apply below_alloc | apply pw_below_drewN | apply below_drew1) | exact HB.out)) hb); clear HO278; clear HO281; clear HB; have HO278 := n0_; have HO281 := n1_; have HO284 := n2_; have HB := n3_; clear n0_ n1_ n2_ n3_; (try clear hb); (try clear hb2); (try clear hk); (try clear hi); (try clear ho0); obtain ⟨Ao14, co14, eo14⟩ := Kd.R_slice HO284.out; subst eo14) | ((with_reducible refine gate_callee (f := 26) rfl ?_); refine goesL_ (some 18) rfl rfl Try.func26 (by kernel_rfl) rfl #[.slice Ao14 t282.length co14] rfl (by (try simp only [List.map_toArray, List.map_cons, List.map_nil]); first | done | rfl | (simp only [List.length_drop, List.length_take]; rfl)) ?_; (with_reducible refine (spec_Tidy.calls k _ _ t282 t285 _ ?side1 ?side2 A8.out).mono ?_); (case side1 => repeat (first | exact (Kd.R_reads' HO284.out).2.2 | (with_reducible refine Kd.C_alloc ?_ _) | (with_reducible refine Kd.C_drewN ?_ _) | (with_reducible refine Kd.C_drew ?_))); (case side2 => exact (Kd.R_reads' HO284.out).2.1); rintro e w15 ⟨v286, rfl, ho0, hb⟩; refine ⟨_, rfl, ?_⟩; have n0_ := Aside0.mk (Kd.R_elder' (by (with_reducible repeat (first | apply Kd.R_alloc | apply Kd.R_drewN | apply Kd.R_drew)); exact HO278.out) (Kd.R_base ho0) hb); have n1_ := Aside0.mk (Kd.R_elder' (by (with_reducible repeat (first | apply Kd.R_alloc | apply Kd.R_drewN | apply Kd.R_drew)); exact HO281.out) (Kd.R_base ho0) hb); have n2_ := Aside0.mk (Kd.R_elder' (by (with_reducible repeat (first | apply Kd.R_alloc | apply Kd.R_drewN | apply Kd.R_drew)); exact HO284.out) (Kd.R_base ho0) hb); have n3_ := Aside0.mk (Kd.R_lower (Kd.R_new' (Kd.R_new' (Kd.R_new' ho0 (Kd.R_lt (by (with_reducible repeat (first | apply Kd.R_alloc | apply Kd.R_drewN | apply Kd.R_drew)); exact HO278.out))) (Kd.R_lt (by (with_reducible repeat (first | apply Kd.R_alloc | apply Kd.R_drewN | apply Kd.R_drew)); exact HO281.out))) (Kd.R_lt (by (with_reducible repeat (first | apply Kd.R_alloc | apply Kd.R_drewN | apply Kd.R_drew)); exact HO284.out))) (below_size (by repeat (first | (with_reducible first | exact HB.out | apply below_alloc | apply pw_below_drewN | apply below_drew1) | exact HB.out)))); have n4_ := Aside0.mk (below_step (by repeat (first | (with_reducible first | exact HB.out | apply below_alloc | apply pw_below_drewN | apply below_drew1) | exact HB.out)) hb); clear HO278; clear HO281; clear HO284; clear HB; have HO278 := n0_; have HO281 := n1_; have HO284 := n2_; have HO287 := n3_; have HB := n4_; clear n0_ n1_ n2_ n3_ n4_; (try clear hb); (try clear hb2); (try clear hk); (try clear hi); (try clear ho0); obtain ⟨Ao16, co16, eo16⟩ := Kd.R_slice HO281.out; subst eo16; obtain ⟨Ao17, co17, eo17⟩ := Kd.R_slice HO287.out; subst eo17) | ((with_reducible refine gate_callee (f := 25) rfl ?_); refine goesL_ (some 19) rfl rfl Try.func25 (by kernel_rfl) rfl #[.slice Ao16 t279.length co16, .slice Ao17 t285.length co17] rfl (by (try simp only [List.map_toArray, List.map_cons, List.map_nil]); first | done | rfl | (simp only [List.length_drop, List.length_take]; rfl)) ?_; (with_reducible refine (spec_SameLive.calls k _ _ t279 _ _ t285 t288 _ ?side1 ?side2 ?side3 ?side4 A9.out).mono ?_); (case side1 => repeat (first | exact (Kd.R_reads' HO281.out).2.2 | (with_reducible refine Kd.C_alloc ?_ _) | (with_reducible refine Kd.C_drewN ?_ _) | (with_reducible refine Kd.C_drew ?_))); (case side2 => exact (Kd.R_reads' HO281.out).2.1); (case side3 => repeat (first | exact (Kd.R_reads' HO287.out).2.2 | (with_reducible refine Kd.C_alloc ?_ _) | (with_reducible refine Kd.C_drewN ?_ _) | (with_reducible refine Kd.C_drew ?_))); (case side4 => exact (Kd.R_reads' HO287.out).2.1); rintro e w' ⟨rfl, ⟨nd, rfl⟩⟩; refine ⟨_, rfl, ?_⟩))
      go_ret
      exact ⟨by first | rfl | (simp [errW_none, errW_some] <;> rfl) | (simp [*, errW_none, errW_some] <;> rfl), by repeat (first | (with_reducible first | exact HB.out | apply below_alloc | apply pw_below_drewN | apply below_drew1) | exact HB.out)⟩

end Go.Proofs.Ytlmmjchdfngdgaa.Q
