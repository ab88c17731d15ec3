-- Written by wip/drive.py (this claim's own program, over the kit's print).
import Derived.Test.YtlmmjchdfngdgaaQ0
import Derived.Test.YtlmmjchdfngdgaaQ1
import Derived.Test.YtlmmjchdfngdgaaQ2
import Derived.Test.YtlmmjchdfngdgaaQ6
import Derived.Test.YtlmmjchdfngdgaaGm
namespace Go.Proofs.Ytlmmjchdfngdgaa.Q
open Go.RowKit Go.Proofs.YtlmmjchdfngdgaaW.PrintWords Go.Proofs.YtlmmjchdfngdgaaW.PrintLast Go.Proofs.YtlmmjchdfngdgaaW.PrintMore
attribute [local go_sem] max2_int min2_int max_two min_two max_three min_three max_four min_four   -- for this text's walks alone
set_option linter.unusedVariables false
set_option linter.unusedSimpArgs false

attribute [local go_sem high] eqA53 eqA95
/-! ### laws_FnMerge: function 7 -/
mutual
def laws_FnMerge.j0 : Nat → List (S53) → List (S53) → Bool → Option (Bool)
  | 0, _, _, _ => none
  | k + 1, x0, x1, x17 => if x17 = true then (some true) else (if (x0.length : Int) > 2000 then (laws_FnMerge.j1 k x0 x1 true) else (laws_FnMerge.j1 k x0 x1 (decide ((x1.length : Int) > 2000))))
def laws_FnMerge.j1 : Nat → List (S53) → List (S53) → Bool → Option (Bool)
  | 0, _, _, _ => none
  | k + 1, x0, x1, x25 => if x25 = true then (some true) else ((impl_Merge.f x0 x1).bind fun bt226 => ((spec_Merge.f k x0 x1).bind fun bt230 => (if (bt226.2 != bt230.2) = true then (laws_FnMerge.j2 k bt226.1 bt230.1 true) else (laws_FnMerge.j2 k bt226.1 bt230.1 ((bt226.1.length : Int) != (bt230.1.length : Int))))))
def laws_FnMerge.j2 : Nat → List (S53) → List (S53) → Bool → Option (Bool)
  | 0, _, _, _ => none
  | k + 1, x5, x7, x47 => if x47 = true then (some false) else (laws_FnMerge.l0 k x5 x7 (x5.length : Int) 0)
def laws_FnMerge.l0 : Nat → List (S53) → List (S53) → Int → Int → Option (Bool)
  | 0, _, _, _, _ => none
  | k + 1, x5, x7, x49, x50 => if x50 < x49 then (if 0 ≤ x50 then (if x50 < (x5.length : Int) then (if x50 < (x7.length : Int) then (if (!(((rd_T53 x5 x50).f0) == ((rd_T53 x7 x50).f0)) || (!(((rd_T53 x5 x50).f1) == ((rd_T53 x7 x50).f1)))) = true then (some false) else (laws_FnMerge.l0 k x5 x7 x49 (wrap64 (x50 + 1)))) else (none)) else (none)) else (none)) else (some true)
end
def laws_FnMerge.f (k : Nat) (l0 : List (S53)) (l1 : List (S53)) : Option (Bool) := if (l0.length : Int) > 2147483647 then (laws_FnMerge.j0 k l0 l1 true) else (laws_FnMerge.j0 k l0 l1 (decide ((l1.length : Int) > 2147483647)))
theorem laws_FnMerge.mono_l : ∀ k, (∀ y0 y1 y2, LeO (laws_FnMerge.j0 k y0 y1 y2) (laws_FnMerge.j0 (k + 1) y0 y1 y2)) ∧ (∀ y0 y1 y2, LeO (laws_FnMerge.j1 k y0 y1 y2) (laws_FnMerge.j1 (k + 1) y0 y1 y2)) ∧ (∀ y0 y1 y2, LeO (laws_FnMerge.j2 k y0 y1 y2) (laws_FnMerge.j2 (k + 1) y0 y1 y2)) ∧ (∀ y0 y1 y2 y3, LeO (laws_FnMerge.l0 k y0 y1 y2 y3) (laws_FnMerge.l0 (k + 1) y0 y1 y2 y3))
  | 0 => ⟨fun _ _ _ r h => by simp [laws_FnMerge.j0] at h, fun _ _ _ r h => by simp [laws_FnMerge.j1] at h, fun _ _ _ r h => by simp [laws_FnMerge.j2] at h, fun _ _ _ _ r h => by simp [laws_FnMerge.l0] at h⟩
  | k + 1 => by
    obtain ⟨ih0, ih1, ih2, ih3⟩ := laws_FnMerge.mono_l k
    refine ⟨?_, ?_, ?_, ?_⟩
    · intro y0 y1 y2
      unfold laws_FnMerge.j0
      repeat' first
      | (with_reducible exact ih0 _ _ _)
      | (with_reducible exact ih1 _ _ _)
      | (with_reducible exact ih2 _ _ _)
      | (with_reducible exact ih3 _ _ _ _)
      | (with_reducible exact spec_Merge.mono _ _ _)
      | (with_reducible exact LeO.refl _)
      | (with_reducible exact LeO.none _)
      | (with_reducible refine LeO.ite ?_ ?_)
      | (with_reducible refine LeO.bind ?_ (fun _ => ?_))
      | exact ih0 _ _ _
      | exact ih1 _ _ _
      | exact ih2 _ _ _
      | exact ih3 _ _ _ _
      | exact spec_Merge.mono _ _ _
      | exact LeO.none _
      | refine LeO.ite ?_ ?_
      | refine LeO.bind ?_ (fun _ => ?_)
    · intro y0 y1 y2
      unfold laws_FnMerge.j1
      repeat' first
      | (with_reducible exact ih0 _ _ _)
      | (with_reducible exact ih1 _ _ _)
      | (with_reducible exact ih2 _ _ _)
      | (with_reducible exact ih3 _ _ _ _)
      | (with_reducible exact spec_Merge.mono _ _ _)
      | (with_reducible exact LeO.refl _)
      | (with_reducible exact LeO.none _)
      | (with_reducible refine LeO.ite ?_ ?_)
      | (with_reducible refine LeO.bind ?_ (fun _ => ?_))
      | exact ih0 _ _ _
      | exact ih1 _ _ _
      | exact ih2 _ _ _
      | exact ih3 _ _ _ _
      | exact spec_Merge.mono _ _ _
      | exact LeO.none _
      | refine LeO.ite ?_ ?_
      | refine LeO.bind ?_ (fun _ => ?_)
    · intro y0 y1 y2
      unfold laws_FnMerge.j2
      repeat' first
      | (with_reducible exact ih0 _ _ _)
      | (with_reducible exact ih1 _ _ _)
      | (with_reducible exact ih2 _ _ _)
      | (with_reducible exact ih3 _ _ _ _)
      | (with_reducible exact spec_Merge.mono _ _ _)
      | (with_reducible exact LeO.refl _)
      | (with_reducible exact LeO.none _)
      | (with_reducible refine LeO.ite ?_ ?_)
      | (with_reducible refine LeO.bind ?_ (fun _ => ?_))
      | exact ih0 _ _ _
      | exact ih1 _ _ _
      | exact ih2 _ _ _
      | exact ih3 _ _ _ _
      | exact spec_Merge.mono _ _ _
      | exact LeO.none _
      | refine LeO.ite ?_ ?_
      | refine LeO.bind ?_ (fun _ => ?_)
    · intro y0 y1 y2 y3
      unfold laws_FnMerge.l0
      repeat' first
      | (with_reducible exact ih0 _ _ _)
      | (with_reducible exact ih1 _ _ _)
      | (with_reducible exact ih2 _ _ _)
      | (with_reducible exact ih3 _ _ _ _)
      | (with_reducible exact spec_Merge.mono _ _ _)
      | (with_reducible exact LeO.refl _)
      | (with_reducible exact LeO.none _)
      | (with_reducible refine LeO.ite ?_ ?_)
      | (with_reducible refine LeO.bind ?_ (fun _ => ?_))
      | exact ih0 _ _ _
      | exact ih1 _ _ _
      | exact ih2 _ _ _
      | exact ih3 _ _ _ _
      | exact spec_Merge.mono _ _ _
      | exact LeO.none _
      | refine LeO.ite ?_ ?_
      | refine LeO.bind ?_ (fun _ => ?_)
theorem laws_FnMerge.mono : ∀ a0 a1 k, LeO (laws_FnMerge.f k a0 a1) (laws_FnMerge.f (k + 1) a0 a1) := by
  intro a0 a1 k
  obtain ⟨ih0, ih1, ih2, ih3⟩ := laws_FnMerge.mono_l k
  unfold laws_FnMerge.f
  repeat' first
      | (with_reducible exact ih0 _ _ _)
      | (with_reducible exact ih1 _ _ _)
      | (with_reducible exact ih2 _ _ _)
      | (with_reducible exact ih3 _ _ _ _)
      | (with_reducible exact spec_Merge.mono _ _ _)
      | (with_reducible exact LeO.refl _)
      | (with_reducible exact LeO.none _)
      | (with_reducible refine LeO.ite ?_ ?_)
      | (with_reducible refine LeO.bind ?_ (fun _ => ?_))
      | exact ih0 _ _ _
      | exact ih1 _ _ _
      | exact ih2 _ _ _
      | exact ih3 _ _ _ _
      | exact spec_Merge.mono _ _ _
      | exact LeO.none _
      | refine LeO.ite ?_ ?_
      | refine LeO.bind ?_ (fun _ => ?_)
set_option maxHeartbeats 8000000 in
set_option maxRecDepth 100000 in
theorem laws_FnMerge.calls (k : Nat) (A0 : Option Addr) (c0 : Nat) (l0 : List (S53)) (A1 : Option Addr) (c1 : Nat) (l1 : List (S53)) (r : Bool) (w : World) (hr0 : Kd.C k53 w A0 l0.length l0) (hc0 : l0.length ≤ c0) (hr1 : Kd.C k53 w A1 l1.length l1) (hc1 : l1.length ≤ c1) (h : laws_FnMerge.f k l0 l1 = some r) :
    Calls Try.prog 7 #[.slice A0 l0.length c0, .slice A1 l1.length c1] w fun e w' => e = .returned (.bool r) ∧ Below w.heap.size w w' := by
  have hu53 := Try.underlying53
  have HR0 := Aside0.mk hr0
  have HC0 := Aside0.mk hc0
  clear hr0 hc0
  have HR1 := Aside0.mk hr1
  have HC1 := Aside0.mk hc1
  clear hr1 hc1
  have HB := Aside0.mk (Below.refl w.heap.size w)
  have H : (if (l0.length : Int) > 2147483647 then (laws_FnMerge.j0 k l0 l1 true) else (laws_FnMerge.j0 k l0 l1 (decide ((l1.length : Int) > 2147483647)))) = some r := h
  clear h
  have HC3 := Aside0.mk H
  clear H
  go_enter Try.func7, Try.ntmps7
  go_upto_region 1 with (fail)
  repeat (go_quiet (fail); go_upto_region 1 with (fail))
  go_cut [17] (fun v17 wc => ∃ (kq : Nat) (x17_2 : Bool), v17 = .bool x17_2 ∧ Aside0 (laws_FnMerge.j0 kq l0 l1 x17_2 = some r) ∧ Aside0 (kq ≤ k) ∧ Aside0 (Below w.heap.size w wc))
  case first =>
    have H := HC3.out
    clear HC3
    by_cases c4 : (l0.length : Int) > 2147483647
    · rw [if_pos c4] at H
      have c4b0 : decide (2147483647 < (l0.length : Int)) = true := decide_eq_true c4
      have c4b1 : decide (2147483647 < l0.length) = true := decide_eq_true (by omega)
      clear c4
      (first | rw [c4b0] | (simp only [i64_w, i32_w]; rw [c4b0]) | skip)
      have H' := Aside0.mk H
      clear H
      go_wp2
      repeat (go_quiet (fail); try go_wp2)
      go_meet
      case rel => exact ⟨_, (true), (by first | rfl | (simp; done) | (simp [*]; done)), H', ⟨by first | omega | exact Nat.le_refl _⟩, ⟨by repeat (first | (with_reducible first | exact HB.out | apply below_alloc | apply pw_below_drewN | apply below_drew1) | exact HB.out)⟩⟩
    · rw [if_neg c4] at H
      have c4b0 : decide (2147483647 < (l0.length : Int)) = false := decide_eq_false c4
      have c4b1 : decide (2147483647 < l0.length) = false := decide_eq_false (by omega)
      clear c4
      (first | rw [c4b0] | (simp only [i64_w, i32_w]; rw [c4b0]) | skip)
      have H' := Aside0.mk H
      clear H
      go_wp2
      repeat (go_quiet (fail); try go_wp2)
      go_meet
      case rel => exact ⟨_, (decide ((l1.length : Int) > 2147483647)), (by first | rfl | (simp; done) | (simp [*]; done)), H', ⟨by first | omega | exact Nat.le_refl _⟩, ⟨by repeat (first | (with_reducible first | exact HB.out | apply below_alloc | apply pw_below_drewN | apply below_drew1) | exact HB.out)⟩⟩
  case rest =>
    clear HC3
    try clear c1
    try clear p2
    try clear c4
    try clear c4b0
    try clear c4b1
    obtain ⟨kq, x17_2, rfl, HA, HJ2, HB⟩ := hcut
    cases kq with
    | zero => exact absurd HA.out (by simp [laws_FnMerge.j0])
    | succ kj2 =>
      have H := HA.out
      clear HA
      simp only [laws_FnMerge.j0] at H
      by_cases c5 : x17_2 = true
      · subst c5
        have H1 : (some true) = some r := by rw [if_pos rfl] at H; exact H
        clear H
        have H := H1
        clear H1
        obtain rfl := Option.some.inj H
        go_wp2
        repeat (go_quiet (fail); try go_wp2)
        go_ret
        exact ⟨by first | rfl | (simp [errW_none, errW_some] <;> rfl) | (simp [*, errW_none, errW_some] <;> rfl), by repeat (first | (with_reducible first | exact HB.out | apply below_alloc | apply pw_below_drewN | apply below_drew1) | exact HB.out)⟩
      · replace c5 := Bool.eq_false_iff.mpr c5
        subst c5
        have H1 : (if (l0.length : Int) > 2000 then (laws_FnMerge.j1 kj2 l0 l1 true) else (laws_FnMerge.j1 kj2 l0 l1 (decide ((l1.length : Int) > 2000)))) = some r := by rw [if_neg (show ¬ (false = true) by decide)] at H; exact H
        clear H
        have H := H1
        clear H1
        have HC6 := Aside0.mk H
        clear H
        go_upto_region 3 with (fail)
        repeat (go_quiet (fail); go_upto_region 3 with (fail))
        go_cut [25] (fun v25 wc => ∃ (kq : Nat) (x25_5 : Bool), v25 = .bool x25_5 ∧ Aside0 (laws_FnMerge.j1 kq l0 l1 x25_5 = some r) ∧ Aside0 (kq ≤ kj2) ∧ Aside0 (Below w.heap.size w wc))
        case first =>
          have H := HC6.out
          clear HC6
          by_cases c7 : (l0.length : Int) > 2000
          · rw [if_pos c7] at H
            have c7b0 : decide (2000 < (l0.length : Int)) = true := decide_eq_true c7
            have c7b1 : decide (2000 < l0.length) = true := decide_eq_true (by omega)
            clear c7
            (first | rw [c7b0] | (simp only [i64_w, i32_w]; rw [c7b0]) | skip)
            have H' := Aside0.mk H
            clear H
            go_wp2
            repeat (go_quiet (fail); try go_wp2)
            go_meet
            case rel => exact ⟨_, (true), (by first | rfl | (simp; done) | (simp [*]; done)), H', ⟨by have := HJ2.out; first | omega | exact Nat.le_refl _⟩, ⟨by repeat (first | (with_reducible first | exact HB.out | apply below_alloc | apply pw_below_drewN | apply below_drew1) | exact HB.out)⟩⟩
          · rw [if_neg c7] at H
            have c7b0 : decide (2000 < (l0.length : Int)) = false := decide_eq_false c7
            have c7b1 : decide (2000 < l0.length) = false := decide_eq_false (by omega)
            clear c7
            (first | rw [c7b0] | (simp only [i64_w, i32_w]; rw [c7b0]) | skip)
            have H' := Aside0.mk H
            clear H
            go_wp2
            repeat (go_quiet (fail); try go_wp2)
            go_meet
            case rel => exact ⟨_, (decide ((l1.length : Int) > 2000)), (by first | rfl | (simp; done) | (simp [*]; done)), H', ⟨by have := HJ2.out; first | omega | exact Nat.le_refl _⟩, ⟨by repeat (first | (with_reducible first | exact HB.out | apply below_alloc | apply pw_below_drewN | apply below_drew1) | exact HB.out)⟩⟩
        case rest =>
          clear HC6
          try clear c1
          try clear p2
          try clear c4
          try clear c4b0
          try clear c4b1
          try clear c5
          try clear c7
          try clear c7b0
          try clear c7b1
          try clear p2
          obtain ⟨kq, x25_5, rfl, HA, HJ5, HB⟩ := hcut
          cases kq with
          | zero => exact absurd HA.out (by simp [laws_FnMerge.j1])
          | succ kj5 =>
            have H := HA.out
            clear HA
            simp only [laws_FnMerge.j1] at H
            by_cases c8 : x25_5 = true
            · subst c8
              have H1 : (some true) = some r := by rw [if_pos rfl] at H; exact H
              clear H
              have H := H1
              clear H1
              obtain rfl := Option.some.inj H
              go_wp2
              repeat (go_quiet (fail); try go_wp2)
              go_ret
              exact ⟨by first | rfl | (simp [errW_none, errW_some] <;> rfl) | (simp [*, errW_none, errW_some] <;> rfl), by repeat (first | (with_reducible first | exact HB.out | apply below_alloc | apply pw_below_drewN | apply below_drew1) | exact HB.out)⟩
            · replace c8 := Bool.eq_false_iff.mpr c8
              subst c8
              have H1 : ((impl_Merge.f l0 l1).bind fun bt226 => ((spec_Merge.f kj5 l0 l1).bind fun bt230 => (if (bt226.2 != bt230.2) = true then (laws_FnMerge.j2 kj5 bt226.1 bt230.1 true) else (laws_FnMerge.j2 kj5 bt226.1 bt230.1 ((bt226.1.length : Int) != (bt230.1.length : Int)))))) = some r := by rw [if_neg (show ¬ (false = true) by decide)] at H; exact H
              clear H
              have H := H1
              clear H1
              replace H := Option.bind_eq_some_iff.mp H
              obtain ⟨⟨t226, t227⟩, A90, H⟩ := H
              replace H : ((spec_Merge.f kj5 l0 l1).bind fun bt230 => (if (t227 != bt230.2) = true then (laws_FnMerge.j2 kj5 t226 bt230.1 true) else (laws_FnMerge.j2 kj5 t226 bt230.1 ((t226.length : Int) != (bt230.1.length : Int))))) = some r := H
              have A9 := Aside0.mk A90
              clear A90
              replace H := Option.bind_eq_some_iff.mp H
              obtain ⟨⟨t230, t231⟩, A100, H⟩ := H
              replace H : (if (t227 != t231) = true then (laws_FnMerge.j2 kj5 t226 t230 true) else (laws_FnMerge.j2 kj5 t226 t230 ((t226.length : Int) != (t230.length : Int)))) = some r := H
              have A10 := Aside0.mk A100
              clear A100
              have HC11 := Aside0.mk H
              clear H
              go_upto_region 7 with (first | (go_at_call 23; (with_reducible refine (impl_Merge.calls _ _ l0 _ _ l1 t226 t227 _ ?side1 ?side2 ?side3 ?side4 A9.out).mono ?_); (case side1 => repeat (first | exact (Kd.C_below HR0.out HB.out) | (with_reducible refine Kd.C_alloc ?_ _) | (with_reducible refine Kd.C_drewN ?_ _) | (with_reducible refine Kd.C_drew ?_))); (case side2 => exact HC0.out); (case side3 => repeat (first | exact (Kd.C_below HR1.out HB.out) | (with_reducible refine Kd.C_alloc ?_ _) | (with_reducible refine Kd.C_drewN ?_ _) | (with_reducible refine Kd.C_drew ?_))); (case side4 => exact HC1.out); rintro e w12 ⟨v228, rfl, ho0, hb⟩; have n0_ := Aside0.mk (Kd.R_lower ho0 (below_size (by repeat (first | (with_reducible first | exact HB.out | apply below_alloc | apply pw_below_drewN | apply below_drew1) | exact HB.out)))); have n1_ := Aside0.mk (below_step (by repeat (first | (with_reducible first | exact HB.out | apply below_alloc | apply pw_below_drewN | apply below_drew1) | exact HB.out)) hb); clear HB; have HO229 := n0_; have HB := n1_; clear n0_ n1_; (try clear hb); (try clear hb2); (try clear hk); (try clear hi); (try clear ho0)) | (go_at_call 24; (with_reducible refine (spec_Merge.calls kj5 _ _ l0 _ _ l1 t230 t231 _ ?side1 ?side2 ?side3 ?side4 A10.out).mono ?_); (case side1 => repeat (first | exact (Kd.C_below HR0.out HB.out) | (with_reducible refine Kd.C_alloc ?_ _) | (with_reducible refine Kd.C_drewN ?_ _) | (with_reducible refine Kd.C_drew ?_))); (case side2 => exact HC0.out); (case side3 => repeat (first | exact (Kd.C_below HR1.out HB.out) | (with_reducible refine Kd.C_alloc ?_ _) | (with_reducible refine Kd.C_drewN ?_ _) | (with_reducible refine Kd.C_drew ?_))); (case side4 => exact HC1.out); rintro e w13 ⟨v232, rfl, ho0, hb⟩; have n0_ := Aside0.mk (Kd.R_elder' (by (with_reducible repeat (first | apply Kd.R_alloc | apply Kd.R_drewN | apply Kd.R_drew)); exact HO229.out) (Kd.R_base ho0) hb); have n1_ := Aside0.mk (Kd.R_lower (Kd.R_new' ho0 (Kd.R_lt (by (with_reducible repeat (first | apply Kd.R_alloc | apply Kd.R_drewN | apply Kd.R_drew)); exact HO229.out))) (below_size (by repeat (first | (with_reducible first | exact HB.out | apply below_alloc | apply pw_below_drewN | apply below_drew1) | exact HB.out)))); have n2_ := Aside0.mk (below_step (by repeat (first | (with_reducible first | exact HB.out | apply below_alloc | apply pw_below_drewN | apply below_drew1) | exact HB.out)) hb); clear HO229; clear HB; have HO229 := n0_; have HO233 := n1_; have HB := n2_; clear n0_ n1_ n2_; (try clear hb); (try clear hb2); (try clear hk); (try clear hi); (try clear ho0)))
              repeat (go_quiet (first | (go_at_call 23; (with_reducible refine (impl_Merge.calls _ _ l0 _ _ l1 t226 t227 _ ?side1 ?side2 ?side3 ?side4 A9.out).mono ?_); (case side1 => repeat (first | exact (Kd.C_below HR0.out HB.out) | (with_reducible refine Kd.C_alloc ?_ _) | (with_reducible refine Kd.C_drewN ?_ _) | (with_reducible refine Kd.C_drew ?_))); (case side2 => exact HC0.out); (case side3 => repeat (first | exact (Kd.C_below HR1.out HB.out) | (with_reducible refine Kd.C_alloc ?_ _) | (with_reducible refine Kd.C_drewN ?_ _) | (with_reducible refine Kd.C_drew ?_))); (case side4 => exact HC1.out); rintro e w12 ⟨v228, rfl, ho0, hb⟩; have n0_ := Aside0.mk (Kd.R_lower ho0 (below_size (by repeat (first | (with_reducible first | exact HB.out | apply below_alloc | apply pw_below_drewN | apply below_drew1) | exact HB.out)))); have n1_ := Aside0.mk (below_step (by repeat (first | (with_reducible first | exact HB.out | apply below_alloc | apply pw_below_drewN | apply below_drew1) | exact HB.out)) hb); clear HB; have HO229 := n0_; have HB := n1_; clear n0_ n1_; (try clear hb); (try clear hb2); (try clear hk); (try clear hi); (try clear ho0)) | (go_at_call 24; (with_reducible refine (spec_Merge.calls kj5 _ _ l0 _ _ l1 t230 t231 _ ?side1 ?side2 ?side3 ?side4 A10.out).mono ?_); (case side1 => repeat (first | exact (Kd.C_below HR0.out HB.out) | (with_reducible refine Kd.C_alloc ?_ _) | (with_reducible refine Kd.C_drewN ?_ _) | (with_reducible refine Kd.C_drew ?_))); (case side2 => exact HC0.out); (case side3 => repeat (first | exact (Kd.C_below HR1.out HB.out) | (with_reducible refine Kd.C_alloc ?_ _) | (with_reducible refine Kd.C_drewN ?_ _) | (with_reducible refine Kd.C_drew ?_))); (case side4 => exact HC1.out); rintro e w13 ⟨v232, rfl, ho0, hb⟩; have n0_ := Aside0.mk (Kd.R_elder' (by (with_reducible repeat (first | apply Kd.R_alloc | apply Kd.R_drewN | apply Kd.R_drew)); exact HO229.out) (Kd.R_base ho0) hb); have n1_ := Aside0.mk (Kd.R_lower (Kd.R_new' ho0 (Kd.R_lt (by (with_reducible repeat (first | apply Kd.R_alloc | apply Kd.R_drewN | apply Kd.R_drew)); exact HO229.out))) (below_size (by repeat (first | (with_reducible first | exact HB.out | apply below_alloc | apply pw_below_drewN | apply below_drew1) | exact HB.out)))); have n2_ := Aside0.mk (below_step (by repeat (first | (with_reducible first | exact HB.out | apply below_alloc | apply pw_below_drewN | apply below_drew1) | exact HB.out)) hb); clear HO229; clear HB; have HO229 := n0_; have HO233 := n1_; have HB := n2_; clear n0_ n1_ n2_; (try clear hb); (try clear hb2); (try clear hk); (try clear hi); (try clear ho0))); go_upto_region 7 with (first | (go_at_call 23; (with_reducible refine (impl_Merge.calls _ _ l0 _ _ l1 t226 t227 _ ?side1 ?side2 ?side3 ?side4 A9.out).mono ?_); (case side1 => repeat (first | exact (Kd.C_below HR0.out HB.out) | (with_reducible refine Kd.C_alloc ?_ _) | (with_reducible refine Kd.C_drewN ?_ _) | (with_reducible refine Kd.C_drew ?_))); (case side2 => exact HC0.out); (case side3 => repeat (first | exact (Kd.C_below HR1.out HB.out) | (with_reducible refine Kd.C_alloc ?_ _) | (with_reducible refine Kd.C_drewN ?_ _) | (with_reducible refine Kd.C_drew ?_))); (case side4 => exact HC1.out); rintro e w12 ⟨v228, rfl, ho0, hb⟩; have n0_ := Aside0.mk (Kd.R_lower ho0 (below_size (by repeat (first | (with_reducible first | exact HB.out | apply below_alloc | apply pw_below_drewN | apply below_drew1) | exact HB.out)))); have n1_ := Aside0.mk (below_step (by repeat (first | (with_reducible first | exact HB.out | apply below_alloc | apply pw_below_drewN | apply below_drew1) | exact HB.out)) hb); clear HB; have HO229 := n0_; have HB := n1_; clear n0_ n1_; (try clear hb); (try clear hb2); (try clear hk); (try clear hi); (try clear ho0)) | (go_at_call 24; (with_reducible refine (spec_Merge.calls kj5 _ _ l0 _ _ l1 t230 t231 _ ?side1 ?side2 ?side3 ?side4 A10.out).mono ?_); (case side1 => repeat (first | exact (Kd.C_below HR0.out HB.out) | (with_reducible refine Kd.C_alloc ?_ _) | (with_reducible refine Kd.C_drewN ?_ _) | (with_reducible refine Kd.C_drew ?_))); (case side2 => exact HC0.out); (case side3 => repeat (first | exact (Kd.C_below HR1.out HB.out) | (with_reducible refine Kd.C_alloc ?_ _) | (with_reducible refine Kd.C_drewN ?_ _) | (with_reducible refine Kd.C_drew ?_))); (case side4 => exact HC1.out); rintro e w13 ⟨v232, rfl, ho0, hb⟩; have n0_ := Aside0.mk (Kd.R_elder' (by (with_reducible repeat (first | apply Kd.R_alloc | apply Kd.R_drewN | apply Kd.R_drew)); exact HO229.out) (Kd.R_base ho0) hb); have n1_ := Aside0.mk (Kd.R_lower (Kd.R_new' ho0 (Kd.R_lt (by (with_reducible repeat (first | apply Kd.R_alloc | apply Kd.R_drewN | apply Kd.R_drew)); exact HO229.out))) (below_size (by repeat (first | (with_reducible first | exact HB.out | apply below_alloc | apply pw_below_drewN | apply below_drew1) | exact HB.out)))); have n2_ := Aside0.mk (below_step (by repeat (first | (with_reducible first | exact HB.out | apply below_alloc | apply pw_below_drewN | apply below_drew1) | exact HB.out)) hb); clear HO229; clear HB; have HO229 := n0_; have HO233 := n1_; have HB := n2_; clear n0_ n1_ n2_; (try clear hb); (try clear hb2); (try clear hk); (try clear hi); (try clear ho0))))
              (try simp only [Act.put, List.setIfInBounds_toArray, List.set_cons_zero, List.set_cons_succ])
              go_cut [47] (fun v47 wc => ∃ (kq : Nat) (x47_10 : Bool), v47 = .bool x47_10 ∧ Aside0 (laws_FnMerge.j2 kq t226 t230 x47_10 = some r) ∧ Aside0 (kq ≤ kj5) ∧ Aside0 (Kd.R k53 53 wc w.heap.size (fun k_ => some k_ ≠ (v232 : Value).ownBlock) v228 t226) ∧ Aside0 (Kd.R k53 53 wc w.heap.size (fun k_ => some k_ ≠ (v228 : Value).ownBlock) v232 t230) ∧ Aside0 (Below w.heap.size w wc))
              case first =>
                have H := HC11.out
                clear HC11
                by_cases c14 : (t227 != t231) = true
                · rw [if_pos c14] at H
                  have c14b0 : (t227 != t231) = true := c14
                  (try (have c14b1 : decide (t227 = t231) = false := by simpa using c14))
                  (try (have c14b2 : (t227 == t231) = false := by simpa using c14))
                  (try (have c14b3 : ¬ (t227 = t231) := by simpa using c14))
                  clear c14
                  (first | rw [c14b0] | (simp only [i64_w, i32_w]; rw [c14b0]) | skip)
                  have H' := Aside0.mk H
                  clear H
                  go_wp2
                  repeat (go_quiet (fail); try go_wp2)
                  go_meet
                  case rel => exact ⟨_, (true), (by first | rfl | (simp; done) | (simp [*]; done)), H', ⟨by have := HJ2.out; have := HJ5.out; first | omega | exact Nat.le_refl _⟩, ⟨by (with_reducible repeat (first | apply Kd.R_alloc | apply Kd.R_drewN | apply Kd.R_drew)); exact Kd.R_mono HO229.out (fun _ hk => hk.2)⟩, ⟨by (with_reducible repeat (first | apply Kd.R_alloc | apply Kd.R_drewN | apply Kd.R_drew)); exact Kd.R_mono HO233.out (fun _ hk => hk.2)⟩, ⟨by repeat (first | (with_reducible first | exact HB.out | apply below_alloc | apply pw_below_drewN | apply below_drew1) | exact HB.out)⟩⟩
                · rw [if_neg c14] at H
                  have c14b0 : (t227 != t231) = false := by simpa using c14
                  (try (have c14b1 : decide (t227 = t231) = true := by simpa using c14))
                  (try (have c14b2 : (t227 == t231) = true := by simpa using c14))
                  clear c14
                  (first | rw [c14b0] | (simp only [i64_w, i32_w]; rw [c14b0]) | skip)
                  have H' := Aside0.mk H
                  clear H
                  obtain ⟨Ao15, co15, eo15⟩ := Kd.R_slice HO229.out
                  subst eo15
                  obtain ⟨Ao16, co16, eo16⟩ := Kd.R_slice HO233.out
                  subst eo16
                  go_wp2
                  repeat (go_quiet (fail); try go_wp2)
                  go_meet
                  case rel => exact ⟨_, (((t226.length : Int) != (t230.length : Int))), (by first | rfl | (simp; done) | (simp [*]; done)), H', ⟨by have := HJ2.out; have := HJ5.out; first | omega | exact Nat.le_refl _⟩, ⟨by (with_reducible repeat (first | apply Kd.R_alloc | apply Kd.R_drewN | apply Kd.R_drew)); exact Kd.R_mono HO229.out (fun _ hk => hk.2)⟩, ⟨by (with_reducible repeat (first | apply Kd.R_alloc | apply Kd.R_drewN | apply Kd.R_drew)); exact Kd.R_mono HO233.out (fun _ hk => hk.2)⟩, ⟨by repeat (first | (with_reducible first | exact HB.out | apply below_alloc | apply pw_below_drewN | apply below_drew1) | exact HB.out)⟩⟩
              case rest =>
                clear HC11
                try clear c1
                try clear p2
                try clear c4
                try clear c4b0
                try clear c4b1
                try clear c5
                try clear c7
                try clear c7b0
                try clear c7b1
                try clear c8
                try clear c14
                try clear c14b0
                try clear c14b1
                try clear c14b2
                try clear p2
                obtain ⟨kq, x47_10, rfl, HA, HJ10, HO_5, HO_7, HB⟩ := hcut
                cases kq with
                | zero => exact absurd HA.out (by simp [laws_FnMerge.j2])
                | succ kj10 =>
                  have H := HA.out
                  clear HA
                  simp only [laws_FnMerge.j2] at H
                  by_cases c17 : x47_10 = true
                  · subst c17
                    have H1 : (some false) = some r := by rw [if_pos rfl] at H; exact H
                    clear H
                    have H := H1
                    clear H1
                    obtain rfl := Option.some.inj H
                    go_wp2
                    repeat (go_quiet (fail); try go_wp2)
                    go_ret
                    exact ⟨by first | rfl | (simp [errW_none, errW_some] <;> rfl) | (simp [*, errW_none, errW_some] <;> rfl), by repeat (first | (with_reducible first | exact HB.out | apply below_alloc | apply pw_below_drewN | apply below_drew1) | exact HB.out)⟩
                  · replace c17 := Bool.eq_false_iff.mpr c17
                    subst c17
                    have H1 : (laws_FnMerge.l0 kj10 t226 t230 (t226.length : Int) 0) = some r := by rw [if_neg (show ¬ (false = true) by decide)] at H; exact H
                    clear H
                    have H := H1
                    clear H1
                    have H' := Aside0.mk H
                    clear H
                    obtain ⟨Ao18, co18, eo18⟩ := Kd.R_slice HO_5.out
                    subst eo18
                    go_wp2
                    repeat (go_quiet (fail); try go_wp2)
                    go_loopg [50] kj10 (fun kq v50 w' => ∃ (x50_4 : Int), v50 = .int .i64 x50_4 ∧ Aside0 (laws_FnMerge.l0 kq t226 t230 (t226.length : Int) x50_4 = some r) ∧ Aside0 (kq ≤ kj10) ∧ Aside0 (Kd.R k53 53 w' w.heap.size (fun k_ => some k_ ≠ (v232 : Value).ownBlock) (.slice Ao18 t226.length co18) t226) ∧ Aside0 (Kd.R k53 53 w' w.heap.size (fun k_ => some k_ ≠ ((.slice Ao18 t226.length co18) : Value).ownBlock) v232 t230) ∧ Aside0 (Below w.heap.size w w'))
                    case atStart => exact ⟨(0), (by first | rfl | (simp; done) | (simp [*]; done)), H', ⟨Nat.le_refl _⟩, ⟨by (with_reducible repeat (first | apply Kd.R_alloc | apply Kd.R_drewN | apply Kd.R_drew)); exact HO_5.out⟩, ⟨by (with_reducible repeat (first | apply Kd.R_alloc | apply Kd.R_drewN | apply Kd.R_drew)); exact HO_7.out⟩, ⟨by repeat (first | (with_reducible first | exact HB.out | apply below_alloc | apply pw_below_drewN | apply below_drew1) | exact HB.out)⟩⟩
                    case round =>
                      clear H'
                      try clear c1
                      try clear p2
                      try clear c4
                      try clear c4b0
                      try clear c4b1
                      try clear c5
                      try clear c7
                      try clear c7b0
                      try clear c7b1
                      try clear c8
                      try clear c14
                      try clear c14b0
                      try clear c14b1
                      try clear c14b2
                      try clear c17
                      try clear p2
                      obtain ⟨x50_4, rfl, HA, HK4, HO_5, HO_7, HB⟩ := hrel
                      cases gk with
                      | zero => exact absurd HA.out (by simp [laws_FnMerge.l0])
                      | succ k4 =>
                        have H := HA.out
                        clear HA
                        simp only [laws_FnMerge.l0] at H
                        by_cases c19 : x50_4 < (t226.length : Int)
                        · rw [if_pos c19] at H
                          have c19b0 : decide (x50_4 < (t226.length : Int)) = true := decide_eq_true c19
                          clear c19
                          by_cases c20 : 0 ≤ x50_4
                          · rw [if_pos c20] at H
                            have c20b0 : decide (0 ≤ x50_4) = true := decide_eq_true c20
                            clear c20
                            by_cases c21 : x50_4 < (t226.length : Int)
                            · rw [if_pos c21] at H
                              have c21b0 : decide (x50_4 < (t226.length : Int)) = true := decide_eq_true c21
                              clear c21
                              by_cases c22 : x50_4 < (t230.length : Int)
                              · rw [if_pos c22] at H
                                have c22b0 : decide (x50_4 < (t230.length : Int)) = true := decide_eq_true c22
                                clear c22
                                by_cases c23 : (!(((rd_T53 t226 x50_4).f0) == ((rd_T53 t230 x50_4).f0)) || (!(((rd_T53 t226 x50_4).f1) == ((rd_T53 t230 x50_4).f1)))) = true
                                · rw [if_pos c23] at H
                                  have c23b0 : (!(((rd_T53 t226 x50_4).f0) == ((rd_T53 t230 x50_4).f0)) || (!(((rd_T53 t226 x50_4).f1) == ((rd_T53 t230 x50_4).f1)))) = true := c23
                                  clear c23
                                  obtain rfl := Option.some.inj H
                                  have p234 : 0 ≤ (x50_4 : Int) := of_decide_eq_true (by first | (with_reducible assumption) | assumption)
                                  have q234 : x50_4 < (t226.length : Int) := of_decide_eq_true (by first | (with_reducible assumption) | assumption)
                                  obtain ⟨ad234, e234, hx234_0, hx234_1⟩ := at_T53 (Kd.R_reads' HO_5.out).2.2 x50_4 p234 q234
                                  cases e234
                                  replace p234 := eq_true p234
                                  replace q234 := eq_true q234
                                  obtain ⟨Ao24, co24, eo24⟩ := Kd.R_slice HO_7.out
                                  subst eo24
                                  have p235 : 0 ≤ (x50_4 : Int) := of_decide_eq_true (by first | (with_reducible assumption) | assumption)
                                  have q235 : x50_4 < (t230.length : Int) := of_decide_eq_true (by first | (with_reducible assumption) | assumption)
                                  obtain ⟨ad235, e235, hx235_0, hx235_1⟩ := at_T53 (Kd.R_reads' HO_7.out).2.2 x50_4 p235 q235
                                  cases e235
                                  replace p235 := eq_true p235
                                  replace q235 := eq_true q235
                                  go_wp2
                                  repeat (go_quiet (fail); try go_wp2)
                                  go_ret
                                  exact ⟨by first | rfl | (simp [errW_none, errW_some] <;> rfl) | (simp [*, errW_none, errW_some] <;> rfl), by repeat (first | (with_reducible first | exact HB.out | apply below_alloc | apply pw_below_drewN | apply below_drew1) | exact HB.out)⟩
                                · rw [if_neg c23] at H
                                  have c23b0 : (!(((rd_T53 t226 x50_4).f0) == ((rd_T53 t230 x50_4).f0)) || (!(((rd_T53 t226 x50_4).f1) == ((rd_T53 t230 x50_4).f1)))) = false := by simpa using c23
                                  clear c23
                                  have H' := Aside0.mk H
                                  clear H
                                  have p234 : 0 ≤ (x50_4 : Int) := of_decide_eq_true (by first | (with_reducible assumption) | assumption)
                                  have q234 : x50_4 < (t226.length : Int) := of_decide_eq_true (by first | (with_reducible assumption) | assumption)
                                  obtain ⟨ad234, e234, hx234_0, hx234_1⟩ := at_T53 (Kd.R_reads' HO_5.out).2.2 x50_4 p234 q234
                                  cases e234
                                  replace p234 := eq_true p234
                                  replace q234 := eq_true q234
                                  obtain ⟨Ao25, co25, eo25⟩ := Kd.R_slice HO_7.out
                                  subst eo25
                                  have p235 : 0 ≤ (x50_4 : Int) := of_decide_eq_true (by first | (with_reducible assumption) | assumption)
                                  have q235 : x50_4 < (t230.length : Int) := of_decide_eq_true (by first | (with_reducible assumption) | assumption)
                                  obtain ⟨ad235, e235, hx235_0, hx235_1⟩ := at_T53 (Kd.R_reads' HO_7.out).2.2 x50_4 p235 q235
                                  cases e235
                                  replace p235 := eq_true p235
                                  replace q235 := eq_true q235
                                  go_wp2
                                  repeat (go_quiet (fail); try go_wp2)
                                  go_roundg k4
                                  case measure => have := HJ2.out; have := HJ5.out; have := HJ10.out; have := HK4.out; omega
                                  case rel => exact ⟨(wrap64 (x50_4 + 1)), (by first | rfl | (simp; done) | (simp [*]; done)), H', ⟨by have := HJ2.out; have := HJ5.out; have := HJ10.out; have := HK4.out; omega⟩, ⟨by (with_reducible repeat (first | apply Kd.R_alloc | apply Kd.R_drewN | apply Kd.R_drew)); exact HO_5.out⟩, ⟨by (with_reducible repeat (first | apply Kd.R_alloc | apply Kd.R_drewN | apply Kd.R_drew)); exact HO_7.out⟩, ⟨by repeat (first | (with_reducible first | exact HB.out | apply below_alloc | apply pw_below_drewN | apply below_drew1) | exact HB.out)⟩⟩
                              · rw [if_neg c22] at H
                                exact absurd H (by simp)
                            · rw [if_neg c21] at H
                              exact absurd H (by simp)
                          · rw [if_neg c20] at H
                            exact absurd H (by simp)
                        · rw [if_neg c19] at H
                          have c19b0 : decide (x50_4 < (t226.length : Int)) = false := decide_eq_false c19
                          clear c19
                          obtain rfl := Option.some.inj H
                          go_wp2
                          repeat (go_quiet (fail); try go_wp2)
                          go_ret
                          exact ⟨by first | rfl | (simp [errW_none, errW_some] <;> rfl) | (simp [*, errW_none, errW_some] <;> rfl), by repeat (first | (with_reducible first | exact HB.out | apply below_alloc | apply pw_below_drewN | apply below_drew1) | exact HB.out)⟩

/-! ### spec_SameLive: function 25 -/
def spec_SameLive.l0 : Nat → List (S95) → List (S95) → Int → Option (Bool)
  | 0, _, _, _ => none
  | k + 1, x0, x1, x5 => if x5 < (x0.length : Int) then (if 0 ≤ x5 then (if x5 < (x1.length : Int) then (if (!(((rd_T95 x0 x5).f0) == ((rd_T95 x1 x5).f0)) || (!(((rd_T95 x0 x5).f1) == ((rd_T95 x1 x5).f1)))) = true then (some false) else (spec_SameLive.l0 k x0 x1 (wrap64 (x5 + 1)))) else (none)) else (none)) else (some true)
def spec_SameLive.f (k : Nat) (l0 : List (S95)) (l1 : List (S95)) : Option (Bool) := if (l0.length : Int) = (l1.length : Int) then (spec_SameLive.l0 k l0 l1 0) else (some false)
theorem spec_SameLive.mono_l : ∀ k, (∀ y0 y1 y2, LeO (spec_SameLive.l0 k y0 y1 y2) (spec_SameLive.l0 (k + 1) y0 y1 y2))
  | 0 => fun _ _ _ r h => by simp [spec_SameLive.l0] at h
  | k + 1 => by
    have ih0 := spec_SameLive.mono_l k
    · intro y0 y1 y2
      unfold spec_SameLive.l0
      repeat' first
      | (with_reducible exact ih0 _ _ _)
      | (with_reducible exact LeO.refl _)
      | (with_reducible exact LeO.none _)
      | (with_reducible refine LeO.ite ?_ ?_)
      | (with_reducible refine LeO.bind ?_ (fun _ => ?_))
      | exact ih0 _ _ _
      | exact LeO.none _
      | refine LeO.ite ?_ ?_
      | refine LeO.bind ?_ (fun _ => ?_)
theorem spec_SameLive.mono : ∀ a0 a1 k, LeO (spec_SameLive.f k a0 a1) (spec_SameLive.f (k + 1) a0 a1) := by
  intro a0 a1 k
  have ih0 := spec_SameLive.mono_l k
  unfold spec_SameLive.f
  repeat' first
      | (with_reducible exact ih0 _ _ _)
      | (with_reducible exact LeO.refl _)
      | (with_reducible exact LeO.none _)
      | (with_reducible refine LeO.ite ?_ ?_)
      | (with_reducible refine LeO.bind ?_ (fun _ => ?_))
      | exact ih0 _ _ _
      | exact LeO.none _
      | refine LeO.ite ?_ ?_
      | refine LeO.bind ?_ (fun _ => ?_)
set_option maxHeartbeats 8000000 in
set_option maxRecDepth 100000 in
theorem spec_SameLive.calls (k : Nat) (A0 : Option Addr) (c0 : Nat) (l0 : List (S95)) (A1 : Option Addr) (c1 : Nat) (l1 : List (S95)) (r : Bool) (w : World) (hr0 : Kd.C k95 w A0 l0.length l0) (hc0 : l0.length ≤ c0) (hr1 : Kd.C k95 w A1 l1.length l1) (hc1 : l1.length ≤ c1) (h : spec_SameLive.f k l0 l1 = some r) :
    Calls Try.prog 25 #[.slice A0 l0.length c0, .slice A1 l1.length c1] w fun e w' => e = .returned (.bool r) ∧ Drawn0 w w' := by
  have hu95 := Try.underlying95
  have HR0 := Aside0.mk hr0
  have HC0 := Aside0.mk hc0
  clear hr0 hc0
  have HR1 := Aside0.mk hr1
  have HC1 := Aside0.mk hc1
  clear hr1 hc1
  have H : (if (l0.length : Int) = (l1.length : Int) then (spec_SameLive.l0 k l0 l1 0) else (some false)) = some r := h
  clear h
  by_cases c3 : (l0.length : Int) = (l1.length : Int)
  · rw [if_pos c3] at H
    have c3b0 : ((l0.length : Int) == (l1.length : Int)) = true := beq_iff_eq.mpr c3
    have c3b1 : ((l0.length : Int) != (l1.length : Int)) = false := bne_eq_false_iff_eq.mpr c3
    have c3b2 : (l0.length == l1.length) = true := by first | simpa using c3 | (simp at c3 ⊢; omega)
    clear c3
    have H' := Aside0.mk H
    clear H
    go_enter Try.func25, Try.ntmps25
    go_wp2
    repeat (go_quiet (fail); try go_wp2)
    go_loopg [5] k (fun kq v5 w' => ∃ (x5_1 : Int), v5 = .int .i64 x5_1 ∧ Aside0 (spec_SameLive.l0 kq l0 l1 x5_1 = some r) ∧ Aside0 (kq ≤ k) ∧ Drawn0 w w')
    case atStart => exact ⟨(0), (by first | rfl | (simp; done) | (simp [*]; done)), H', ⟨Nat.le_refl _⟩, by repeat (first | exact Drawn0.refl _ | apply Drawn0.step)⟩
    case round =>
      clear H'
      try clear c1
      try clear c2
      try clear p2
      try clear c3
      try clear c3b0
      try clear c3b1
      try clear c3b2
      obtain ⟨x5_1, rfl, HA, HK1, ⟨m1, rfl⟩⟩ := hrel
      cases gk with
      | zero => exact absurd HA.out (by simp [spec_SameLive.l0])
      | succ k1 =>
        have H := HA.out
        clear HA
        simp only [spec_SameLive.l0] at H
        by_cases c4 : x5_1 < (l0.length : Int)
        · rw [if_pos c4] at H
          have c4b0 : decide (x5_1 < (l0.length : Int)) = true := decide_eq_true c4
          clear c4
          by_cases c5 : 0 ≤ x5_1
          · rw [if_pos c5] at H
            have c5b0 : decide (0 ≤ x5_1) = true := decide_eq_true c5
            clear c5
            by_cases c6 : x5_1 < (l1.length : Int)
            · rw [if_pos c6] at H
              have c6b0 : decide (x5_1 < (l1.length : Int)) = true := decide_eq_true c6
              clear c6
              by_cases c7 : (!(((rd_T95 l0 x5_1).f0) == ((rd_T95 l1 x5_1).f0)) || (!(((rd_T95 l0 x5_1).f1) == ((rd_T95 l1 x5_1).f1)))) = true
              · rw [if_pos c7] at H
                have c7b0 : (!(((rd_T95 l0 x5_1).f0) == ((rd_T95 l1 x5_1).f0)) || (!(((rd_T95 l0 x5_1).f1) == ((rd_T95 l1 x5_1).f1)))) = true := c7
                clear c7
                obtain rfl := Option.some.inj H
                have p236 : 0 ≤ (x5_1 : Int) := of_decide_eq_true (by first | (with_reducible assumption) | assumption)
                have q236 : x5_1 < (l0.length : Int) := of_decide_eq_true (by first | (with_reducible assumption) | assumption)
                obtain ⟨ad236, e236, hx236_0, hx236_1⟩ := at_T95 HR0.out x5_1 p236 q236
                cases e236
                replace p236 := eq_true p236
                replace q236 := eq_true q236
                have p237 : 0 ≤ (x5_1 : Int) := of_decide_eq_true (by first | (with_reducible assumption) | assumption)
                have q237 : x5_1 < (l1.length : Int) := of_decide_eq_true (by first | (with_reducible assumption) | assumption)
                obtain ⟨ad237, e237, hx237_0, hx237_1⟩ := at_T95 HR1.out x5_1 p237 q237
                cases e237
                replace p237 := eq_true p237
                replace q237 := eq_true q237
                go_wp2
                repeat (go_quiet (fail); try go_wp2)
                go_ret
                exact ⟨by first | rfl | (simp; done) | (simp [*]; done), by repeat (first | exact Drawn0.refl _ | apply Drawn0.step)⟩
              · rw [if_neg c7] at H
                have c7b0 : (!(((rd_T95 l0 x5_1).f0) == ((rd_T95 l1 x5_1).f0)) || (!(((rd_T95 l0 x5_1).f1) == ((rd_T95 l1 x5_1).f1)))) = false := by simpa using c7
                clear c7
                have H' := Aside0.mk H
                clear H
                have p236 : 0 ≤ (x5_1 : Int) := of_decide_eq_true (by first | (with_reducible assumption) | assumption)
                have q236 : x5_1 < (l0.length : Int) := of_decide_eq_true (by first | (with_reducible assumption) | assumption)
                obtain ⟨ad236, e236, hx236_0, hx236_1⟩ := at_T95 HR0.out x5_1 p236 q236
                cases e236
                replace p236 := eq_true p236
                replace q236 := eq_true q236
                have p237 : 0 ≤ (x5_1 : Int) := of_decide_eq_true (by first | (with_reducible assumption) | assumption)
                have q237 : x5_1 < (l1.length : Int) := of_decide_eq_true (by first | (with_reducible assumption) | assumption)
                obtain ⟨ad237, e237, hx237_0, hx237_1⟩ := at_T95 HR1.out x5_1 p237 q237
                cases e237
                replace p237 := eq_true p237
                replace q237 := eq_true q237
                go_wp2
                repeat (go_quiet (fail); try go_wp2)
                go_roundg k1
                case measure => have := HK1.out; omega
                case rel => exact ⟨(wrap64 (x5_1 + 1)), (by first | rfl | (simp; done) | (simp [*]; done)), H', ⟨by have := HK1.out; omega⟩, by repeat (first | exact Drawn0.refl _ | apply Drawn0.step)⟩
            · rw [if_neg c6] at H
              exact absurd H (by simp)
          · rw [if_neg c5] at H
            exact absurd H (by simp)
        · rw [if_neg c4] at H
          have c4b0 : decide (x5_1 < (l0.length : Int)) = false := decide_eq_false c4
          clear c4
          obtain rfl := Option.some.inj H
          go_wp2
          repeat (go_quiet (fail); try go_wp2)
          go_ret
          exact ⟨by first | rfl | (simp; done) | (simp [*]; done), by repeat (first | exact Drawn0.refl _ | apply Drawn0.step)⟩
  · rw [if_neg c3] at H
    have c3b0 : ((l0.length : Int) == (l1.length : Int)) = false := beq_eq_false_iff_ne.mpr c3
    have c3b1 : ((l0.length : Int) != (l1.length : Int)) = true := bne_iff_ne.mpr c3
    have c3b2 : (l0.length == l1.length) = false := by first | simpa using c3 | (simp at c3 ⊢; omega)
    obtain rfl := Option.some.inj H
    go_enter Try.func25, Try.ntmps25
    go_wp2
    repeat (go_quiet (fail); try go_wp2)
    go_ret
    exact ⟨by first | rfl | (simp; done) | (simp [*]; done), by repeat (first | exact Drawn0.refl _ | apply Drawn0.step)⟩

end Go.Proofs.Ytlmmjchdfngdgaa.Q
