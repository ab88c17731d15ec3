-- PRINTED BY print.sh 35421559b90ae4d0a3588c463048766b98c2df88dd9212a6774a882060cdf62d: not written by this session
import Derived.Test.YtlmmjchdfngdgaaPFnSpecsx0
namespace Go.Proofs.Ytlmmjchdfngdgaa.PFnSpecs
open Go.RowKit Go.Proofs.YtlmmjchdfngdgaaW.PrintWords Go.Proofs.YtlmmjchdfngdgaaW.PrintLast Go.Proofs.YtlmmjchdfngdgaaW.PrintMore
attribute [local go_sem] max2_int min2_int max_two min_two max_three min_three max_four min_four   -- for this text's walks alone
set_option linter.unusedVariables false
set_option linter.unusedSimpArgs false

/-! ### spec_Width: function 9 -/
def spec_Width.j0 : Nat → Int → Bool → Option (Int × Bool)
  | 0, _, _ => none
  | k + 1, x4, x7 => if x7 = true then (some (1, true)) else (if x4 = 3 then (some (2, true)) else (if x4 = 7 then (some (4, true)) else (if x4 = 15 then (some (8, true)) else (if x4 = 31 then (some (16, true)) else (if x4 = 63 then (some (32, true)) else (if x4 = 127 then (some (64, true)) else (some (0, false))))))))
def spec_Width.f (k : Nat) (a0 : Int) : Option (Int × Bool) := if a0 = 0 then (some (0, true)) else (if a0 = 1 then (spec_Width.j0 k a0 (a0 == 1)) else (spec_Width.j0 k a0 (a0 == 2)))
theorem spec_Width.mono_l : ∀ k, (∀ y0 y1, LeO (spec_Width.j0 k y0 y1) (spec_Width.j0 (k + 1) y0 y1))
  | 0 => fun _ _ r h => by simp [spec_Width.j0] at h
  | k + 1 => by
    have ih0 := spec_Width.mono_l k
    · intro y0 y1
      unfold spec_Width.j0
      repeat' first
      | (with_reducible exact ih0 _ _)
      | (with_reducible exact LeO.refl _)
      | (with_reducible exact LeO.none _)
      | (with_reducible refine LeO.ite ?_ ?_)
      | (with_reducible refine LeO.bind ?_ (fun _ => ?_))
      | exact ih0 _ _
      | exact LeO.none _
      | refine LeO.ite ?_ ?_
      | refine LeO.bind ?_ (fun _ => ?_)
theorem spec_Width.mono : ∀ a0 k, LeO (spec_Width.f k a0) (spec_Width.f (k + 1) a0) := by
  intro a0 k
  have ih0 := spec_Width.mono_l k
  unfold spec_Width.f
  repeat' first
      | (with_reducible exact ih0 _ _)
      | (with_reducible exact LeO.refl _)
      | (with_reducible exact LeO.none _)
      | (with_reducible refine LeO.ite ?_ ?_)
      | (with_reducible refine LeO.bind ?_ (fun _ => ?_))
      | exact ih0 _ _
      | exact LeO.none _
      | refine LeO.ite ?_ ?_
      | refine LeO.bind ?_ (fun _ => ?_)
set_option maxHeartbeats 8000000 in
set_option maxRecDepth 100000 in
theorem spec_Width.calls (k : Nat) (a0 : Int) (r1 : Int) (r2 : Bool) (w : World) (h : spec_Width.f k a0 = some (r1, r2)) :
    Calls Try.prog 9 #[.int .u16 a0] w fun e w' => e = .returned (.tuple #[.int .u64 r1, .bool r2]) ∧ Drawn0 w w' := by
  have H : (if a0 = 0 then (some (0, true)) else (if a0 = 1 then (spec_Width.j0 k a0 (a0 == 1)) else (spec_Width.j0 k a0 (a0 == 2)))) = some (r1, r2) := h
  clear h
  by_cases c2 : a0 = 0
  · rw [if_pos c2] at H
    have c2b0 : (a0 == 0) = true := beq_iff_eq.mpr c2
    have c2b1 : (a0 != 0) = false := bne_eq_false_iff_eq.mpr c2
    clear c2
    simp only [Option.some.injEq, Prod.mk.injEq] at H
    obtain ⟨rfl, rfl⟩ := H
    go_enter Try.func9, Try.ntmps9
    go_wp2
    go_ret2
    exact ⟨by first | rfl | (simp; done) | (simp [*]; done), by repeat (first | exact Drawn0.refl _ | apply Drawn0.step)⟩
  · rw [if_neg c2] at H
    have c2b0 : (a0 == 0) = false := beq_eq_false_iff_ne.mpr c2
    have c2b1 : (a0 != 0) = true := bne_iff_ne.mpr c2
    have HC3 := Aside0.mk H
    clear H
    go_enter Try.func9, Try.ntmps9
    go_upto_if 7 with (fail)
    go_cut [7] (fun v7 wc => ∃ (kq : Nat) (x7_2 : Bool), v7 = .bool x7_2 ∧ Aside0 (spec_Width.j0 kq a0 x7_2 = some (r1, r2)) ∧ Aside0 (kq ≤ k) ∧ Drawn0 w wc)
    case first =>
      have H := HC3.out
      clear HC3
      by_cases c4 : a0 = 1
      · rw [if_pos c4] at H
        have c4b0 : (a0 == 1) = true := beq_iff_eq.mpr c4
        have c4b1 : (a0 != 1) = false := bne_eq_false_iff_eq.mpr c4
        clear c4
        (first | rw [c4b0] | (simp only [i64_w, i32_w]; rw [c4b0]) | skip)
        have H' := Aside0.mk H
        clear H
        go_wp2
        go_meet
        case rel => exact ⟨_, ((a0 == 1)), (by first | rfl | (simp; done) | (simp [*]; done)), H', ⟨by first | omega | exact Nat.le_refl _⟩, by repeat (first | exact Drawn0.refl _ | apply Drawn0.step)⟩
      · rw [if_neg c4] at H
        have c4b0 : (a0 == 1) = false := beq_eq_false_iff_ne.mpr c4
        have c4b1 : (a0 != 1) = true := bne_iff_ne.mpr c4
        (first | rw [c4b0] | (simp only [i64_w, i32_w]; rw [c4b0]) | skip)
        have H' := Aside0.mk H
        clear H
        go_wp2
        go_meet
        case rel => exact ⟨_, ((a0 == 2)), (by first | rfl | (simp; done) | (simp [*]; done)), H', ⟨by first | omega | exact Nat.le_refl _⟩, by repeat (first | exact Drawn0.refl _ | apply Drawn0.step)⟩
    case rest =>
      clear HC3
      try clear c2
      try clear c2b0
      try clear c2b1
      try clear p2
      try clear c4
      try clear c4b0
      try clear c4b1
      obtain ⟨kq, x7_2, rfl, HA, HJ2, ⟨mc2, rfl⟩⟩ := hcut
      cases kq with
      | zero => exact absurd HA.out (by simp [spec_Width.j0])
      | succ kj2 =>
        have H := HA.out
        clear HA
        simp only [spec_Width.j0] at H
        by_cases c5 : x7_2 = true
        · subst c5
          have H1 : (some (1, true)) = some (r1, r2) := by rw [if_pos rfl] at H; exact H
          clear H
          have H := H1
          clear H1
          simp only [Option.some.injEq, Prod.mk.injEq] at H
          obtain ⟨rfl, rfl⟩ := H
          go_wp2
          go_ret2
          exact ⟨by first | rfl | (simp; done) | (simp [*]; done), by repeat (first | exact Drawn0.refl _ | apply Drawn0.step)⟩
        · replace c5 := Bool.eq_false_iff.mpr c5
          subst c5
          have H1 : (if a0 = 3 then (some (2, true)) else (if a0 = 7 then (some (4, true)) else (if a0 = 15 then (some (8, true)) else (if a0 = 31 then (some (16, true)) else (if a0 = 63 then (some (32, true)) else (if a0 = 127 then (some (64, true)) else (some (0, false)))))))) = some (r1, r2) := by rw [if_neg (show ¬ (false = true) by decide)] at H; exact H
          clear H
          have H := H1
          clear H1
          by_cases c6 : a0 = 3
          · rw [if_pos c6] at H
            have c6b0 : (a0 == 3) = true := beq_iff_eq.mpr c6
            have c6b1 : (a0 != 3) = false := bne_eq_false_iff_eq.mpr c6
            clear c6
            simp only [Option.some.injEq, Prod.mk.injEq] at H
            obtain ⟨rfl, rfl⟩ := H
            go_wp2
            go_ret2
            exact ⟨by first | rfl | (simp; done) | (simp [*]; done), by repeat (first | exact Drawn0.refl _ | apply Drawn0.step)⟩
          · rw [if_neg c6] at H
            have c6b0 : (a0 == 3) = false := beq_eq_false_iff_ne.mpr c6
            have c6b1 : (a0 != 3) = true := bne_iff_ne.mpr c6
            by_cases c7 : a0 = 7
            · rw [if_pos c7] at H
              have c7b0 : (a0 == 7) = true := beq_iff_eq.mpr c7
              have c7b1 : (a0 != 7) = false := bne_eq_false_iff_eq.mpr c7
              clear c7
              simp only [Option.some.injEq, Prod.mk.injEq] at H
              obtain ⟨rfl, rfl⟩ := H
              go_wp2
              go_ret2
              exact ⟨by first | rfl | (simp; done) | (simp [*]; done), by repeat (first | exact Drawn0.refl _ | apply Drawn0.step)⟩
            · rw [if_neg c7] at H
              have c7b0 : (a0 == 7) = false := beq_eq_false_iff_ne.mpr c7
              have c7b1 : (a0 != 7) = true := bne_iff_ne.mpr c7
              by_cases c8 : a0 = 15
              · rw [if_pos c8] at H
                have c8b0 : (a0 == 15) = true := beq_iff_eq.mpr c8
                have c8b1 : (a0 != 15) = false := bne_eq_false_iff_eq.mpr c8
                clear c8
                simp only [Option.some.injEq, Prod.mk.injEq] at H
                obtain ⟨rfl, rfl⟩ := H
                go_wp2
                go_ret2
                exact ⟨by first | rfl | (simp; done) | (simp [*]; done), by repeat (first | exact Drawn0.refl _ | apply Drawn0.step)⟩
              · rw [if_neg c8] at H
                have c8b0 : (a0 == 15) = false := beq_eq_false_iff_ne.mpr c8
                have c8b1 : (a0 != 15) = true := bne_iff_ne.mpr c8
                by_cases c9 : a0 = 31
                · rw [if_pos c9] at H
                  have c9b0 : (a0 == 31) = true := beq_iff_eq.mpr c9
                  have c9b1 : (a0 != 31) = false := bne_eq_false_iff_eq.mpr c9
                  clear c9
                  simp only [Option.some.injEq, Prod.mk.injEq] at H
                  obtain ⟨rfl, rfl⟩ := H
                  go_wp2
                  go_ret2
                  exact ⟨by first | rfl | (simp; done) | (simp [*]; done), by repeat (first | exact Drawn0.refl _ | apply Drawn0.step)⟩
                · rw [if_neg c9] at H
                  have c9b0 : (a0 == 31) = false := beq_eq_false_iff_ne.mpr c9
                  have c9b1 : (a0 != 31) = true := bne_iff_ne.mpr c9
                  by_cases c10 : a0 = 63
                  · rw [if_pos c10] at H
                    have c10b0 : (a0 == 63) = true := beq_iff_eq.mpr c10
                    have c10b1 : (a0 != 63) = false := bne_eq_false_iff_eq.mpr c10
                    clear c10
                    simp only [Option.some.injEq, Prod.mk.injEq] at H
                    obtain ⟨rfl, rfl⟩ := H
                    go_wp2
                    go_ret2
                    exact ⟨by first | rfl | (simp; done) | (simp [*]; done), by repeat (first | exact Drawn0.refl _ | apply Drawn0.step)⟩
                  · rw [if_neg c10] at H
                    have c10b0 : (a0 == 63) = false := beq_eq_false_iff_ne.mpr c10
                    have c10b1 : (a0 != 63) = true := bne_iff_ne.mpr c10
                    by_cases c11 : a0 = 127
                    · rw [if_pos c11] at H
                      have c11b0 : (a0 == 127) = true := beq_iff_eq.mpr c11
                      have c11b1 : (a0 != 127) = false := bne_eq_false_iff_eq.mpr c11
                      clear c11
                      simp only [Option.some.injEq, Prod.mk.injEq] at H
                      obtain ⟨rfl, rfl⟩ := H
                      go_wp2
                      go_ret2
                      exact ⟨by first | rfl | (simp; done) | (simp [*]; done), by repeat (first | exact Drawn0.refl _ | apply Drawn0.step)⟩
                    · rw [if_neg c11] at H
                      have c11b0 : (a0 == 127) = false := beq_eq_false_iff_ne.mpr c11
                      have c11b1 : (a0 != 127) = true := bne_iff_ne.mpr c11
                      simp only [Option.some.injEq, Prod.mk.injEq] at H
                      obtain ⟨rfl, rfl⟩ := H
                      go_wp2
                      go_ret2
                      exact ⟨by first | rfl | (simp; done) | (simp [*]; done), by repeat (first | exact Drawn0.refl _ | apply Drawn0.step)⟩

/-! ### reg_Spec_Mask: function 29 -/
def reg_Spec_Mask.f (a0 : Int) : Option (Int) := some a0
set_option maxHeartbeats 8000000 in
set_option maxRecDepth 100000 in
theorem reg_Spec_Mask.calls (a0 : Int) (r : Int) (w : World) (h : reg_Spec_Mask.f a0 = some r) :
    Calls Try.prog 29 #[.int .u16 a0] w fun e w' => e = .returned (.int .u16 r) ∧ Drawn0 w w' := by
  have H : (some a0) = some r := h
  clear h
  obtain rfl := Option.some.inj H
  go_enter Try.func29, Try.ntmps29
  go_wp2
  go_ret
  exact ⟨by first | rfl | (simp; done) | (simp [*]; done), by repeat (first | exact Drawn0.refl _ | apply Drawn0.step)⟩

/-! ### impl_SpecMask: function 10 -/
def impl_SpecMask.f (a0 : Int) : Option (Int) := (reg_Spec_Mask.f a0).bind fun t101 => (some t101)
set_option maxHeartbeats 8000000 in
set_option maxRecDepth 100000 in
theorem impl_SpecMask.calls (a0 : Int) (r : Int) (w : World) (h : impl_SpecMask.f a0 = some r) :
    Calls Try.prog 10 #[.int .u16 a0] w fun e w' => e = .returned (.int .u16 r) ∧ Drawn0 w w' := by
  have H : ((reg_Spec_Mask.f a0).bind fun t101 => (some t101)) = some r := h
  clear h
  replace H := Option.bind_eq_some_iff.mp H
  obtain ⟨t101, A20, H⟩ := H
  replace H : (some t101) = some r := H
  have A2 := Aside0.mk A20
  clear A20
  obtain rfl := Option.some.inj H
  go_enter Try.func10, Try.ntmps10
  go_wp2_with (first | ((with_reducible refine gate_callee (f := 29) rfl ?_); refine goesL_ (some 4) rfl rfl Try.func29 (by kernel_rfl) rfl #[.int .u16 a0] rfl (by (try simp only [List.map_toArray, List.map_cons, List.map_nil]); first | done | rfl | (simp only [List.length_drop, List.length_take]; rfl)) ?_; (with_reducible refine (reg_Spec_Mask.calls a0 t101 _ A2.out).mono ?_); rintro e w' ⟨rfl, ⟨nd, rfl⟩⟩; refine ⟨_, rfl, ?_⟩))
  go_ret
  exact ⟨by first | rfl | (simp; done) | (simp [*]; done), by repeat (first | exact Drawn0.refl _ | apply Drawn0.step)⟩

/-! ### spec_Mask: function 11 -/
def spec_Mask.f (a0 : Int) : Option (Int) := some a0
set_option maxHeartbeats 8000000 in
set_option maxRecDepth 100000 in
theorem spec_Mask.calls (a0 : Int) (r : Int) (w : World) (h : spec_Mask.f a0 = some r) :
    Calls Try.prog 11 #[.int .u16 a0] w fun e w' => e = .returned (.int .u16 r) ∧ Drawn0 w w' := by
  have H : (some a0) = some r := h
  clear h
  obtain rfl := Option.some.inj H
  go_enter Try.func11, Try.ntmps11
  go_wp2
  go_ret
  exact ⟨by first | rfl | (simp; done) | (simp [*]; done), by repeat (first | exact Drawn0.refl _ | apply Drawn0.step)⟩

/-! ### reg_Spec_Size: function 30 -/
def reg_Spec_Size.f (a0 : Int) : Option (Int) := some (IntKind.u64.wrap (((IntKind.u64.wrap (a0)) / 2) + (Go.bits .and .u64 (IntKind.u64.wrap (a0)) 1)))
set_option maxHeartbeats 8000000 in
set_option maxRecDepth 100000 in
theorem reg_Spec_Size.calls (a0 : Int) (r : Int) (w : World) (h : reg_Spec_Size.f a0 = some r) :
    Calls Try.prog 30 #[.int .u16 a0] w fun e w' => e = .returned (.int .u64 r) ∧ Drawn0 w w' := by
  have H : (some (IntKind.u64.wrap (((IntKind.u64.wrap (a0)) / 2) + (Go.bits .and .u64 (IntKind.u64.wrap (a0)) 1)))) = some r := h
  clear h
  obtain rfl := Option.some.inj H
  go_enter Try.func30, Try.ntmps30
  go_wp2
  go_ret
  exact ⟨by first | rfl | (simp; done) | (simp [*]; done), by repeat (first | exact Drawn0.refl _ | apply Drawn0.step)⟩

/-! ### impl_SpecSize: function 12 -/
def impl_SpecSize.f (a0 : Int) : Option (Int) := (reg_Spec_Size.f a0).bind fun t102 => (some t102)
set_option maxHeartbeats 8000000 in
set_option maxRecDepth 100000 in
theorem impl_SpecSize.calls (a0 : Int) (r : Int) (w : World) (h : impl_SpecSize.f a0 = some r) :
    Calls Try.prog 12 #[.int .u16 a0] w fun e w' => e = .returned (.int .u64 r) ∧ Drawn0 w w' := by
  have H : ((reg_Spec_Size.f a0).bind fun t102 => (some t102)) = some r := h
  clear h
  replace H := Option.bind_eq_some_iff.mp H
  obtain ⟨t102, A20, H⟩ := H
  replace H : (some t102) = some r := H
  have A2 := Aside0.mk A20
  clear A20
  obtain rfl := Option.some.inj H
  go_enter Try.func12, Try.ntmps12
  go_wp2_with (first | ((with_reducible refine gate_callee (f := 30) rfl ?_); refine goesL_ (some 4) rfl rfl Try.func30 (by kernel_rfl) rfl #[.int .u16 a0] rfl (by (try simp only [List.map_toArray, List.map_cons, List.map_nil]); first | done | rfl | (simp only [List.length_drop, List.length_take]; rfl)) ?_; (with_reducible refine (reg_Spec_Size.calls a0 t102 _ A2.out).mono ?_); rintro e w' ⟨rfl, ⟨nd, rfl⟩⟩; refine ⟨_, rfl, ?_⟩))
  go_ret
  exact ⟨by first | rfl | (simp; done) | (simp [*]; done), by repeat (first | exact Drawn0.refl _ | apply Drawn0.step)⟩

/-! ### laws_FnSpecs: function 3 -/
def laws_FnSpecs.f (k : Nat) (a0 : Int) : Option (Bool) := (spec_Width.f k a0).bind fun bt103 => ((impl_SpecMask.f a0).bind fun t105 => ((spec_Mask.f a0).bind fun t106 => (if t105 = t106 then (if bt103.2 = true then ((impl_SpecSize.f a0).bind fun t107 => (some (t107 == bt103.1))) else (some true)) else (some false))))
theorem laws_FnSpecs.mono : ∀ a0 k, LeO (laws_FnSpecs.f k a0) (laws_FnSpecs.f (k + 1) a0) := by
  intro a0 k
  unfold laws_FnSpecs.f
  repeat' first
      | (with_reducible exact spec_Width.mono _ _)
      | (with_reducible exact LeO.refl _)
      | (with_reducible exact LeO.none _)
      | (with_reducible refine LeO.ite ?_ ?_)
      | (with_reducible refine LeO.bind ?_ (fun _ => ?_))
      | exact spec_Width.mono _ _
      | exact LeO.none _
      | refine LeO.ite ?_ ?_
      | refine LeO.bind ?_ (fun _ => ?_)
set_option maxHeartbeats 8000000 in
set_option maxRecDepth 100000 in
theorem laws_FnSpecs.calls (k : Nat) (a0 : Int) (r : Bool) (w : World) (h : laws_FnSpecs.f k a0 = some r) :
    Calls Try.prog 3 #[.int .u16 a0] w fun e w' => e = .returned (.bool r) ∧ Drawn0 w w' := by
  have H : ((spec_Width.f k a0).bind fun bt103 => ((impl_SpecMask.f a0).bind fun t105 => ((spec_Mask.f a0).bind fun t106 => (if t105 = t106 then (if bt103.2 = true then ((impl_SpecSize.f a0).bind fun t107 => (some (t107 == bt103.1))) else (some true)) else (some false))))) = some r := h
  clear h
  replace H := Option.bind_eq_some_iff.mp H
  obtain ⟨⟨t103, t104⟩, A20, H⟩ := H
  replace H : ((impl_SpecMask.f a0).bind fun t105 => ((spec_Mask.f a0).bind fun t106 => (if t105 = t106 then (if t104 = true then ((impl_SpecSize.f a0).bind fun t107 => (some (t107 == t103))) else (some true)) else (some false)))) = some r := H
  have A2 := Aside0.mk A20
  clear A20
  replace H := Option.bind_eq_some_iff.mp H
  obtain ⟨t105, A30, H⟩ := H
  replace H : ((spec_Mask.f a0).bind fun t106 => (if t105 = t106 then (if t104 = true then ((impl_SpecSize.f a0).bind fun t107 => (some (t107 == t103))) else (some true)) else (some false))) = some r := H
  have A3 := Aside0.mk A30
  clear A30
  replace H := Option.bind_eq_some_iff.mp H
  obtain ⟨t106, A40, H⟩ := H
  replace H : (if t105 = t106 then (if t104 = true then ((impl_SpecSize.f a0).bind fun t107 => (some (t107 == t103))) else (some true)) else (some false)) = some r := H
  have A4 := Aside0.mk A40
  clear A40
  by_cases c5 : t105 = t106
  · rw [if_pos c5] at H
    have c5b0 : (t105 == t106) = true := beq_iff_eq.mpr c5
    have c5b1 : (t105 != t106) = false := bne_eq_false_iff_eq.mpr c5
    clear c5
    by_cases c6 : t104 = true
    · subst c6
      have H1 : ((impl_SpecSize.f a0).bind fun t107 => (some (t107 == t103))) = some r := by rw [if_pos rfl] at H; exact H
      clear H
      have H := H1
      clear H1
      replace H := Option.bind_eq_some_iff.mp H
      obtain ⟨t107, A70, H⟩ := H
      replace H : (some (t107 == t103)) = some r := H
      have A7 := Aside0.mk A70
      clear A70
      obtain rfl := Option.some.inj H
      go_enter Try.func3, Try.ntmps3
      go_wp2_with (first | ((with_reducible refine gate_callee (f := 9) rfl ?_); refine goesL_ (some 7) rfl rfl Try.func9 (by kernel_rfl) rfl #[.int .u16 a0] rfl (by (try simp only [List.map_toArray, List.map_cons, List.map_nil]); first | done | rfl | (simp only [List.length_drop, List.length_take]; rfl)) ?_; (with_reducible refine (spec_Width.calls k a0 t103 true _ A2.out).mono ?_); rintro e w' ⟨rfl, ⟨nd, rfl⟩⟩; refine ⟨_, rfl, ?_⟩) | ((with_reducible refine gate_callee (f := 10) rfl ?_); refine goesL_ (some 11) rfl rfl Try.func10 (by kernel_rfl) rfl #[.int .u16 a0] rfl (by (try simp only [List.map_toArray, List.map_cons, List.map_nil]); first | done | rfl | (simp only [List.length_drop, List.length_take]; rfl)) ?_; (with_reducible refine (impl_SpecMask.calls a0 t105 _ A3.out).mono ?_); rintro e w' ⟨rfl, ⟨nd, rfl⟩⟩; refine ⟨_, rfl, ?_⟩) | ((with_reducible refine gate_callee (f := 11) rfl ?_); refine goesL_ (some 13) rfl rfl Try.func11 (by kernel_rfl) rfl #[.int .u16 a0] rfl (by (try simp only [List.map_toArray, List.map_cons, List.map_nil]); first | done | rfl | (simp only [List.length_drop, List.length_take]; rfl)) ?_; (with_reducible refine (spec_Mask.calls a0 t106 _ A4.out).mono ?_); rintro e w' ⟨rfl, ⟨nd, rfl⟩⟩; refine ⟨_, rfl, ?_⟩) | (go_at_call 12; (with_reducible refine (impl_SpecSize.calls a0 t107 _ A7.out).mono ?_); rintro e w' ⟨rfl, ⟨nd, rfl⟩⟩))
      go_ret
      exact ⟨by first | rfl | (simp; done) | (simp [*]; done), by repeat (first | exact Drawn0.refl _ | apply Drawn0.step)⟩
    · replace c6 := Bool.eq_false_iff.mpr c6
      subst c6
      have H1 : (some true) = some r := by rw [if_neg (show ¬ (false = true) by decide)] at H; exact H
      clear H
      have H := H1
      clear H1
      obtain rfl := Option.some.inj H
      go_enter Try.func3, Try.ntmps3
      go_wp2_with (first | ((with_reducible refine gate_callee (f := 9) rfl ?_); refine goesL_ (some 7) rfl rfl Try.func9 (by kernel_rfl) rfl #[.int .u16 a0] rfl (by (try simp only [List.map_toArray, List.map_cons, List.map_nil]); first | done | rfl | (simp only [List.length_drop, List.length_take]; rfl)) ?_; (with_reducible refine (spec_Width.calls k a0 t103 false _ A2.out).mono ?_); rintro e w' ⟨rfl, ⟨nd, rfl⟩⟩; refine ⟨_, rfl, ?_⟩) | ((with_reducible refine gate_callee (f := 10) rfl ?_); refine goesL_ (some 11) rfl rfl Try.func10 (by kernel_rfl) rfl #[.int .u16 a0] rfl (by (try simp only [List.map_toArray, List.map_cons, List.map_nil]); first | done | rfl | (simp only [List.length_drop, List.length_take]; rfl)) ?_; (with_reducible refine (impl_SpecMask.calls a0 t105 _ A3.out).mono ?_); rintro e w' ⟨rfl, ⟨nd, rfl⟩⟩; refine ⟨_, rfl, ?_⟩) | ((with_reducible refine gate_callee (f := 11) rfl ?_); refine goesL_ (some 13) rfl rfl Try.func11 (by kernel_rfl) rfl #[.int .u16 a0] rfl (by (try simp only [List.map_toArray, List.map_cons, List.map_nil]); first | done | rfl | (simp only [List.length_drop, List.length_take]; rfl)) ?_; (with_reducible refine (spec_Mask.calls a0 t106 _ A4.out).mono ?_); rintro e w' ⟨rfl, ⟨nd, rfl⟩⟩; refine ⟨_, rfl, ?_⟩))
      go_ret
      exact ⟨by first | rfl | (simp; done) | (simp [*]; done), by repeat (first | exact Drawn0.refl _ | apply Drawn0.step)⟩
  · rw [if_neg c5] at H
    have c5b0 : (t105 == t106) = false := beq_eq_false_iff_ne.mpr c5
    have c5b1 : (t105 != t106) = true := bne_iff_ne.mpr c5
    obtain rfl := Option.some.inj H
    go_enter Try.func3, Try.ntmps3
    go_wp2_with (first | ((with_reducible refine gate_callee (f := 9) rfl ?_); refine goesL_ (some 7) rfl rfl Try.func9 (by kernel_rfl) rfl #[.int .u16 a0] rfl (by (try simp only [List.map_toArray, List.map_cons, List.map_nil]); first | done | rfl | (simp only [List.length_drop, List.length_take]; rfl)) ?_; (with_reducible refine (spec_Width.calls k a0 t103 t104 _ A2.out).mono ?_); rintro e w' ⟨rfl, ⟨nd, rfl⟩⟩; refine ⟨_, rfl, ?_⟩) | ((with_reducible refine gate_callee (f := 10) rfl ?_); refine goesL_ (some 11) rfl rfl Try.func10 (by kernel_rfl) rfl #[.int .u16 a0] rfl (by (try simp only [List.map_toArray, List.map_cons, List.map_nil]); first | done | rfl | (simp only [List.length_drop, List.length_take]; rfl)) ?_; (with_reducible refine (impl_SpecMask.calls a0 t105 _ A3.out).mono ?_); rintro e w' ⟨rfl, ⟨nd, rfl⟩⟩; refine ⟨_, rfl, ?_⟩) | ((with_reducible refine gate_callee (f := 11) rfl ?_); refine goesL_ (some 13) rfl rfl Try.func11 (by kernel_rfl) rfl #[.int .u16 a0] rfl (by (try simp only [List.map_toArray, List.map_cons, List.map_nil]); first | done | rfl | (simp only [List.length_drop, List.length_take]; rfl)) ?_; (with_reducible refine (spec_Mask.calls a0 t106 _ A4.out).mono ?_); rintro e w' ⟨rfl, ⟨nd, rfl⟩⟩; refine ⟨_, rfl, ?_⟩))
    go_ret
    exact ⟨by first | rfl | (simp; done) | (simp [*]; done), by repeat (first | exact Drawn0.refl _ | apply Drawn0.step)⟩

/-- THE ONE PURE STATEMENT of laws_FnSpecs: yours. -/
def laws_FnSpecs.Pure : Prop := ∀ (a0 : Int), (Lit.int .u16 a0).wf = true → ∃ k, laws_FnSpecs.f k a0 = some true
theorem laws_FnSpecs.walk (P : laws_FnSpecs.Pure) (a0 : Int) (w : World) (w0 : (Lit.int .u16 a0).wf = true) :
    Calls Try.prog 3 #[.int .u16 a0] w fun e w' => e = .returned (.bool true) ∧ Below w.heap.size w w' := by
  obtain ⟨k, h⟩ := P a0 w0
  refine (laws_FnSpecs.calls k a0 true w h).mono ?_
  rintro e w' ⟨rfl, hd⟩
  exact ⟨rfl, hd.below⟩

end Go.Proofs.Ytlmmjchdfngdgaa.PFnSpecs
