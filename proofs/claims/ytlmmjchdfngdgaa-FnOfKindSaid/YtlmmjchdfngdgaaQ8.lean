-- Written by wip/drive.py (this claim's own program, over the kit's print).
import Derived.Test.YtlmmjchdfngdgaaQ0
namespace Go.Proofs.Ytlmmjchdfngdgaa.Q
open Go.RowKit Go.Proofs.YtlmmjchdfngdgaaW.PrintWords Go.Proofs.YtlmmjchdfngdgaaW.PrintLast Go.Proofs.YtlmmjchdfngdgaaW.PrintMore
attribute [local go_sem] max2_int min2_int max_two min_two max_three min_three max_four min_four   -- for this text's walks alone
set_option linter.unusedVariables false
set_option linter.unusedSimpArgs false

/-! ### spec_maskAdd: function 47 -/
mutual
def spec_maskAdd.l0 : Nat → List (S95) → Int → Int → List (S95) → Bool → Int → Option ((List (S95)))
  | 0, _, _, _, _, _, _ => none
  | k + 1, x0, x1, x2, x7, x8, x9 => if x9 < (x0.length : Int) then (if x8 = true then (spec_maskAdd.j1 k x0 x1 x2 x7 x8 x9 false) else (if 0 ≤ x9 then (spec_maskAdd.j1 k x0 x1 x2 x7 x8 x9 (decide (((rd_T95 x0 x9).f0) ≥ x1))) else (none))) else (if x8 = true then (some x7) else (if x7.length < 17592186044416 then (some (x7 ++ [(⟨x1, x2⟩ : S95)])) else (none)))
def spec_maskAdd.j1 : Nat → List (S95) → Int → Int → List (S95) → Bool → Int → Bool → Option ((List (S95)))
  | 0, _, _, _, _, _, _, _ => none
  | k + 1, x0, x1, x2, x7, x8, x9, x29 => if x29 = true then (if 0 ≤ x9 then (if x9 < (x0.length : Int) then (if ((rd_T95 x0 x9).f0) = x1 then (if x7.length < 17592186044416 then (spec_maskAdd.l0 k x0 x1 x2 (x7 ++ [(⟨x1, Go.bits .or .u16 ((rd_T95 x0 x9).f1) x2⟩ : S95)]) true (wrap64 (x9 + 1))) else (none)) else (if x7.length < 17592186044416 then ((some (x7 ++ [(⟨x1, x2⟩ : S95)] : List (S95))).bind fun y247 => (if y247.length < 17592186044416 then (spec_maskAdd.l0 k x0 x1 x2 (y247 ++ [(⟨(rd_T95 x0 x9).f0, (rd_T95 x0 x9).f1⟩ : S95)]) true (wrap64 (x9 + 1))) else (none))) else (none))) else (none)) else (none)) else (if 0 ≤ x9 then (if x9 < (x0.length : Int) then (if x7.length < 17592186044416 then (spec_maskAdd.l0 k x0 x1 x2 (x7 ++ [(⟨(rd_T95 x0 x9).f0, (rd_T95 x0 x9).f1⟩ : S95)]) x8 (wrap64 (x9 + 1))) else (none)) else (none)) else (none))
end
def spec_maskAdd.f (k : Nat) (l0 : List (S95)) (a1 : Int) (a2 : Int) : Option ((List (S95))) := if a2 = 0 then (some l0) else (spec_maskAdd.l0 k l0 a1 a2 ([] : List (S95)) false 0)
theorem spec_maskAdd.mono_l : ∀ k, (∀ y0 y1 y2 y3 y4 y5, LeO (spec_maskAdd.l0 k y0 y1 y2 y3 y4 y5) (spec_maskAdd.l0 (k + 1) y0 y1 y2 y3 y4 y5)) ∧ (∀ y0 y1 y2 y3 y4 y5 y6, LeO (spec_maskAdd.j1 k y0 y1 y2 y3 y4 y5 y6) (spec_maskAdd.j1 (k + 1) y0 y1 y2 y3 y4 y5 y6))
  | 0 => ⟨fun _ _ _ _ _ _ r h => by simp [spec_maskAdd.l0] at h, fun _ _ _ _ _ _ _ r h => by simp [spec_maskAdd.j1] at h⟩
  | k + 1 => by
    obtain ⟨ih0, ih1⟩ := spec_maskAdd.mono_l k
    refine ⟨?_, ?_⟩
    · intro y0 y1 y2 y3 y4 y5
      unfold spec_maskAdd.l0
      repeat' first
      | (with_reducible exact ih0 _ _ _ _ _ _)
      | (with_reducible exact ih1 _ _ _ _ _ _ _)
      | (with_reducible exact LeO.refl _)
      | (with_reducible exact LeO.none _)
      | (with_reducible refine LeO.ite ?_ ?_)
      | (with_reducible refine LeO.bind ?_ (fun _ => ?_))
      | exact ih0 _ _ _ _ _ _
      | exact ih1 _ _ _ _ _ _ _
      | exact LeO.none _
      | refine LeO.ite ?_ ?_
      | refine LeO.bind ?_ (fun _ => ?_)
    · intro y0 y1 y2 y3 y4 y5 y6
      unfold spec_maskAdd.j1
      repeat' first
      | (with_reducible exact ih0 _ _ _ _ _ _)
      | (with_reducible exact ih1 _ _ _ _ _ _ _)
      | (with_reducible exact LeO.refl _)
      | (with_reducible exact LeO.none _)
      | (with_reducible refine LeO.ite ?_ ?_)
      | (with_reducible refine LeO.bind ?_ (fun _ => ?_))
      | exact ih0 _ _ _ _ _ _
      | exact ih1 _ _ _ _ _ _ _
      | exact LeO.none _
      | refine LeO.ite ?_ ?_
      | refine LeO.bind ?_ (fun _ => ?_)
theorem spec_maskAdd.mono : ∀ a0 a1 a2 k, LeO (spec_maskAdd.f k a0 a1 a2) (spec_maskAdd.f (k + 1) a0 a1 a2) := by
  intro a0 a1 a2 k
  obtain ⟨ih0, ih1⟩ := spec_maskAdd.mono_l k
  unfold spec_maskAdd.f
  repeat' first
      | (with_reducible exact ih0 _ _ _ _ _ _)
      | (with_reducible exact ih1 _ _ _ _ _ _ _)
      | (with_reducible exact LeO.refl _)
      | (with_reducible exact LeO.none _)
      | (with_reducible refine LeO.ite ?_ ?_)
      | (with_reducible refine LeO.bind ?_ (fun _ => ?_))
      | exact ih0 _ _ _ _ _ _
      | exact ih1 _ _ _ _ _ _ _
      | exact LeO.none _
      | refine LeO.ite ?_ ?_
      | refine LeO.bind ?_ (fun _ => ?_)
set_option maxHeartbeats 8000000 in
set_option maxRecDepth 100000 in
theorem spec_maskAdd.calls (k : Nat) (P0_ : Nat → Prop) (u9000_ : Value) (l0 : List (S95)) (a1 : Int) (a2 : Int) (r : List (S95)) (w0 w : World) (hB : Below w0.heap.size w0 w) (ho0 : Kd.R k95 95 w w0.heap.size P0_ u9000_ l0) (h : spec_maskAdd.f k l0 a1 a2 = some r) :
    Calls Try.prog 47 #[u9000_, .int .u32 a1, .int .u16 a2] w fun e w' => ∃ v0_ : Value, e = .returned (v0_) ∧ Kd.R k95 95 w' w0.heap.size (fun k_ => (P0_ k_ ∨ w.heap.size ≤ k_)) v0_ r ∧ Below w0.heap.size w0 w' ∧ Kept w w' (fun k_ => P0_ k_) := by
  have hu95 := Try.underlying95
  have HO0 := Aside0.mk (show Kd.R k95 95 w w0.heap.size (fun k_ => (P0_ k_ ∨ w.heap.size ≤ k_)) u9000_ l0 from Kd.R_mono ho0 (fun k_ hk => (.inl hk)))
  have HK := Aside0.mk (Kept.refl w (fun k_ => P0_ k_))
  have HW0 := Aside0.mk hB.size
  have HB := Aside0.mk hB
  clear hB
  have H : (if a2 = 0 then (some l0) else (spec_maskAdd.l0 k l0 a1 a2 ([] : List (S95)) false 0)) = some r := h
  clear h
  by_cases c4 : a2 = 0
  · rw [if_pos c4] at H
    have c4b0 : (a2 == 0) = true := beq_iff_eq.mpr c4
    have c4b1 : (a2 != 0) = false := bne_eq_false_iff_eq.mpr c4
    clear c4
    obtain rfl := Option.some.inj H
    go_enter Try.func47, Try.ntmps47
    go_wp2
    go_ret
    exact ⟨_, by first | rfl | (simp [errW_none, errW_some] <;> rfl) | (simp [*, errW_none, errW_some] <;> rfl), by (with_reducible repeat (first | apply Kd.R_alloc | apply Kd.R_drewN | apply Kd.R_drew)); exact HO0.out, by repeat (first | (with_reducible first | exact HB.out | apply below_alloc | apply pw_below_drewN | apply below_drew1) | exact HB.out), by repeat (first | (with_reducible first | exact HK.out | apply Kept.alloc | apply Kept.drewN | apply Kept.drew) | exact HK.out)⟩
  · rw [if_neg c4] at H
    have c4b0 : (a2 == 0) = false := beq_eq_false_iff_ne.mpr c4
    have c4b1 : (a2 != 0) = true := bne_iff_ne.mpr c4
    have H' := Aside0.mk H
    clear H
    go_enter Try.func47, Try.ntmps47
    go_wp2
    go_loopg [7, 8, 9] k (fun kq v7 v8 v9 w' => ∃ (x7_1 : List (S95)) (x8_1 : Bool) (x9_1 : Int), v8 = .bool x8_1 ∧ v9 = .int .i64 x9_1 ∧ Aside0 (spec_maskAdd.l0 kq l0 a1 a2 x7_1 x8_1 x9_1 = some r) ∧ Aside0 (kq ≤ k) ∧ Aside0 (Kd.R k95 95 w' w0.heap.size (fun k_ => (P0_ k_ ∨ w.heap.size ≤ k_) ∧ some k_ ≠ (v7 : Value).ownBlock) u9000_ l0) ∧ Aside0 (Kd.R k95 95 w' w0.heap.size (fun k_ => (P0_ k_ ∨ w.heap.size ≤ k_) ∧ some k_ ≠ (u9000_ : Value).ownBlock) v7 x7_1) ∧ Aside0 (Kept w w' (fun k_ => P0_ k_)) ∧ Aside0 (Below w0.heap.size w0 w'))
    case atStart => exact ⟨(([] : List (S95))), (false), (0), (by first | rfl | (simp; done) | (simp [*]; done)), (by first | rfl | (simp; done) | (simp [*]; done)), H', ⟨Nat.le_refl _⟩, ⟨by (with_reducible repeat (first | apply Kd.R_alloc | apply Kd.R_drewN | apply Kd.R_drew)); exact Kd.R_mono HO0.out (fun _ hk => ⟨hk, (by simp [Value.ownBlock])⟩)⟩, ⟨by first | exact Kd.R_nil _ _ _ _ _ | exact Kd.N_nil _ _ _ _ _ | exact Kd.V_nil _ _ _ _ _ | exact Kd.Q_nil _ _ _ _ _ | exact Kd.S_nil _ _ _ _ _⟩, ⟨by repeat (first | (with_reducible first | exact HK.out | apply Kept.alloc | apply Kept.drewN | apply Kept.drew) | exact HK.out)⟩, ⟨by repeat (first | (with_reducible first | exact HB.out | apply below_alloc | apply pw_below_drewN | apply below_drew1) | exact HB.out)⟩⟩
    case round =>
      clear H'
      try clear p2
      try clear c4
      try clear c4b0
      try clear c4b1
      obtain ⟨x7_1, x8_1, x9_1, rfl, rfl, HA, HK1, HO_0, HO_7, HK, HB⟩ := hrel
      cases gk with
      | zero => exact absurd HA.out (by simp [spec_maskAdd.l0])
      | succ k1 =>
        have H := HA.out
        clear HA
        simp only [spec_maskAdd.l0] at H
        by_cases c5 : x9_1 < (l0.length : Int)
        · rw [if_pos c5] at H
          have c5b0 : decide (x9_1 < (l0.length : Int)) = true := decide_eq_true c5
          clear c5
          have HC6 := Aside0.mk H
          clear H
          obtain ⟨Ao7, co7, eo7⟩ := Kd.R_slice HO_0.out
          subst eo7
          go_upto_region 8 with (fail)
          go_cut [29] (fun v29 wc => ∃ (kq : Nat) (x29_5 : Bool), v29 = .bool x29_5 ∧ Aside0 (spec_maskAdd.j1 kq l0 a1 a2 x7_1 x8_1 x9_1 x29_5 = some r) ∧ Aside0 (kq ≤ k1) ∧ Aside0 (Kd.R k95 95 wc w0.heap.size (fun k_ => (P0_ k_ ∨ w.heap.size ≤ k_) ∧ some k_ ≠ (u7 : Value).ownBlock) (.slice Ao7 l0.length co7) l0) ∧ Aside0 (Kd.R k95 95 wc w0.heap.size (fun k_ => (P0_ k_ ∨ w.heap.size ≤ k_) ∧ some k_ ≠ ((.slice Ao7 l0.length co7) : Value).ownBlock) u7 x7_1) ∧ Aside0 (Kept w wc (fun k_ => P0_ k_)) ∧ Aside0 (Below w0.heap.size w0 wc))
          case first =>
            have H := HC6.out
            clear HC6
            by_cases c8 : x8_1 = true
            · subst c8
              have H1 : (spec_maskAdd.j1 k1 l0 a1 a2 x7_1 true x9_1 false) = some r := by rw [if_pos rfl] at H; exact H
              clear H
              have H := H1
              clear H1
              have H' := Aside0.mk H
              clear H
              go_wp2
              go_meet
              case rel => exact ⟨_, (false), (by first | rfl | (simp; done) | (simp [*]; done)), H', ⟨by have := HK1.out; first | omega | exact Nat.le_refl _⟩, ⟨by (with_reducible repeat (first | apply Kd.R_alloc | apply Kd.R_drewN | apply Kd.R_drew)); exact HO_0.out⟩, ⟨by (with_reducible repeat (first | apply Kd.R_alloc | apply Kd.R_drewN | apply Kd.R_drew)); exact HO_7.out⟩, ⟨by repeat (first | (with_reducible first | exact HK.out | apply Kept.alloc | apply Kept.drewN | apply Kept.drew) | exact HK.out)⟩, ⟨by repeat (first | (with_reducible first | exact HB.out | apply below_alloc | apply pw_below_drewN | apply below_drew1) | exact HB.out)⟩⟩
            · replace c8 := Bool.eq_false_iff.mpr c8
              subst c8
              have H1 : (if 0 ≤ x9_1 then (spec_maskAdd.j1 k1 l0 a1 a2 x7_1 false x9_1 (decide (((rd_T95 l0 x9_1).f0) ≥ a1))) else (none)) = some r := by rw [if_neg (show ¬ (false = true) by decide)] at H; exact H
              clear H
              have H := H1
              clear H1
              by_cases c9 : 0 ≤ x9_1
              · rw [if_pos c9] at H
                have c9b0 : decide (0 ≤ x9_1) = true := decide_eq_true c9
                clear c9
                (first | rw [c9b0] | (simp only [i64_w, i32_w]; rw [c9b0]) | skip)
                have H' := Aside0.mk H
                clear H
                have p241 : 0 ≤ (x9_1 : Int) := of_decide_eq_true (by first | (with_reducible assumption) | assumption)
                have q241 : x9_1 < (l0.length : Int) := of_decide_eq_true (by first | (with_reducible assumption) | assumption)
                obtain ⟨ad241, e241, hx241_0, hx241_1⟩ := at_T95 (Kd.R_reads' HO_0.out).2.2 x9_1 p241 q241
                cases e241
                replace p241 := eq_true p241
                replace q241 := eq_true q241
                go_wp2
                go_meet
                case rel => exact ⟨_, (decide (((rd_T95 l0 x9_1).f0) ≥ a1)), (by first | rfl | (simp; done) | (simp [*]; done)), H', ⟨by have := HK1.out; first | omega | exact Nat.le_refl _⟩, ⟨by (with_reducible repeat (first | apply Kd.R_alloc | apply Kd.R_drewN | apply Kd.R_drew)); exact HO_0.out⟩, ⟨by (with_reducible repeat (first | apply Kd.R_alloc | apply Kd.R_drewN | apply Kd.R_drew)); exact HO_7.out⟩, ⟨by repeat (first | (with_reducible first | exact HK.out | apply Kept.alloc | apply Kept.drewN | apply Kept.drew) | exact HK.out)⟩, ⟨by repeat (first | (with_reducible first | exact HB.out | apply below_alloc | apply pw_below_drewN | apply below_drew1) | exact HB.out)⟩⟩
              · rw [if_neg c9] at H
                exact absurd H (by simp)
          case rest =>
            clear HC6
            try clear p2
            try clear q2
            try clear hx2
            try clear c4
            try clear c4b0
            try clear c4b1
            try clear c5
            try clear c5b0
            try clear c8
            try clear c9
            try clear c9b0
            try clear hx241_0
            try clear hx241_1
            try clear p2
            try clear p241
            try clear q241
            obtain ⟨kq, x29_5, rfl, HA, HJ5, HO_0, HO_7, HK, HB⟩ := hcut
            cases kq with
            | zero => exact absurd HA.out (by simp [spec_maskAdd.j1])
            | succ kj5 =>
              have H := HA.out
              clear HA
              simp only [spec_maskAdd.j1] at H
              by_cases c10 : x29_5 = true
              · subst c10
                have H1 : (if 0 ≤ x9_1 then (if x9_1 < (l0.length : Int) then (if ((rd_T95 l0 x9_1).f0) = a1 then (if x7_1.length < 17592186044416 then (spec_maskAdd.l0 kj5 l0 a1 a2 (x7_1 ++ [(⟨a1, Go.bits .or .u16 ((rd_T95 l0 x9_1).f1) a2⟩ : S95)]) true (wrap64 (x9_1 + 1))) else (none)) else (if x7_1.length < 17592186044416 then ((some (x7_1 ++ [(⟨a1, a2⟩ : S95)] : List (S95))).bind fun y247 => (if y247.length < 17592186044416 then (spec_maskAdd.l0 kj5 l0 a1 a2 (y247 ++ [(⟨(rd_T95 l0 x9_1).f0, (rd_T95 l0 x9_1).f1⟩ : S95)]) true (wrap64 (x9_1 + 1))) else (none))) else (none))) else (none)) else (none)) = some r := by rw [if_pos rfl] at H; exact H
                clear H
                have H := H1
                clear H1
                by_cases c11 : 0 ≤ x9_1
                · rw [if_pos c11] at H
                  have c11b0 : decide (0 ≤ x9_1) = true := decide_eq_true c11
                  clear c11
                  by_cases c12 : x9_1 < (l0.length : Int)
                  · rw [if_pos c12] at H
                    have c12b0 : decide (x9_1 < (l0.length : Int)) = true := decide_eq_true c12
                    clear c12
                    by_cases c13 : ((rd_T95 l0 x9_1).f0) = a1
                    · rw [if_pos c13] at H
                      have c13b0 : (((rd_T95 l0 x9_1).f0) == a1) = true := beq_iff_eq.mpr c13
                      have c13b1 : (((rd_T95 l0 x9_1).f0) != a1) = false := bne_eq_false_iff_eq.mpr c13
                      clear c13
                      by_cases c14 : x7_1.length < 17592186044416
                      · rw [if_pos c14] at H
                        have LMc14 := Aside0.mk c14
                        clear c14
                        obtain ⟨y244, hy244⟩ : ∃ y_ : List (S95), y_ = (x7_1 ++ [(⟨a1, Go.bits .or .u16 ((rd_T95 l0 x9_1).f1) a2⟩ : S95)]) := ⟨_, rfl⟩
                        replace H : (spec_maskAdd.l0 kj5 l0 a1 a2 y244 true (wrap64 (x9_1 + 1))) = some r := by first | (rw [hy244]; with_reducible exact H) | (have H2_ := (Option.bind_some _ _).symm.trans H; rw [hy244]; with_reducible exact H2_) | (have H2_ := (Option.bind_some _ _).symm.trans H; with_reducible exact H2_) | with_reducible exact H | (rw [hy244]; exact H) | exact H
                        have Ny244 := Aside0.mk hy244
                        clear hy244
                        have H' := Aside0.mk H
                        clear H
                        have p242 : 0 ≤ (x9_1 : Int) := of_decide_eq_true (by first | (with_reducible assumption) | assumption)
                        have q242 : x9_1 < (l0.length : Int) := of_decide_eq_true (by first | (with_reducible assumption) | assumption)
                        obtain ⟨ad242, e242, hx242_0, hx242_1⟩ := at_T95 (Kd.R_reads' HO_0.out).2.2 x9_1 p242 q242
                        cases e242
                        replace p242 := eq_true p242
                        replace q242 := eq_true q242
                        have p243 : 0 ≤ (x9_1 : Int) := of_decide_eq_true (by first | (with_reducible assumption) | assumption)
                        have q243 : x9_1 < (l0.length : Int) := of_decide_eq_true (by first | (with_reducible assumption) | assumption)
                        obtain ⟨ad243, e243, hx243_0, hx243_1⟩ := at_T95 (Kd.R_reads' HO_0.out).2.2 x9_1 p243 q243
                        obtain rfl : ad242 = ad243 := (by injection e243)
                        replace p243 := eq_true p243
                        replace q243 := eq_true q243
                        go_wp2_with (first | ((with_reducible refine gate_builtin (b := .append) (xs := #[.tmp 37, .tmp 47]) rfl ?_); at_builtin; refine Kd.R_append k95 (w0 := w0) w0.heap.size rfl (.tmp 37) (.tmp 47) 55 95 (.agg #[(.int .u32 0), (.int .u16 0)]) 8 rfl Try.underlying55 info95 rfl (by decide) (by omega) u7 x7_1 (⟨a1, Go.bits .or .u16 ((rd_T95 l0 x9_1).f1) a2⟩ : S95) [.int .u32 a1, .int .u16 (Go.bits .or .u16 ((rd_T95 l0 x9_1).f1) a2)] (fun k_ => (P0_ k_ ∨ w.heap.size ≤ k_) ∧ some k_ ≠ (.slice (some ad242) l0.length co7 : Value).ownBlock) (fun _ => False) rfl rfl ?aP (fun _ hk => hk.elim) ?aF ?aO ?aB ?aS ?aL ?_; (case aP => exact k95_mkM _ _ _ (⟨a1, Go.bits .or .u16 ((rd_T95 l0 x9_1).f1) a2⟩ : S95)); (case aB => exact (by repeat (first | (with_reducible first | exact HB.out | apply below_alloc | apply pw_below_drewN | apply below_drew1) | exact HB.out))); (case aF => exact (fun k_ hk => ⟨(.inr (Nat.le_trans (by first | exact HK.out.1 | exact (show Kept w _ (fun k_ => P0_ k_) from by repeat (first | (with_reducible first | exact HK.out | apply Kept.alloc | apply Kept.drewN | apply Kept.drew) | exact HK.out)).1) hk)), Kd.fresh' (Kd.R_lt (by (with_reducible repeat (first | apply Kd.R_alloc | apply Kd.R_drewN | apply Kd.R_drew)); exact HO_0.out)) k_ hk⟩)); (case aO => exact (by (with_reducible repeat (first | apply Kd.R_alloc | apply Kd.R_drewN | apply Kd.R_drew)); exact HO_7.out)); (case aS => exact (below_size (by repeat (first | (with_reducible first | exact HB.out | apply below_alloc | apply pw_below_drewN | apply below_drew1) | exact HB.out)))); (case aL => have := LMc14.out; omega); intro v245 w15 ho hb hg hat; rw [← Ny244.out] at ho; have n0_ := Aside0.mk (Kd.R_after (ok := (fun k_ => (P0_ k_ ∨ w.heap.size ≤ k_))) (by (with_reducible repeat (first | apply Kd.R_alloc | apply Kd.R_drewN | apply Kd.R_drew)); exact HO_0.out) hg hat); have n1_ := Aside0.mk (hb); have n2_ := Aside0.mk (Kept.of_grown (S := (fun k_ => P0_ k_)) hg (by repeat (first | (with_reducible first | exact HK.out | apply Kept.alloc | apply Kept.drewN | apply Kept.drew) | exact HK.out)) (fun k_ e_ => (HO_7.out.1 k_ e_).1)); have n3_ := Aside0.mk (ho); clear HO_0; clear HB; clear HK; clear HO_7; have HO_0 := n0_; have HB := n1_; have HK := n2_; have HO246 := n3_; clear n0_ n1_ n2_ n3_; clear ho hb hg hat))
                        go_roundg kj5
                        case measure => have := HK1.out; have := HJ5.out; omega
                        case rel => exact ⟨(y244), (true), (wrap64 (x9_1 + 1)), (by first | rfl | (simp; done) | (simp [*]; done)), (by first | rfl | (simp; done) | (simp [*]; done)), H', ⟨by have := HK1.out; have := HJ5.out; omega⟩, ⟨by (with_reducible repeat (first | apply Kd.R_alloc | apply Kd.R_drewN | apply Kd.R_drew)); exact HO_0.out⟩, ⟨by (with_reducible repeat (first | apply Kd.R_alloc | apply Kd.R_drewN | apply Kd.R_drew)); exact HO246.out⟩, ⟨by repeat (first | (with_reducible first | exact HK.out | apply Kept.alloc | apply Kept.drewN | apply Kept.drew) | exact HK.out)⟩, ⟨by repeat (first | (with_reducible first | exact HB.out | apply below_alloc | apply pw_below_drewN | apply below_drew1) | exact HB.out)⟩⟩
                      · rw [if_neg c14] at H
                        exact absurd H (by simp)
                    · rw [if_neg c13] at H
                      have c13b0 : (((rd_T95 l0 x9_1).f0) == a1) = false := beq_eq_false_iff_ne.mpr c13
                      have c13b1 : (((rd_T95 l0 x9_1).f0) != a1) = true := bne_iff_ne.mpr c13
                      by_cases c16 : x7_1.length < 17592186044416
                      · rw [if_pos c16] at H
                        have LMc16 := Aside0.mk c16
                        clear c16
                        obtain ⟨y247, hy247⟩ : ∃ y_ : List (S95), y_ = (x7_1 ++ [(⟨a1, a2⟩ : S95)]) := ⟨_, rfl⟩
                        replace H : (if y247.length < 17592186044416 then (spec_maskAdd.l0 kj5 l0 a1 a2 (y247 ++ [(⟨(rd_T95 l0 x9_1).f0, (rd_T95 l0 x9_1).f1⟩ : S95)]) true (wrap64 (x9_1 + 1))) else (none)) = some r := by first | (rw [hy247]; with_reducible exact H) | (have H2_ := (Option.bind_some _ _).symm.trans H; rw [hy247]; with_reducible exact H2_) | (have H2_ := (Option.bind_some _ _).symm.trans H; with_reducible exact H2_) | with_reducible exact H | (rw [hy247]; exact H) | exact H
                        have Ny247 := Aside0.mk hy247
                        clear hy247
                        by_cases c17 : y247.length < 17592186044416
                        · rw [if_pos c17] at H
                          have LMc17 := Aside0.mk c17
                          clear c17
                          obtain ⟨y251, hy251⟩ : ∃ y_ : List (S95), y_ = (y247 ++ [(⟨(rd_T95 l0 x9_1).f0, (rd_T95 l0 x9_1).f1⟩ : S95)]) := ⟨_, rfl⟩
                          replace H : (spec_maskAdd.l0 kj5 l0 a1 a2 y251 true (wrap64 (x9_1 + 1))) = some r := by first | (rw [hy251]; with_reducible exact H) | (have H2_ := (Option.bind_some _ _).symm.trans H; rw [hy251]; with_reducible exact H2_) | (have H2_ := (Option.bind_some _ _).symm.trans H; with_reducible exact H2_) | with_reducible exact H | (rw [hy251]; exact H) | exact H
                          have Ny251 := Aside0.mk hy251
                          clear hy251
                          have H' := Aside0.mk H
                          clear H
                          have p242 : 0 ≤ (x9_1 : Int) := of_decide_eq_true (by first | (with_reducible assumption) | assumption)
                          have q242 : x9_1 < (l0.length : Int) := of_decide_eq_true (by first | (with_reducible assumption) | assumption)
                          obtain ⟨ad242, e242, hx242_0, hx242_1⟩ := at_T95 (Kd.R_reads' HO_0.out).2.2 x9_1 p242 q242
                          cases e242
                          replace p242 := eq_true p242
                          replace q242 := eq_true q242
                          go_wp2_with (first | ((with_reducible refine gate_builtin (b := .append) (xs := #[.tmp 49, .tmp 53]) rfl ?_); at_builtin; refine Kd.R_append k95 (w0 := w0) w0.heap.size rfl (.tmp 49) (.tmp 53) 55 95 (.agg #[(.int .u32 0), (.int .u16 0)]) 8 rfl Try.underlying55 info95 rfl (by decide) (by omega) u7 x7_1 (⟨a1, a2⟩ : S95) [.int .u32 a1, .int .u16 a2] (fun k_ => (P0_ k_ ∨ w.heap.size ≤ k_) ∧ some k_ ≠ (.slice (some ad242) l0.length co7 : Value).ownBlock) (fun _ => False) rfl rfl ?aP (fun _ hk => hk.elim) ?aF ?aO ?aB ?aS ?aL ?_; (case aP => exact k95_mkM _ _ _ (⟨a1, a2⟩ : S95)); (case aB => exact (by repeat (first | (with_reducible first | exact HB.out | apply below_alloc | apply pw_below_drewN | apply below_drew1) | exact HB.out))); (case aF => exact (fun k_ hk => ⟨(.inr (Nat.le_trans (by first | exact HK.out.1 | exact (show Kept w _ (fun k_ => P0_ k_) from by repeat (first | (with_reducible first | exact HK.out | apply Kept.alloc | apply Kept.drewN | apply Kept.drew) | exact HK.out)).1) hk)), Kd.fresh' (Kd.R_lt (by (with_reducible repeat (first | apply Kd.R_alloc | apply Kd.R_drewN | apply Kd.R_drew)); exact HO_0.out)) k_ hk⟩)); (case aO => exact (by (with_reducible repeat (first | apply Kd.R_alloc | apply Kd.R_drewN | apply Kd.R_drew)); exact HO_7.out)); (case aS => exact (below_size (by repeat (first | (with_reducible first | exact HB.out | apply below_alloc | apply pw_below_drewN | apply below_drew1) | exact HB.out)))); (case aL => have := LMc16.out; omega); intro v248 w18 ho hb hg hat; rw [← Ny247.out] at ho; have n0_ := Aside0.mk (Kd.R_after (ok := (fun k_ => (P0_ k_ ∨ w.heap.size ≤ k_))) (by (with_reducible repeat (first | apply Kd.R_alloc | apply Kd.R_drewN | apply Kd.R_drew)); exact HO_0.out) hg hat); have n1_ := Aside0.mk (hb); have n2_ := Aside0.mk (Kept.of_grown (S := (fun k_ => P0_ k_)) hg (by repeat (first | (with_reducible first | exact HK.out | apply Kept.alloc | apply Kept.drewN | apply Kept.drew) | exact HK.out)) (fun k_ e_ => (HO_7.out.1 k_ e_).1)); have n3_ := Aside0.mk (ho); clear HO_0; clear HB; clear HK; clear HO_7; have HO_0 := n0_; have HB := n1_; have HK := n2_; have HO249 := n3_; clear n0_ n1_ n2_ n3_; clear ho hb hg hat; have p250 : 0 ≤ (x9_1 : Int) := of_decide_eq_true (by first | (with_reducible assumption) | assumption); have q250 : x9_1 < (l0.length : Int) := of_decide_eq_true (by first | (with_reducible assumption) | assumption); obtain ⟨ad250, e250, hx250_0, hx250_1⟩ := at_T95 (Kd.R_reads' HO_0.out).2.2 x9_1 p250 q250; obtain rfl : ad242 = ad250 := (by injection e250); replace p250 := eq_true p250; replace q250 := eq_true q250) | ((with_reducible refine gate_builtin (b := .append) (xs := #[.tmp 55, .tmp 60]) rfl ?_); at_builtin; refine Kd.R_append k95 (w0 := w0) w0.heap.size rfl (.tmp 55) (.tmp 60) 55 95 (.agg #[(.int .u32 0), (.int .u16 0)]) 8 rfl Try.underlying55 info95 rfl (by decide) (by omega) v248 y247 (⟨(rd_T95 l0 x9_1).f0, (rd_T95 l0 x9_1).f1⟩ : S95) [.int .u32 ((rd_T95 l0 x9_1).f0), .int .u16 ((rd_T95 l0 x9_1).f1)] (fun k_ => (P0_ k_ ∨ w.heap.size ≤ k_) ∧ some k_ ≠ (.slice (some ad242) l0.length co7 : Value).ownBlock) (fun _ => False) rfl rfl ?aP (fun _ hk => hk.elim) ?aF ?aO ?aB ?aS ?aL ?_; (case aP => exact k95_mkM _ _ _ (⟨(rd_T95 l0 x9_1).f0, (rd_T95 l0 x9_1).f1⟩ : S95)); (case aB => exact (by repeat (first | (with_reducible first | exact HB.out | apply below_alloc | apply pw_below_drewN | apply below_drew1) | exact HB.out))); (case aF => exact (fun k_ hk => ⟨(.inr (Nat.le_trans (by first | exact HK.out.1 | exact (show Kept w _ (fun k_ => P0_ k_) from by repeat (first | (with_reducible first | exact HK.out | apply Kept.alloc | apply Kept.drewN | apply Kept.drew) | exact HK.out)).1) hk)), Kd.fresh' (Kd.R_lt (by (with_reducible repeat (first | apply Kd.R_alloc | apply Kd.R_drewN | apply Kd.R_drew)); exact HO_0.out)) k_ hk⟩)); (case aO => exact (by (with_reducible repeat (first | apply Kd.R_alloc | apply Kd.R_drewN | apply Kd.R_drew)); exact HO249.out)); (case aS => exact (below_size (by repeat (first | (with_reducible first | exact HB.out | apply below_alloc | apply pw_below_drewN | apply below_drew1) | exact HB.out)))); (case aL => have := LMc17.out; omega); intro v252 w19 ho hb hg hat; rw [← Ny251.out] at ho; have n0_ := Aside0.mk (Kd.R_after (ok := (fun k_ => (P0_ k_ ∨ w.heap.size ≤ k_))) (by (with_reducible repeat (first | apply Kd.R_alloc | apply Kd.R_drewN | apply Kd.R_drew)); exact HO_0.out) hg hat); have n1_ := Aside0.mk (hb); have n2_ := Aside0.mk (Kept.of_grown (S := (fun k_ => P0_ k_)) hg (by repeat (first | (with_reducible first | exact HK.out | apply Kept.alloc | apply Kept.drewN | apply Kept.drew) | exact HK.out)) (fun k_ e_ => (HO249.out.1 k_ e_).1)); have n3_ := Aside0.mk (ho); clear HO_0; clear HB; clear HK; clear HO249; have HO_0 := n0_; have HB := n1_; have HK := n2_; have HO253 := n3_; clear n0_ n1_ n2_ n3_; clear ho hb hg hat))
                          go_roundg kj5
                          case measure => have := HK1.out; have := HJ5.out; omega
                          case rel => exact ⟨(y251), (true), (wrap64 (x9_1 + 1)), (by first | rfl | (simp; done) | (simp [*]; done)), (by first | rfl | (simp; done) | (simp [*]; done)), H', ⟨by have := HK1.out; have := HJ5.out; omega⟩, ⟨by (with_reducible repeat (first | apply Kd.R_alloc | apply Kd.R_drewN | apply Kd.R_drew)); exact HO_0.out⟩, ⟨by (with_reducible repeat (first | apply Kd.R_alloc | apply Kd.R_drewN | apply Kd.R_drew)); exact HO253.out⟩, ⟨by repeat (first | (with_reducible first | exact HK.out | apply Kept.alloc | apply Kept.drewN | apply Kept.drew) | exact HK.out)⟩, ⟨by repeat (first | (with_reducible first | exact HB.out | apply below_alloc | apply pw_below_drewN | apply below_drew1) | exact HB.out)⟩⟩
                        · rw [if_neg c17] at H
                          exact absurd H (by simp)
                      · rw [if_neg c16] at H
                        exact absurd H (by simp)
                  · rw [if_neg c12] at H
                    exact absurd H (by simp)
                · rw [if_neg c11] at H
                  exact absurd H (by simp)
              · replace c10 := Bool.eq_false_iff.mpr c10
                subst c10
                have H1 : (if 0 ≤ x9_1 then (if x9_1 < (l0.length : Int) then (if x7_1.length < 17592186044416 then (spec_maskAdd.l0 kj5 l0 a1 a2 (x7_1 ++ [(⟨(rd_T95 l0 x9_1).f0, (rd_T95 l0 x9_1).f1⟩ : S95)]) x8_1 (wrap64 (x9_1 + 1))) else (none)) else (none)) else (none)) = some r := by rw [if_neg (show ¬ (false = true) by decide)] at H; exact H
                clear H
                have H := H1
                clear H1
                by_cases c20 : 0 ≤ x9_1
                · rw [if_pos c20] at H
                  have c20b0 : decide (0 ≤ x9_1) = true := decide_eq_true c20
                  clear c20
                  by_cases c21 : x9_1 < (l0.length : Int)
                  · rw [if_pos c21] at H
                    have c21b0 : decide (x9_1 < (l0.length : Int)) = true := decide_eq_true c21
                    clear c21
                    by_cases c22 : x7_1.length < 17592186044416
                    · rw [if_pos c22] at H
                      have LMc22 := Aside0.mk c22
                      clear c22
                      obtain ⟨y255, hy255⟩ : ∃ y_ : List (S95), y_ = (x7_1 ++ [(⟨(rd_T95 l0 x9_1).f0, (rd_T95 l0 x9_1).f1⟩ : S95)]) := ⟨_, rfl⟩
                      replace H : (spec_maskAdd.l0 kj5 l0 a1 a2 y255 x8_1 (wrap64 (x9_1 + 1))) = some r := by first | (rw [hy255]; with_reducible exact H) | (have H2_ := (Option.bind_some _ _).symm.trans H; rw [hy255]; with_reducible exact H2_) | (have H2_ := (Option.bind_some _ _).symm.trans H; with_reducible exact H2_) | with_reducible exact H | (rw [hy255]; exact H) | exact H
                      have Ny255 := Aside0.mk hy255
                      clear hy255
                      have H' := Aside0.mk H
                      clear H
                      have p254 : 0 ≤ (x9_1 : Int) := of_decide_eq_true (by first | (with_reducible assumption) | assumption)
                      have q254 : x9_1 < (l0.length : Int) := of_decide_eq_true (by first | (with_reducible assumption) | assumption)
                      obtain ⟨ad254, e254, hx254_0, hx254_1⟩ := at_T95 (Kd.R_reads' HO_0.out).2.2 x9_1 p254 q254
                      cases e254
                      replace p254 := eq_true p254
                      replace q254 := eq_true q254
                      go_wp2_with (first | ((with_reducible refine gate_builtin (b := .append) (xs := #[.tmp 55, .tmp 60]) rfl ?_); at_builtin; refine Kd.R_append k95 (w0 := w0) w0.heap.size rfl (.tmp 55) (.tmp 60) 55 95 (.agg #[(.int .u32 0), (.int .u16 0)]) 8 rfl Try.underlying55 info95 rfl (by decide) (by omega) u7 x7_1 (⟨(rd_T95 l0 x9_1).f0, (rd_T95 l0 x9_1).f1⟩ : S95) [.int .u32 ((rd_T95 l0 x9_1).f0), .int .u16 ((rd_T95 l0 x9_1).f1)] (fun k_ => (P0_ k_ ∨ w.heap.size ≤ k_) ∧ some k_ ≠ (.slice (some ad254) l0.length co7 : Value).ownBlock) (fun _ => False) rfl rfl ?aP (fun _ hk => hk.elim) ?aF ?aO ?aB ?aS ?aL ?_; (case aP => exact k95_mkM _ _ _ (⟨(rd_T95 l0 x9_1).f0, (rd_T95 l0 x9_1).f1⟩ : S95)); (case aB => exact (by repeat (first | (with_reducible first | exact HB.out | apply below_alloc | apply pw_below_drewN | apply below_drew1) | exact HB.out))); (case aF => exact (fun k_ hk => ⟨(.inr (Nat.le_trans (by first | exact HK.out.1 | exact (show Kept w _ (fun k_ => P0_ k_) from by repeat (first | (with_reducible first | exact HK.out | apply Kept.alloc | apply Kept.drewN | apply Kept.drew) | exact HK.out)).1) hk)), Kd.fresh' (Kd.R_lt (by (with_reducible repeat (first | apply Kd.R_alloc | apply Kd.R_drewN | apply Kd.R_drew)); exact HO_0.out)) k_ hk⟩)); (case aO => exact (by (with_reducible repeat (first | apply Kd.R_alloc | apply Kd.R_drewN | apply Kd.R_drew)); exact HO_7.out)); (case aS => exact (below_size (by repeat (first | (with_reducible first | exact HB.out | apply below_alloc | apply pw_below_drewN | apply below_drew1) | exact HB.out)))); (case aL => have := LMc22.out; omega); intro v256 w23 ho hb hg hat; rw [← Ny255.out] at ho; have n0_ := Aside0.mk (Kd.R_after (ok := (fun k_ => (P0_ k_ ∨ w.heap.size ≤ k_))) (by (with_reducible repeat (first | apply Kd.R_alloc | apply Kd.R_drewN | apply Kd.R_drew)); exact HO_0.out) hg hat); have n1_ := Aside0.mk (hb); have n2_ := Aside0.mk (Kept.of_grown (S := (fun k_ => P0_ k_)) hg (by repeat (first | (with_reducible first | exact HK.out | apply Kept.alloc | apply Kept.drewN | apply Kept.drew) | exact HK.out)) (fun k_ e_ => (HO_7.out.1 k_ e_).1)); have n3_ := Aside0.mk (ho); clear HO_0; clear HB; clear HK; clear HO_7; have HO_0 := n0_; have HB := n1_; have HK := n2_; have HO257 := n3_; clear n0_ n1_ n2_ n3_; clear ho hb hg hat))
                      go_roundg kj5
                      case measure => have := HK1.out; have := HJ5.out; omega
                      case rel => exact ⟨(y255), (x8_1), (wrap64 (x9_1 + 1)), (by first | rfl | (simp; done) | (simp [*]; done)), (by first | rfl | (simp; done) | (simp [*]; done)), H', ⟨by have := HK1.out; have := HJ5.out; omega⟩, ⟨by (with_reducible repeat (first | apply Kd.R_alloc | apply Kd.R_drewN | apply Kd.R_drew)); exact HO_0.out⟩, ⟨by (with_reducible repeat (first | apply Kd.R_alloc | apply Kd.R_drewN | apply Kd.R_drew)); exact HO257.out⟩, ⟨by repeat (first | (with_reducible first | exact HK.out | apply Kept.alloc | apply Kept.drewN | apply Kept.drew) | exact HK.out)⟩, ⟨by repeat (first | (with_reducible first | exact HB.out | apply below_alloc | apply pw_below_drewN | apply below_drew1) | exact HB.out)⟩⟩
                    · rw [if_neg c22] at H
                      exact absurd H (by simp)
                  · rw [if_neg c21] at H
                    exact absurd H (by simp)
                · rw [if_neg c20] at H
                  exact absurd H (by simp)
        · rw [if_neg c5] at H
          have c5b0 : decide (x9_1 < (l0.length : Int)) = false := decide_eq_false c5
          clear c5
          by_cases c24 : x8_1 = true
          · subst c24
            have H1 : (some x7_1) = some r := by rw [if_pos rfl] at H; exact H
            clear H
            have H := H1
            clear H1
            obtain rfl := Option.some.inj H
            obtain ⟨Ao25, co25, eo25⟩ := Kd.R_slice HO_0.out
            subst eo25
            go_wp2
            go_ret
            exact ⟨_, by first | rfl | (simp [errW_none, errW_some] <;> rfl) | (simp [*, errW_none, errW_some] <;> rfl), by (with_reducible repeat (first | apply Kd.R_alloc | apply Kd.R_drewN | apply Kd.R_drew)); exact Kd.R_mono HO_7.out (fun _ hk => hk.1), by repeat (first | (with_reducible first | exact HB.out | apply below_alloc | apply pw_below_drewN | apply below_drew1) | exact HB.out), by repeat (first | (with_reducible first | exact HK.out | apply Kept.alloc | apply Kept.drewN | apply Kept.drew) | exact HK.out)⟩
          · replace c24 := Bool.eq_false_iff.mpr c24
            subst c24
            have H1 : (if x7_1.length < 17592186044416 then (some (x7_1 ++ [(⟨a1, a2⟩ : S95)])) else (none)) = some r := by rw [if_neg (show ¬ (false = true) by decide)] at H; exact H
            clear H
            have H := H1
            clear H1
            by_cases c26 : x7_1.length < 17592186044416
            · rw [if_pos c26] at H
              have LMc26 := Aside0.mk c26
              clear c26
              obtain ⟨y238, hy238⟩ : ∃ y_ : List (S95), y_ = (x7_1 ++ [(⟨a1, a2⟩ : S95)]) := ⟨_, rfl⟩
              replace H : (some y238) = some r := by first | (rw [hy238]; with_reducible exact H) | (have H2_ := (Option.bind_some _ _).symm.trans H; rw [hy238]; with_reducible exact H2_) | (have H2_ := (Option.bind_some _ _).symm.trans H; with_reducible exact H2_) | with_reducible exact H | (rw [hy238]; exact H) | exact H
              have Ny238 := Aside0.mk hy238
              clear hy238
              obtain rfl := Option.some.inj H
              obtain ⟨Ao27, co27, eo27⟩ := Kd.R_slice HO_0.out
              subst eo27
              go_wp2_with (first | ((with_reducible refine gate_builtin (b := .append) (xs := #[.tmp 64, .tmp 68]) rfl ?_); at_builtin; refine Kd.R_append k95 (w0 := w0) w0.heap.size rfl (.tmp 64) (.tmp 68) 55 95 (.agg #[(.int .u32 0), (.int .u16 0)]) 8 rfl Try.underlying55 info95 rfl (by decide) (by omega) u7 x7_1 (⟨a1, a2⟩ : S95) [.int .u32 a1, .int .u16 a2] (fun k_ => (P0_ k_ ∨ w.heap.size ≤ k_) ∧ some k_ ≠ (.slice Ao27 l0.length co27 : Value).ownBlock) (fun _ => False) rfl rfl ?aP (fun _ hk => hk.elim) ?aF ?aO ?aB ?aS ?aL ?_; (case aP => exact k95_mkM _ _ _ (⟨a1, a2⟩ : S95)); (case aB => exact (by repeat (first | (with_reducible first | exact HB.out | apply below_alloc | apply pw_below_drewN | apply below_drew1) | exact HB.out))); (case aF => exact (fun k_ hk => ⟨(.inr (Nat.le_trans (by first | exact HK.out.1 | exact (show Kept w _ (fun k_ => P0_ k_) from by repeat (first | (with_reducible first | exact HK.out | apply Kept.alloc | apply Kept.drewN | apply Kept.drew) | exact HK.out)).1) hk)), Kd.fresh' (Kd.R_lt (by (with_reducible repeat (first | apply Kd.R_alloc | apply Kd.R_drewN | apply Kd.R_drew)); exact HO_0.out)) k_ hk⟩)); (case aO => exact (by (with_reducible repeat (first | apply Kd.R_alloc | apply Kd.R_drewN | apply Kd.R_drew)); exact HO_7.out)); (case aS => exact (below_size (by repeat (first | (with_reducible first | exact HB.out | apply below_alloc | apply pw_below_drewN | apply below_drew1) | exact HB.out)))); (case aL => have := LMc26.out; omega); intro v239 w28 ho hb hg hat; rw [← Ny238.out] at ho; have n0_ := Aside0.mk (Kd.R_after (ok := (fun k_ => (P0_ k_ ∨ w.heap.size ≤ k_))) (by (with_reducible repeat (first | apply Kd.R_alloc | apply Kd.R_drewN | apply Kd.R_drew)); exact HO_0.out) hg hat); have n1_ := Aside0.mk (hb); have n2_ := Aside0.mk (Kept.of_grown (S := (fun k_ => P0_ k_)) hg (by repeat (first | (with_reducible first | exact HK.out | apply Kept.alloc | apply Kept.drewN | apply Kept.drew) | exact HK.out)) (fun k_ e_ => (HO_7.out.1 k_ e_).1)); have n3_ := Aside0.mk (ho); clear HO_0; clear HB; clear HK; clear HO_7; have HO_0 := n0_; have HB := n1_; have HK := n2_; have HO240 := n3_; clear n0_ n1_ n2_ n3_; clear ho hb hg hat))
              go_ret
              exact ⟨_, by first | rfl | (simp [errW_none, errW_some] <;> rfl) | (simp [*, errW_none, errW_some] <;> rfl), by (with_reducible repeat (first | apply Kd.R_alloc | apply Kd.R_drewN | apply Kd.R_drew)); exact Kd.R_mono HO240.out (fun _ hk => hk.1), by repeat (first | (with_reducible first | exact HB.out | apply below_alloc | apply pw_below_drewN | apply below_drew1) | exact HB.out), by repeat (first | (with_reducible first | exact HK.out | apply Kept.alloc | apply Kept.drewN | apply Kept.drew) | exact HK.out)⟩
            · rw [if_neg c26] at H
              exact absurd H (by simp)

end Go.Proofs.Ytlmmjchdfngdgaa.Q
