-- Written by wip/drive.py (this claim's own program, over the kit's print).
import Derived.Test.YtlmmjchdfngdgaaQ0
import Derived.Test.YtlmmjchdfngdgaaQ3
import Derived.Test.YtlmmjchdfngdgaaQ4
import Derived.Test.YtlmmjchdfngdgaaGb
namespace Go.Proofs.Ytlmmjchdfngdgaa.Q
open Go.RowKit Go.Proofs.YtlmmjchdfngdgaaW.PrintWords Go.Proofs.YtlmmjchdfngdgaaW.PrintLast Go.Proofs.YtlmmjchdfngdgaaW.PrintMore
attribute [local go_sem] max2_int min2_int max_two min_two max_three min_three max_four min_four   -- for this text's walks alone
set_option linter.unusedVariables false
set_option linter.unusedSimpArgs false

/-! ### laws_FnOverlaps: function 5 -/
def laws_FnOverlaps.j0 : Nat → Bool → Int → Int → Int → ByteArray → Int → Int → Int → ByteArray → Option (Bool)
  | 0, _, _, _, _, _, _, _, _, _ => none
  | k + 1, x12, x125000, x125001, x125002, x125003, x126000, x126001, x126002, x126003 => if x12 = true then (some true) else ((spec_DataKnown.f k (([(⟨0, (⟨x125000, (⟨x125001, x125002, x125003⟩ : S31)⟩ : S35), 0⟩ : S39), (⟨0, (⟨x126000, (⟨x126001, x126002, x126003⟩ : S31)⟩ : S35), 0⟩ : S39)] : List (S39)))).bind fun t131 => (if t131 = true then ((impl_Overlaps.f x125000 x125001 x125002 x125003 x126000 x126001 x126002 x126003).bind fun t132 => ((spec_Overlaps.f k x125000 x125001 x125002 x125003 x126000 x126001 x126002 x126003).bind fun t133 => (if (t132 == t133) = true then ((impl_Overlaps.f x126000 x126001 x126002 x126003 x125000 x125001 x125002 x125003).bind fun t134 => ((spec_Overlaps.f k x125000 x125001 x125002 x125003 x126000 x126001 x126002 x126003).bind fun t135 => (some (t134 == t135)))) else (some false)))) else (some true)))
def laws_FnOverlaps.f (k : Nat) (a0_0 : Int) (a0_1 : Int) (a0_2 : Int) (a0_3 : ByteArray) (a1_0 : Int) (a1_1 : Int) (a1_2 : Int) (a1_3 : ByteArray) : Option (Bool) := (laws_zzFits14.f a0_0 a0_1 a0_2 a0_3).bind fun t126 => (if t126 = true then ((laws_zzFits14.f a1_0 a1_1 a1_2 a1_3).bind fun t127 => (laws_FnOverlaps.j0 k (!t127) a0_0 a0_1 a0_2 a0_3 a1_0 a1_1 a1_2 a1_3)) else (laws_FnOverlaps.j0 k true a0_0 a0_1 a0_2 a0_3 a1_0 a1_1 a1_2 a1_3))
theorem laws_FnOverlaps.mono_l : ∀ k, (∀ y0 y1 y2 y3 y4 y5 y6 y7 y8, LeO (laws_FnOverlaps.j0 k y0 y1 y2 y3 y4 y5 y6 y7 y8) (laws_FnOverlaps.j0 (k + 1) y0 y1 y2 y3 y4 y5 y6 y7 y8))
  | 0 => fun _ _ _ _ _ _ _ _ _ r h => by simp [laws_FnOverlaps.j0] at h
  | k + 1 => by
    have ih0 := laws_FnOverlaps.mono_l k
    · intro y0 y1 y2 y3 y4 y5 y6 y7 y8
      unfold laws_FnOverlaps.j0
      repeat' first
      | (with_reducible exact ih0 _ _ _ _ _ _ _ _ _)
      | (with_reducible exact spec_DataKnown.mono _ _)
      | (with_reducible exact spec_Overlaps.mono _ _ _ _ _ _ _ _ _)
      | (with_reducible exact LeO.refl _)
      | (with_reducible exact LeO.none _)
      | (with_reducible refine LeO.ite ?_ ?_)
      | (with_reducible refine LeO.bind ?_ (fun _ => ?_))
      | exact ih0 _ _ _ _ _ _ _ _ _
      | exact spec_DataKnown.mono _ _
      | exact spec_Overlaps.mono _ _ _ _ _ _ _ _ _
      | exact LeO.none _
      | refine LeO.ite ?_ ?_
      | refine LeO.bind ?_ (fun _ => ?_)
theorem laws_FnOverlaps.mono : ∀ a0 a1 a2 a3 a4 a5 a6 a7 k, LeO (laws_FnOverlaps.f k a0 a1 a2 a3 a4 a5 a6 a7) (laws_FnOverlaps.f (k + 1) a0 a1 a2 a3 a4 a5 a6 a7) := by
  intro a0 a1 a2 a3 a4 a5 a6 a7 k
  have ih0 := laws_FnOverlaps.mono_l k
  unfold laws_FnOverlaps.f
  repeat' first
      | (with_reducible exact ih0 _ _ _ _ _ _ _ _ _)
      | (with_reducible exact spec_DataKnown.mono _ _)
      | (with_reducible exact spec_Overlaps.mono _ _ _ _ _ _ _ _ _)
      | (with_reducible exact LeO.refl _)
      | (with_reducible exact LeO.none _)
      | (with_reducible refine LeO.ite ?_ ?_)
      | (with_reducible refine LeO.bind ?_ (fun _ => ?_))
      | exact ih0 _ _ _ _ _ _ _ _ _
      | exact spec_DataKnown.mono _ _
      | exact spec_Overlaps.mono _ _ _ _ _ _ _ _ _
      | exact LeO.none _
      | refine LeO.ite ?_ ?_
      | refine LeO.bind ?_ (fun _ => ?_)
def laws_FnOverlaps.T5 : Bool × List (List Nat × List Nat) := (true, [([], []), ([], []), ([0, 1], [0, 1]), ([], []), ([], []), ([3, 4, 2], [3, 4]), ([2, 5], [2, 5]), ([6, 5], [6]), ([7], [7]), ([7], [7]), ([8, 9, 7, 7], [7, 8, 9]), ([7], [7]), ([7], [7]), ([11, 12, 10, 7], [7, 11, 12]), ([10, 13, 7], [7, 10, 13]), ([7, 14], [7, 14]), ([15, 13, 0, 1, 2, 3, 4, 5, 6, 7, 8, 9, 10, 11, 12, 13, 14, 15], [15])])
def laws_FnOverlaps.B5 : List Nat := [0, 0, 3, 0, 0, 31, 63, 127, 255, 255, 1023, 255, 255, 8191, 16383, 32767, 65535]
theorem laws_FnOverlaps.tab5 : rtab .any (opsOf Try.f5 5) = laws_FnOverlaps.T5 := by kernel_rfl
theorem laws_FnOverlaps.bits5 : waitsOk laws_FnOverlaps.T5.2 laws_FnOverlaps.B5 = true := by kernel_rfl
set_option maxHeartbeats 8000000 in
set_option maxRecDepth 100000 in
theorem laws_FnOverlaps.calls (k : Nat) (a0_0 : Int) (a0_1 : Int) (a0_2 : Int) (a0_3 : ByteArray) (a1_0 : Int) (a1_1 : Int) (a1_2 : Int) (a1_3 : ByteArray) (r : Bool) (w : World) (h : laws_FnOverlaps.f k a0_0 a0_1 a0_2 a0_3 a1_0 a1_1 a1_2 a1_3 = some r) :
    Calls Try.prog 5 #[.agg #[.int .i64 a0_0, .int .i64 a0_1, .int .u64 a0_2, .string a0_3], .agg #[.int .i64 a1_0, .int .i64 a1_1, .int .u64 a1_2, .string a1_3]] w fun e w' => e = .returned (.bool r) ∧ Below w.heap.size w w' := by
  have hu35 := Try.underlying35
  have hu39 := Try.underlying39
  have HB := Aside0.mk (Below.refl w.heap.size w)
  have H : ((laws_zzFits14.f a0_0 a0_1 a0_2 a0_3).bind fun t126 => (if t126 = true then ((laws_zzFits14.f a1_0 a1_1 a1_2 a1_3).bind fun t127 => (laws_FnOverlaps.j0 k (!t127) a0_0 a0_1 a0_2 a0_3 a1_0 a1_1 a1_2 a1_3)) else (laws_FnOverlaps.j0 k true a0_0 a0_1 a0_2 a0_3 a1_0 a1_1 a1_2 a1_3))) = some r := h
  clear h
  have HC3 := Aside0.mk H
  clear H
  go_enter Try.func5, Try.ntmps5
  go_upto_region 1 with (first | ((with_reducible refine gate_dst (N := 2) rfl ?_); refine box_event ?hg (N := 2) ?hd (cs := #[.int .i64 a0_0, .int .i64 a0_1, .int .u64 a0_2, .string a0_3]) (t := 35) ?hr ?_; (case hd => rfl); (case hg => rfl); (case hr => first | (go_simp; done) | (go_simp; rfl)); intro gb124 hg w4 hbox hb; have n0_ := Aside0.mk (below_step (by repeat (first | (with_reducible first | exact HB.out | apply below_alloc | apply pw_below_drewN | apply below_drew1) | exact HB.out)) hb); have n1_ := Aside0.mk (hbox); have n2_ := Aside0.mk ((by rw [hg]; exact (below_size (by repeat (first | (with_reducible first | exact HB.out | apply below_alloc | apply pw_below_drewN | apply below_drew1) | exact HB.out))) : w.heap.size ≤ gb124)); have n3_ := Aside0.mk ((by rw [hg]; exact (below_size (by repeat (first | (with_reducible first | exact HB.out | apply below_alloc | apply pw_below_drewN | apply below_drew1) | exact HB.out))) : w.heap.size ≤ gb124)); clear HB; have HB := n0_; have BK124 := n1_; have GW124 := n2_; have GE124 := n3_; clear n0_ n1_ n2_ n3_; clear hb hbox hg) | ((with_reducible refine gate_dst (N := 3) rfl ?_); refine box_event ?hg (N := 3) ?hd (cs := #[.int .i64 a1_0, .int .i64 a1_1, .int .u64 a1_2, .string a1_3]) (t := 35) ?hr ?_; (case hd => rfl); (case hg => rfl); (case hr => first | (go_simp; done) | (go_simp; rfl)); intro gb125 hg w5 hbox hb; have n0_ := Aside0.mk (blk_below (g := gb124) (o := .cells #[.int .i64 a0_0, .int .i64 a0_1, .int .u64 a0_2, .string a0_3] 35 (0, 0)) (by (with_reducible repeat (first | refine blk_drewN ?_ _ | refine blk_drew ?_ | refine blk_alloc ?_ _)); exact BK124.out) hb); have n1_ := Aside0.mk (below_step (by repeat (first | (with_reducible first | exact HB.out | apply below_alloc | apply pw_below_drewN | apply below_drew1 | refine below_set ?_ GE124.out) | exact HB.out)) hb); have n2_ := Aside0.mk (hbox); have n3_ := Aside0.mk ((by rw [hg]; exact (below_size (by repeat (first | (with_reducible first | exact HB.out | apply below_alloc | apply pw_below_drewN | apply below_drew1 | refine below_set ?_ GE124.out) | exact HB.out))) : w.heap.size ≤ gb125)); have n4_ := Aside0.mk ((by rw [hg]; exact (below_size (by repeat (first | (with_reducible first | exact HB.out | apply below_alloc | apply pw_below_drewN | apply below_drew1 | refine below_set ?_ GE124.out) | exact HB.out))) : w.heap.size ≤ gb125)); have n5_ := Aside0.mk ((by rw [hg]; exact Nat.ne_of_lt (blk_lt (g := gb124) (o := .cells #[.int .i64 a0_0, .int .i64 a0_1, .int .u64 a0_2, .string a0_3] 35 (0, 0)) (by (with_reducible repeat (first | refine blk_drewN ?_ _ | refine blk_drew ?_ | refine blk_alloc ?_ _)); exact BK124.out)) : gb124 ≠ gb125)); have n6_ := Aside0.mk ((by rw [hg]; exact Nat.ne_of_gt (blk_lt (g := gb124) (o := .cells #[.int .i64 a0_0, .int .i64 a0_1, .int .u64 a0_2, .string a0_3] 35 (0, 0)) (by (with_reducible repeat (first | refine blk_drewN ?_ _ | refine blk_drew ?_ | refine blk_alloc ?_ _)); exact BK124.out)) : gb125 ≠ gb124)); clear BK124; clear HB; have BK124 := n0_; have HB := n1_; have BK125 := n2_; have GW125 := n3_; have GE125 := n4_; have NB124_125 := n5_; have NB125_124 := n6_; clear n0_ n1_ n2_ n3_ n4_ n5_ n6_; clear hb hbox hg))
  (try simp only [Act.put, List.setIfInBounds_toArray, List.set_cons_zero, List.set_cons_succ])
  go_cut [12] (fun v12 wc => ∃ (kq : Nat) (x12_2 : Bool), v12 = .bool x12_2 ∧ Aside0 (laws_FnOverlaps.j0 kq x12_2 a0_0 a0_1 a0_2 a0_3 a1_0 a1_1 a1_2 a1_3 = some r) ∧ Aside0 (kq ≤ k) ∧ Aside0 (wc.heap[gb124]? = some (.cells #[.int .i64 a0_0, .int .i64 a0_1, .int .u64 a0_2, .string a0_3] 35 (0, 0))) ∧ Aside0 (wc.heap[gb125]? = some (.cells #[.int .i64 a1_0, .int .i64 a1_1, .int .u64 a1_2, .string a1_3] 35 (0, 0))) ∧ Aside0 (Below w.heap.size w wc))
  case first =>
    have H := HC3.out
    clear HC3
    replace H := Option.bind_eq_some_iff.mp H
    obtain ⟨t126, A60, H⟩ := H
    replace H : (if t126 = true then ((laws_zzFits14.f a1_0 a1_1 a1_2 a1_3).bind fun t127 => (laws_FnOverlaps.j0 k (!t127) a0_0 a0_1 a0_2 a0_3 a1_0 a1_1 a1_2 a1_3)) else (laws_FnOverlaps.j0 k true a0_0 a0_1 a0_2 a0_3 a1_0 a1_1 a1_2 a1_3)) = some r := H
    have A6 := Aside0.mk A60
    clear A60
    by_cases c7 : t126 = true
    · subst c7
      have H1 : ((laws_zzFits14.f a1_0 a1_1 a1_2 a1_3).bind fun t127 => (laws_FnOverlaps.j0 k (!t127) a0_0 a0_1 a0_2 a0_3 a1_0 a1_1 a1_2 a1_3)) = some r := by rw [if_pos rfl] at H; exact H
      clear H
      have H := H1
      clear H1
      replace H := Option.bind_eq_some_iff.mp H
      obtain ⟨t127, A80, H⟩ := H
      replace H : (laws_FnOverlaps.j0 k (!t127) a0_0 a0_1 a0_2 a0_3 a1_0 a1_1 a1_2 a1_3) = some r := H
      have A8 := Aside0.mk A80
      clear A80
      have H' := Aside0.mk H
      clear H
      have hnb9 := NB124_125.out
      have hnc9 := NB125_124.out
      have hcz10_0 : w5.cell? ⟨gb124, 0, none⟩ = some (.int .i64 a0_0) := (blk_cell BK124.out 0).trans rfl
      have hcz10_1 : w5.cell? ⟨gb124, 1, none⟩ = some (.int .i64 a0_1) := (blk_cell BK124.out 1).trans rfl
      have hcz10_2 : w5.cell? ⟨gb124, 2, none⟩ = some (.int .u64 a0_2) := (blk_cell BK124.out 2).trans rfl
      have hcz10_3 : w5.cell? ⟨gb124, 3, none⟩ = some (.string a0_3) := (blk_cell BK124.out 3).trans rfl
      have hfz10_0 := blk_frozen BK124.out 0
      have hfz10_1 := blk_frozen BK124.out 1
      have hfz10_2 := blk_frozen BK124.out 2
      have hfz10_3 := blk_frozen BK124.out 3
      go_wp2_with (first | ((with_reducible refine gate_callee (f := 16) rfl ?_); refine goesL_ (some 6) rfl rfl Try.func16 (by kernel_rfl) rfl #[.agg #[.int .i64 a0_0, .int .i64 a0_1, .int .u64 a0_2, .string a0_3]] rfl (by (try simp only [List.map_toArray, List.map_cons, List.map_nil]); first | done | rfl | (simp only [List.length_drop, List.length_take]; rfl)) ?_; (with_reducible refine (laws_zzFits14.calls a0_0 a0_1 a0_2 a0_3 true _ A6.out).mono ?_); rintro e w11 ⟨rfl, hb⟩; refine ⟨_, rfl, ?_⟩; have n0_ := Aside0.mk (blk_below (g := gb124) (o := .cells #[.int .i64 a0_0, .int .i64 a0_1, .int .u64 a0_2, .string a0_3] 35 (0, 0)) (by (with_reducible repeat (first | refine blk_drewN ?_ _ | refine blk_drew ?_ | refine blk_alloc ?_ _)); exact BK124.out) hb); have n1_ := Aside0.mk (blk_below (g := gb125) (o := .cells #[.int .i64 a1_0, .int .i64 a1_1, .int .u64 a1_2, .string a1_3] 35 (0, 0)) (by (with_reducible repeat (first | refine blk_drewN ?_ _ | refine blk_drew ?_ | refine blk_alloc ?_ _)); exact BK125.out) hb); have n2_ := Aside0.mk (below_step (by repeat (first | (with_reducible first | exact HB.out | apply below_alloc | apply pw_below_drewN | apply below_drew1 | refine below_set ?_ GE124.out | refine below_set ?_ GE125.out) | exact HB.out)) hb); clear BK124; clear BK125; clear HB; have BK124 := n0_; have BK125 := n1_; have HB := n2_; clear n0_ n1_ n2_; (try clear hb); (try clear hb2); (try clear hk); (try clear hi); have hcz12_0 : w11.cell? ⟨gb125, 0, none⟩ = some (.int .i64 a1_0) := (blk_cell BK125.out 0).trans rfl; have hcz12_1 : w11.cell? ⟨gb125, 1, none⟩ = some (.int .i64 a1_1) := (blk_cell BK125.out 1).trans rfl; have hcz12_2 : w11.cell? ⟨gb125, 2, none⟩ = some (.int .u64 a1_2) := (blk_cell BK125.out 2).trans rfl; have hcz12_3 : w11.cell? ⟨gb125, 3, none⟩ = some (.string a1_3) := (blk_cell BK125.out 3).trans rfl; have hfz12_0 := blk_frozen BK125.out 0; have hfz12_1 := blk_frozen BK125.out 1; have hfz12_2 := blk_frozen BK125.out 2; have hfz12_3 := blk_frozen BK125.out 3) | (go_at_call 16; (with_reducible refine (laws_zzFits14.calls a1_0 a1_1 a1_2 a1_3 t127 _ A8.out).mono ?_); rintro e w13 ⟨rfl, hb⟩; have n0_ := Aside0.mk (blk_below (g := gb124) (o := .cells #[.int .i64 a0_0, .int .i64 a0_1, .int .u64 a0_2, .string a0_3] 35 (0, 0)) (by (with_reducible repeat (first | refine blk_drewN ?_ _ | refine blk_drew ?_ | refine blk_alloc ?_ _)); exact BK124.out) hb); have n1_ := Aside0.mk (blk_below (g := gb125) (o := .cells #[.int .i64 a1_0, .int .i64 a1_1, .int .u64 a1_2, .string a1_3] 35 (0, 0)) (by (with_reducible repeat (first | refine blk_drewN ?_ _ | refine blk_drew ?_ | refine blk_alloc ?_ _)); exact BK125.out) hb); have n2_ := Aside0.mk (below_step (by repeat (first | (with_reducible first | exact HB.out | apply below_alloc | apply pw_below_drewN | apply below_drew1 | refine below_set ?_ GE124.out | refine below_set ?_ GE125.out) | exact HB.out)) hb); clear BK124; clear BK125; clear HB; have BK124 := n0_; have BK125 := n1_; have HB := n2_; clear n0_ n1_ n2_; (try clear hb); (try clear hb2); (try clear hk); (try clear hi)))
      go_meet
      case rel => exact ⟨_, (!t127), (by first | rfl | (simp; done) | (simp [*]; done)), H', ⟨by first | omega | exact Nat.le_refl _⟩, ⟨by (with_reducible repeat (first | refine blk_drewN ?_ _ | refine blk_drew ?_ | refine blk_alloc ?_ _)); exact BK124.out⟩, ⟨by (with_reducible repeat (first | refine blk_drewN ?_ _ | refine blk_drew ?_ | refine blk_alloc ?_ _)); exact BK125.out⟩, ⟨by repeat (first | (with_reducible first | exact HB.out | apply below_alloc | apply pw_below_drewN | apply below_drew1 | refine below_set ?_ GE124.out | refine below_set ?_ GE125.out) | exact HB.out)⟩⟩
    · replace c7 := Bool.eq_false_iff.mpr c7
      subst c7
      have H1 : (laws_FnOverlaps.j0 k true a0_0 a0_1 a0_2 a0_3 a1_0 a1_1 a1_2 a1_3) = some r := by rw [if_neg (show ¬ (false = true) by decide)] at H; exact H
      clear H
      have H := H1
      clear H1
      have H' := Aside0.mk H
      clear H
      have hnb14 := NB124_125.out
      have hnc14 := NB125_124.out
      have hcz15_0 : w5.cell? ⟨gb124, 0, none⟩ = some (.int .i64 a0_0) := (blk_cell BK124.out 0).trans rfl
      have hcz15_1 : w5.cell? ⟨gb124, 1, none⟩ = some (.int .i64 a0_1) := (blk_cell BK124.out 1).trans rfl
      have hcz15_2 : w5.cell? ⟨gb124, 2, none⟩ = some (.int .u64 a0_2) := (blk_cell BK124.out 2).trans rfl
      have hcz15_3 : w5.cell? ⟨gb124, 3, none⟩ = some (.string a0_3) := (blk_cell BK124.out 3).trans rfl
      have hfz15_0 := blk_frozen BK124.out 0
      have hfz15_1 := blk_frozen BK124.out 1
      have hfz15_2 := blk_frozen BK124.out 2
      have hfz15_3 := blk_frozen BK124.out 3
      go_wp2_with (first | ((with_reducible refine gate_callee (f := 16) rfl ?_); refine goesL_ (some 6) rfl rfl Try.func16 (by kernel_rfl) rfl #[.agg #[.int .i64 a0_0, .int .i64 a0_1, .int .u64 a0_2, .string a0_3]] rfl (by (try simp only [List.map_toArray, List.map_cons, List.map_nil]); first | done | rfl | (simp only [List.length_drop, List.length_take]; rfl)) ?_; (with_reducible refine (laws_zzFits14.calls a0_0 a0_1 a0_2 a0_3 false _ A6.out).mono ?_); rintro e w16 ⟨rfl, hb⟩; refine ⟨_, rfl, ?_⟩; have n0_ := Aside0.mk (blk_below (g := gb124) (o := .cells #[.int .i64 a0_0, .int .i64 a0_1, .int .u64 a0_2, .string a0_3] 35 (0, 0)) (by (with_reducible repeat (first | refine blk_drewN ?_ _ | refine blk_drew ?_ | refine blk_alloc ?_ _)); exact BK124.out) hb); have n1_ := Aside0.mk (blk_below (g := gb125) (o := .cells #[.int .i64 a1_0, .int .i64 a1_1, .int .u64 a1_2, .string a1_3] 35 (0, 0)) (by (with_reducible repeat (first | refine blk_drewN ?_ _ | refine blk_drew ?_ | refine blk_alloc ?_ _)); exact BK125.out) hb); have n2_ := Aside0.mk (below_step (by repeat (first | (with_reducible first | exact HB.out | apply below_alloc | apply pw_below_drewN | apply below_drew1 | refine below_set ?_ GE124.out | refine below_set ?_ GE125.out) | exact HB.out)) hb); clear BK124; clear BK125; clear HB; have BK124 := n0_; have BK125 := n1_; have HB := n2_; clear n0_ n1_ n2_; (try clear hb); (try clear hb2); (try clear hk); (try clear hi)))
      go_meet
      case rel => exact ⟨_, (true), (by first | rfl | (simp; done) | (simp [*]; done)), H', ⟨by first | omega | exact Nat.le_refl _⟩, ⟨by (with_reducible repeat (first | refine blk_drewN ?_ _ | refine blk_drew ?_ | refine blk_alloc ?_ _)); exact BK124.out⟩, ⟨by (with_reducible repeat (first | refine blk_drewN ?_ _ | refine blk_drew ?_ | refine blk_alloc ?_ _)); exact BK125.out⟩, ⟨by repeat (first | (with_reducible first | exact HB.out | apply below_alloc | apply pw_below_drewN | apply below_drew1 | refine below_set ?_ GE124.out | refine below_set ?_ GE125.out) | exact HB.out)⟩⟩
  case rest =>
    clear HC3
    try clear c1
    try clear p2
    try clear c5
    try clear c7
    try clear c9
    try clear c14
    try clear c16
    try clear hcz10_0
    try clear hcz10_1
    try clear hcz10_2
    try clear hcz10_3
    try clear hcz12_0
    try clear hcz12_1
    try clear hcz12_2
    try clear hcz12_3
    try clear hcz15_0
    try clear hcz15_1
    try clear hcz15_2
    try clear hcz15_3
    try clear hfz10_0
    try clear hfz10_1
    try clear hfz10_2
    try clear hfz10_3
    try clear hfz12_0
    try clear hfz12_1
    try clear hfz12_2
    try clear hfz12_3
    try clear hfz15_0
    try clear hfz15_1
    try clear hfz15_2
    try clear hfz15_3
    obtain ⟨kq, x12_2, rfl, HA, HJ2, BK124, BK125, HB⟩ := hcut
    cases kq with
    | zero => exact absurd HA.out (by simp [laws_FnOverlaps.j0])
    | succ kj2 =>
      have H := HA.out
      clear HA
      simp only [laws_FnOverlaps.j0] at H
      by_cases c17 : x12_2 = true
      · subst c17
        have H1 : (some true) = some r := by rw [if_pos rfl] at H; exact H
        clear H
        have H := H1
        clear H1
        obtain rfl := Option.some.inj H
        go_wp2
        go_ret
        exact ⟨by first | rfl | (simp [errW_none, errW_some] <;> rfl) | (simp [*, errW_none, errW_some] <;> rfl), by repeat (first | (with_reducible first | exact HB.out | apply below_alloc | apply pw_below_drewN | apply below_drew1 | refine below_set ?_ GE124.out | refine below_set ?_ GE125.out) | exact HB.out)⟩
      · replace c17 := Bool.eq_false_iff.mpr c17
        subst c17
        have H1 : ((spec_DataKnown.f kj2 (([(⟨0, (⟨a0_0, (⟨a0_1, a0_2, a0_3⟩ : S31)⟩ : S35), 0⟩ : S39), (⟨0, (⟨a1_0, (⟨a1_1, a1_2, a1_3⟩ : S31)⟩ : S35), 0⟩ : S39)] : List (S39)))).bind fun t131 => (if t131 = true then ((impl_Overlaps.f a0_0 a0_1 a0_2 a0_3 a1_0 a1_1 a1_2 a1_3).bind fun t132 => ((spec_Overlaps.f kj2 a0_0 a0_1 a0_2 a0_3 a1_0 a1_1 a1_2 a1_3).bind fun t133 => (if (t132 == t133) = true then ((impl_Overlaps.f a1_0 a1_1 a1_2 a1_3 a0_0 a0_1 a0_2 a0_3).bind fun t134 => ((spec_Overlaps.f kj2 a0_0 a0_1 a0_2 a0_3 a1_0 a1_1 a1_2 a1_3).bind fun t135 => (some (t134 == t135)))) else (some false)))) else (some true))) = some r := by rw [if_neg (show ¬ (false = true) by decide)] at H; exact H
        clear H
        have H := H1
        clear H1
        obtain ⟨y128, hy128⟩ : ∃ y_ : List (S39), y_ = (([(⟨0, (⟨a0_0, (⟨a0_1, a0_2, a0_3⟩ : S31)⟩ : S35), 0⟩ : S39), (⟨0, (⟨a1_0, (⟨a1_1, a1_2, a1_3⟩ : S31)⟩ : S35), 0⟩ : S39)] : List (S39))) := ⟨_, rfl⟩
        replace H : ((spec_DataKnown.f kj2 y128).bind fun t131 => (if t131 = true then ((impl_Overlaps.f a0_0 a0_1 a0_2 a0_3 a1_0 a1_1 a1_2 a1_3).bind fun t132 => ((spec_Overlaps.f kj2 a0_0 a0_1 a0_2 a0_3 a1_0 a1_1 a1_2 a1_3).bind fun t133 => (if (t132 == t133) = true then ((impl_Overlaps.f a1_0 a1_1 a1_2 a1_3 a0_0 a0_1 a0_2 a0_3).bind fun t134 => ((spec_Overlaps.f kj2 a0_0 a0_1 a0_2 a0_3 a1_0 a1_1 a1_2 a1_3).bind fun t135 => (some (t134 == t135)))) else (some false)))) else (some true))) = some r := by first | (rw [hy128]; with_reducible exact H) | (have H2_ := (Option.bind_some _ _).symm.trans H; rw [hy128]; with_reducible exact H2_) | (have H2_ := (Option.bind_some _ _).symm.trans H; with_reducible exact H2_) | with_reducible exact H | (rw [hy128]; exact H) | exact H
        have Ny128 := Aside0.mk hy128
        clear hy128
        replace H := Option.bind_eq_some_iff.mp H
        obtain ⟨t131, A180, H⟩ := H
        replace H : (if t131 = true then ((impl_Overlaps.f a0_0 a0_1 a0_2 a0_3 a1_0 a1_1 a1_2 a1_3).bind fun t132 => ((spec_Overlaps.f kj2 a0_0 a0_1 a0_2 a0_3 a1_0 a1_1 a1_2 a1_3).bind fun t133 => (if (t132 == t133) = true then ((impl_Overlaps.f a1_0 a1_1 a1_2 a1_3 a0_0 a0_1 a0_2 a0_3).bind fun t134 => ((spec_Overlaps.f kj2 a0_0 a0_1 a0_2 a0_3 a1_0 a1_1 a1_2 a1_3).bind fun t135 => (some (t134 == t135)))) else (some false)))) else (some true)) = some r := H
        have A18 := Aside0.mk A180
        clear A180
        by_cases c19 : t131 = true
        · subst c19
          have H1 : ((impl_Overlaps.f a0_0 a0_1 a0_2 a0_3 a1_0 a1_1 a1_2 a1_3).bind fun t132 => ((spec_Overlaps.f kj2 a0_0 a0_1 a0_2 a0_3 a1_0 a1_1 a1_2 a1_3).bind fun t133 => (if (t132 == t133) = true then ((impl_Overlaps.f a1_0 a1_1 a1_2 a1_3 a0_0 a0_1 a0_2 a0_3).bind fun t134 => ((spec_Overlaps.f kj2 a0_0 a0_1 a0_2 a0_3 a1_0 a1_1 a1_2 a1_3).bind fun t135 => (some (t134 == t135)))) else (some false)))) = some r := by rw [if_pos rfl] at H; exact H
          clear H
          have H := H1
          clear H1
          replace H := Option.bind_eq_some_iff.mp H
          obtain ⟨t132, A200, H⟩ := H
          replace H : ((spec_Overlaps.f kj2 a0_0 a0_1 a0_2 a0_3 a1_0 a1_1 a1_2 a1_3).bind fun t133 => (if (t132 == t133) = true then ((impl_Overlaps.f a1_0 a1_1 a1_2 a1_3 a0_0 a0_1 a0_2 a0_3).bind fun t134 => ((spec_Overlaps.f kj2 a0_0 a0_1 a0_2 a0_3 a1_0 a1_1 a1_2 a1_3).bind fun t135 => (some (t134 == t135)))) else (some false))) = some r := H
          have A20 := Aside0.mk A200
          clear A200
          replace H := Option.bind_eq_some_iff.mp H
          obtain ⟨t133, A210, H⟩ := H
          replace H : (if (t132 == t133) = true then ((impl_Overlaps.f a1_0 a1_1 a1_2 a1_3 a0_0 a0_1 a0_2 a0_3).bind fun t134 => ((spec_Overlaps.f kj2 a0_0 a0_1 a0_2 a0_3 a1_0 a1_1 a1_2 a1_3).bind fun t135 => (some (t134 == t135)))) else (some false)) = some r := H
          have A21 := Aside0.mk A210
          clear A210
          by_cases c22 : (t132 == t133) = true
          · rw [if_pos c22] at H
            have c22b0 : (t132 == t133) = true := c22
            (try (have c22b1 : decide (t132 = t133) = true := by simpa using c22))
            (try (have c22b2 : (t132 == t133) = true := by simpa using c22))
            clear c22
            replace H := Option.bind_eq_some_iff.mp H
            obtain ⟨t134, A230, H⟩ := H
            replace H : ((spec_Overlaps.f kj2 a0_0 a0_1 a0_2 a0_3 a1_0 a1_1 a1_2 a1_3).bind fun t135 => (some (t134 == t135))) = some r := H
            have A23 := Aside0.mk A230
            clear A230
            replace H := Option.bind_eq_some_iff.mp H
            obtain ⟨t135, A240, H⟩ := H
            replace H : (some (t134 == t135)) = some r := H
            have A24 := Aside0.mk A240
            clear A240
            obtain rfl := Option.some.inj H
            have hnb25 := NB124_125.out
            have hnc25 := NB125_124.out
            have hcz26_0 : wc.cell? ⟨gb124, 0, none⟩ = some (.int .i64 a0_0) := (blk_cell BK124.out 0).trans rfl
            have hcz26_1 : wc.cell? ⟨gb124, 1, none⟩ = some (.int .i64 a0_1) := (blk_cell BK124.out 1).trans rfl
            have hcz26_2 : wc.cell? ⟨gb124, 2, none⟩ = some (.int .u64 a0_2) := (blk_cell BK124.out 2).trans rfl
            have hcz26_3 : wc.cell? ⟨gb124, 3, none⟩ = some (.string a0_3) := (blk_cell BK124.out 3).trans rfl
            have hfz26_0 := blk_frozen BK124.out 0
            have hfz26_1 := blk_frozen BK124.out 1
            have hfz26_2 := blk_frozen BK124.out 2
            have hfz26_3 := blk_frozen BK124.out 3
            have hcz27_0 : wc.cell? ⟨gb125, 0, none⟩ = some (.int .i64 a1_0) := (blk_cell BK125.out 0).trans rfl
            have hcz27_1 : wc.cell? ⟨gb125, 1, none⟩ = some (.int .i64 a1_1) := (blk_cell BK125.out 1).trans rfl
            have hcz27_2 : wc.cell? ⟨gb125, 2, none⟩ = some (.int .u64 a1_2) := (blk_cell BK125.out 2).trans rfl
            have hcz27_3 : wc.cell? ⟨gb125, 3, none⟩ = some (.string a1_3) := (blk_cell BK125.out 3).trans rfl
            have hfz27_0 := blk_frozen BK125.out 0
            have hfz27_1 := blk_frozen BK125.out 1
            have hfz27_2 := blk_frozen BK125.out 2
            have hfz27_3 := blk_frozen BK125.out 3
            try go_wp2_with (first | ((with_reducible refine gate_dst (N := 17) rfl ?_); refine Kd.R_lit k39 _ 39 ?hg (N := 17) ?hd (xs := ([(⟨0, (⟨a0_0, (⟨a0_1, a0_2, a0_3⟩ : S31)⟩ : S35), 0⟩ : S39), (⟨0, (⟨a1_0, (⟨a1_1, a1_2, a1_3⟩ : S31)⟩ : S35), 0⟩ : S39)] : List (S39))) (inner := [.int .i64 0, .int .i64 a0_0, .int .i64 a0_1, .int .u64 a0_2, .string a0_3, .int .i64 0, .int .i64 0, .int .i64 a1_0, .int .i64 a1_1, .int .u64 a1_2, .string a1_3, .int .i64 0]) (ok := fun _ => True) (okp := fun _ => True) ?hr ?hp (fun _ hk => hk) trivial (Below.refl _ _) (Nat.le_refl _) (by simp) ?_; (case hd => rfl); (case hg => rfl); (case hr => first | (go_simp; done) | (go_simp; rfl)); (case hp => exact (Reps.c6 (show Kd.M k39 _ _ _ (⟨0, (⟨a0_0, (⟨a0_1, a0_2, a0_3⟩ : S31)⟩ : S35), 0⟩ : S39) [.int .i64 0, .int .i64 a0_0, .int .i64 a0_1, .int .u64 a0_2, .string a0_3, .int .i64 0] from (k39_mkM _ _ _ (⟨0, (⟨a0_0, (⟨a0_1, a0_2, a0_3⟩ : S31)⟩ : S35), 0⟩ : S39) )) (Reps.c6 (show Kd.M k39 _ _ _ (⟨0, (⟨a1_0, (⟨a1_1, a1_2, a1_3⟩ : S31)⟩ : S35), 0⟩ : S39) [.int .i64 0, .int .i64 a1_0, .int .i64 a1_1, .int .u64 a1_2, .string a1_3, .int .i64 0] from (k39_mkM _ _ _ (⟨0, (⟨a1_0, (⟨a1_1, a1_2, a1_3⟩ : S31)⟩ : S35), 0⟩ : S39) )) (Reps.none _ _)))); intro v129 w28 ho29 hb hg_ hnew_; clear hg_ hnew_; (first | rw [← Ny128.out] at ho29 | (simp only [Int.reduceToNat] at ho29; rw [← Ny128.out] at ho29)); have n0_ := Aside0.mk (Kd.R_lower ho29 (below_size (by repeat (first | (with_reducible first | exact HB.out | apply below_alloc | apply pw_below_drewN | apply below_drew1 | refine below_set ?_ GE124.out | refine below_set ?_ GE125.out) | exact HB.out)))); have n1_ := Aside0.mk (blk_below (g := gb124) (o := .cells #[.int .i64 a0_0, .int .i64 a0_1, .int .u64 a0_2, .string a0_3] 35 (0, 0)) (by (with_reducible repeat (first | refine blk_drewN ?_ _ | refine blk_drew ?_ | refine blk_alloc ?_ _)); exact BK124.out) hb); have n2_ := Aside0.mk (blk_below (g := gb125) (o := .cells #[.int .i64 a1_0, .int .i64 a1_1, .int .u64 a1_2, .string a1_3] 35 (0, 0)) (by (with_reducible repeat (first | refine blk_drewN ?_ _ | refine blk_drew ?_ | refine blk_alloc ?_ _)); exact BK125.out) hb); have n3_ := Aside0.mk (below_step (by repeat (first | (with_reducible first | exact HB.out | apply below_alloc | apply pw_below_drewN | apply below_drew1 | refine below_set ?_ GE124.out | refine below_set ?_ GE125.out) | exact HB.out)) hb); clear BK124; clear BK125; clear HB; have HO130 := n0_; have BK124 := n1_; have BK125 := n2_; have HB := n3_; clear n0_ n1_ n2_ n3_; clear hb ho29; obtain ⟨Ao30, co30, eo30⟩ := Kd.R_slice HO130.out; subst eo30) | ((with_reducible refine gate_callee (f := 17) rfl ?_); refine goesL_ (some 18) rfl rfl Try.func17 (by kernel_rfl) rfl #[.slice Ao30 y128.length co30] rfl (by (try simp only [List.map_toArray, List.map_cons, List.map_nil]); first | done | rfl | (simp only [List.length_drop, List.length_take]; rfl)) ?_; (with_reducible refine (spec_DataKnown.calls kj2 _ _ y128 true _ ?side1 ?side2 A18.out).mono ?_); (case side1 => repeat (first | exact (Kd.R_reads' HO130.out).2.2 | (with_reducible refine Kd.C_alloc ?_ _) | (with_reducible refine Kd.C_drewN ?_ _) | (with_reducible refine Kd.C_drew ?_))); (case side2 => exact (Kd.R_reads' HO130.out).2.1); rintro e w31 ⟨rfl, hb⟩; refine ⟨_, rfl, ?_⟩; have n0_ := Aside0.mk (Kd.R_below (by (with_reducible repeat (first | apply Kd.R_alloc | apply Kd.R_drewN | apply Kd.R_drew)); exact HO130.out) hb); have n1_ := Aside0.mk (blk_below (g := gb124) (o := .cells #[.int .i64 a0_0, .int .i64 a0_1, .int .u64 a0_2, .string a0_3] 35 (0, 0)) (by (with_reducible repeat (first | refine blk_drewN ?_ _ | refine blk_drew ?_ | refine blk_alloc ?_ _)); exact BK124.out) hb); have n2_ := Aside0.mk (blk_below (g := gb125) (o := .cells #[.int .i64 a1_0, .int .i64 a1_1, .int .u64 a1_2, .string a1_3] 35 (0, 0)) (by (with_reducible repeat (first | refine blk_drewN ?_ _ | refine blk_drew ?_ | refine blk_alloc ?_ _)); exact BK125.out) hb); have n3_ := Aside0.mk (below_step (by repeat (first | (with_reducible first | exact HB.out | apply below_alloc | apply pw_below_drewN | apply below_drew1 | refine below_set ?_ GE124.out | refine below_set ?_ GE125.out) | exact HB.out)) hb); clear HO130; clear BK124; clear BK125; clear HB; have HO130 := n0_; have BK124 := n1_; have BK125 := n2_; have HB := n3_; clear n0_ n1_ n2_ n3_; (try clear hb); (try clear hb2); (try clear hk); (try clear hi)))
            have n0_ := Aside0.mk (Kd.R_drew HO130.out)
            have n1_ := Aside0.mk (blk_drew BK124.out)
            have n2_ := Aside0.mk (blk_drew BK125.out)
            have n3_ := Aside0.mk (below_drew1 HB.out)
            clear HO130
            clear BK124
            clear BK125
            clear HB
            have HO130 := n0_
            have BK124 := n1_
            have BK125 := n2_
            have HB := n3_
            clear n0_ n1_ n2_ n3_
            refine start_ (n := 17) (S := fun w' => w'.cell? ⟨gb124, 0, none⟩ = some (.int .i64 a0_0) ∧ w'.cell? ⟨gb124, 1, none⟩ = some (.int .i64 a0_1) ∧ w'.cell? ⟨gb124, 2, none⟩ = some (.int .u64 a0_2) ∧ w'.cell? ⟨gb124, 3, none⟩ = some (.string a0_3) ∧ w'.cell? ⟨gb125, 0, none⟩ = some (.int .i64 a1_0) ∧ w'.cell? ⟨gb125, 1, none⟩ = some (.int .i64 a1_1) ∧ w'.cell? ⟨gb125, 2, none⟩ = some (.int .u64 a1_2) ∧ w'.cell? ⟨gb125, 3, none⟩ = some (.string a1_3)) (ds := []) #[false, false, false, false, false, false, false, false, false, false, false, false, false, false, false, false, false] (by kernel_rfl) rfl rfl ⟨(blk_cell BK124.out 0).trans rfl, (blk_cell BK124.out 1).trans rfl, (blk_cell BK124.out 2).trans rfl, (blk_cell BK124.out 3).trans rfl, (blk_cell BK125.out 0).trans rfl, (blk_cell BK125.out 1).trans rfl, (blk_cell BK125.out 2).trans rfl, (blk_cell BK125.out 3).trans rfl⟩ (fun hHeld => ?_); refine with_tabW laws_FnOverlaps.tab5 laws_FnOverlaps.bits5 (fun HT_ HW_ => ?_)
            generalize w31.drew = w32 at HO130 BK124 BK125 HB hHeld ⊢
            refine take_ (i := 0) (N := some 20) (v := ?_) (a' := ?_) #[true, false, false, false, false, false, false, false, false, false, false, false, false, false, false, false, false] rfl rfl (take_ofW HT_.out HW_.out (by kernel_rfl)) (fun _ _ _ h => h) (Or.inl ⟨by rfl, ?_⟩) hHeld ?_ ?_
            rotate_left
            · rintro w' ⟨s0, s1, s2, s3, s4, s5, s6, s7⟩
              go_simp
              with_reducible rfl
            rotate_left
            · simp only [Act.put, List.setIfInBounds_toArray, List.set_cons_zero, List.set_cons_succ, i64_w, i32_w]
              rfl
            refine take_ (i := 1) (N := some 21) (v := ?_) (a' := ?_) #[true, true, false, false, false, false, false, false, false, false, false, false, false, false, false, false, false] rfl rfl (take_ofW HT_.out HW_.out (by kernel_rfl)) (fun _ _ _ h => h) (Or.inl ⟨by rfl, ?_⟩) hHeld ?_ ?_
            rotate_left
            · rintro w' ⟨s0, s1, s2, s3, s4, s5, s6, s7⟩
              go_simp
              with_reducible rfl
            rotate_left
            · simp only [Act.put, List.setIfInBounds_toArray, List.set_cons_zero, List.set_cons_succ, i64_w, i32_w]
              rfl
            refine take_ (i := 3) (N := some 23) (v := ?_) (a' := ?_) #[true, true, false, true, false, false, false, false, false, false, false, false, false, false, false, false, false] rfl rfl (take_ofW HT_.out HW_.out (by kernel_rfl)) (fun _ _ _ h => h) (Or.inl ⟨by rfl, ?_⟩) hHeld ?_ ?_
            rotate_left
            · rintro w' ⟨s0, s1, s2, s3, s4, s5, s6, s7⟩
              go_simp
              with_reducible rfl
            rotate_left
            · simp only [Act.put, List.setIfInBounds_toArray, List.set_cons_zero, List.set_cons_succ, i64_w, i32_w]
              rfl
            refine take_ (i := 4) (N := some 24) (v := ?_) (a' := ?_) #[true, true, false, true, true, false, false, false, false, false, false, false, false, false, false, false, false] rfl rfl (take_ofW HT_.out HW_.out (by kernel_rfl)) (fun _ _ _ h => h) (Or.inl ⟨by rfl, ?_⟩) hHeld ?_ ?_
            rotate_left
            · rintro w' ⟨s0, s1, s2, s3, s4, s5, s6, s7⟩
              go_simp
              with_reducible rfl
            rotate_left
            · simp only [Act.put, List.setIfInBounds_toArray, List.set_cons_zero, List.set_cons_succ, i64_w, i32_w]
              rfl
            refine one_ (i := 2) (N := some 22) #[true, true, true, true, true, false, false, false, false, false, false, false, false, false, false, false, false] rfl rfl (one_of HT_.out (by kernel_rfl)) (by decide) (fun K hK => ?_)
            refine goes_ Try.func18 (by kernel_rfl) rfl #[.agg #[.int .i64 a0_0, .int .i64 a0_1, .int .u64 a0_2, .string a0_3], .agg #[.int .i64 a1_0, .int .i64 a1_1, .int .u64 a1_2, .string a1_3]] (by rfl) rfl rfl (by (try simp only [List.map_toArray, List.map_cons, List.map_nil]); first | done | rfl | (simp only [List.length_drop, List.length_take]; rfl)) ?_
            with_reducible refine (impl_Overlaps.calls a0_0 a0_1 a0_2 a0_3 a1_0 a1_1 a1_2 a1_3 t132 _ A20.out).mono ?_
            rintro e w33 ⟨rfl, hb⟩
            refine ⟨_, rfl, ?_⟩
            have n0_ := Aside0.mk (Kd.R_below (by (with_reducible repeat (first | apply Kd.R_alloc | apply Kd.R_drewN | apply Kd.R_drew)); exact HO130.out) hb)
            have n1_ := Aside0.mk (blk_below (g := gb124) (o := .cells #[.int .i64 a0_0, .int .i64 a0_1, .int .u64 a0_2, .string a0_3] 35 (0, 0)) (by (with_reducible repeat (first | refine blk_drewN ?_ _ | refine blk_drew ?_ | refine blk_alloc ?_ _)); exact BK124.out) hb)
            have n2_ := Aside0.mk (blk_below (g := gb125) (o := .cells #[.int .i64 a1_0, .int .i64 a1_1, .int .u64 a1_2, .string a1_3] 35 (0, 0)) (by (with_reducible repeat (first | refine blk_drewN ?_ _ | refine blk_drew ?_ | refine blk_alloc ?_ _)); exact BK125.out) hb)
            have n3_ := Aside0.mk (below_step (by repeat (first | (with_reducible first | exact HB.out | apply below_alloc | apply pw_below_drewN | apply below_drew1 | refine below_set ?_ GE124.out | refine below_set ?_ GE125.out) | exact HB.out)) hb)
            clear HO130
            clear BK124
            clear BK125
            clear HB
            have HO130 := n0_
            have BK124 := n1_
            have BK125 := n2_
            have HB := n3_
            clear n0_ n1_ n2_ n3_
            (try clear hb)
            (try clear hb2)
            (try clear hk)
            (try clear hi)
            refine hK.out _ _ ⟨(blk_cell BK124.out 0).trans rfl, (blk_cell BK124.out 1).trans rfl, (blk_cell BK124.out 2).trans rfl, (blk_cell BK124.out 3).trans rfl, (blk_cell BK125.out 0).trans rfl, (blk_cell BK125.out 1).trans rfl, (blk_cell BK125.out 2).trans rfl, (blk_cell BK125.out 3).trans rfl⟩ (fun hHeld => ?_)
            clear hK K
            refine norm_ (a' := ?_) ?_ ?_
            rotate_left
            · show Act.put _ (some 22) _ = _
              simp only [Act.put, List.setIfInBounds_toArray, List.set_cons_zero, List.set_cons_succ, i64_w, i32_w]
              rfl
            refine one_ (i := 5) (N := some 25) #[true, true, true, true, true, true, false, false, false, false, false, false, false, false, false, false, false] rfl rfl (one_of HT_.out (by kernel_rfl)) (by decide) (fun K hK => ?_)
            refine goes_ Try.func19 (by kernel_rfl) rfl #[.agg #[.int .i64 a0_0, .int .i64 a0_1, .int .u64 a0_2, .string a0_3], .agg #[.int .i64 a1_0, .int .i64 a1_1, .int .u64 a1_2, .string a1_3]] (by rfl) rfl rfl (by (try simp only [List.map_toArray, List.map_cons, List.map_nil]); first | done | rfl | (simp only [List.length_drop, List.length_take]; rfl)) ?_
            with_reducible refine (spec_Overlaps.calls kj2 a0_0 a0_1 a0_2 a0_3 a1_0 a1_1 a1_2 a1_3 t133 _ A21.out).mono ?_
            rintro e w34 ⟨rfl, hb⟩
            refine ⟨_, rfl, ?_⟩
            have n0_ := Aside0.mk (Kd.R_below (by (with_reducible repeat (first | apply Kd.R_alloc | apply Kd.R_drewN | apply Kd.R_drew)); exact HO130.out) hb)
            have n1_ := Aside0.mk (blk_below (g := gb124) (o := .cells #[.int .i64 a0_0, .int .i64 a0_1, .int .u64 a0_2, .string a0_3] 35 (0, 0)) (by (with_reducible repeat (first | refine blk_drewN ?_ _ | refine blk_drew ?_ | refine blk_alloc ?_ _)); exact BK124.out) hb)
            have n2_ := Aside0.mk (blk_below (g := gb125) (o := .cells #[.int .i64 a1_0, .int .i64 a1_1, .int .u64 a1_2, .string a1_3] 35 (0, 0)) (by (with_reducible repeat (first | refine blk_drewN ?_ _ | refine blk_drew ?_ | refine blk_alloc ?_ _)); exact BK125.out) hb)
            have n3_ := Aside0.mk (below_step (by repeat (first | (with_reducible first | exact HB.out | apply below_alloc | apply pw_below_drewN | apply below_drew1 | refine below_set ?_ GE124.out | refine below_set ?_ GE125.out) | exact HB.out)) hb)
            clear HO130
            clear BK124
            clear BK125
            clear HB
            have HO130 := n0_
            have BK124 := n1_
            have BK125 := n2_
            have HB := n3_
            clear n0_ n1_ n2_ n3_
            (try clear hb)
            (try clear hb2)
            (try clear hk)
            (try clear hi)
            refine hK.out _ _ ⟨(blk_cell BK124.out 0).trans rfl, (blk_cell BK124.out 1).trans rfl, (blk_cell BK124.out 2).trans rfl, (blk_cell BK124.out 3).trans rfl, (blk_cell BK125.out 0).trans rfl, (blk_cell BK125.out 1).trans rfl, (blk_cell BK125.out 2).trans rfl, (blk_cell BK125.out 3).trans rfl⟩ (fun hHeld => ?_)
            clear hK K
            refine norm_ (a' := ?_) ?_ ?_
            rotate_left
            · show Act.put _ (some 25) _ = _
              simp only [Act.put, List.setIfInBounds_toArray, List.set_cons_zero, List.set_cons_succ, i64_w, i32_w]
              rfl
            refine pure_ (i := 6) (N := some 26) (v := ?_) (a' := ?_) #[true, true, true, true, true, true, true, false, false, false, false, false, false, false, false, false, false] rfl rfl (any_of HT_.out (by kernel_rfl)) (fun _ _ _ h => h) (Or.inl ⟨by rfl, ?_⟩) ?_ ?_
            rotate_left
            · intro w'
              go_simp
              with_reducible rfl
            rotate_left
            · simp only [Act.put, List.setIfInBounds_toArray, List.set_cons_zero, List.set_cons_succ, i64_w, i32_w]
              rfl
            refine pure_ (i := 7) (N := some 27) (v := ?_) (a' := ?_) #[true, true, true, true, true, true, true, true, false, false, false, false, false, false, false, false, false] rfl rfl (any_of HT_.out (by kernel_rfl)) (fun _ _ _ h => h) (Or.inl ⟨by rfl, ?_⟩) ?_ ?_
            rotate_left
            · intro w'
              go_simp
              with_reducible rfl
            rotate_left
            · simp only [Act.put, List.setIfInBounds_toArray, List.set_cons_zero, List.set_cons_succ, i64_w, i32_w]
              rfl
            refine take_ (i := 8) (N := some 28) (v := ?_) (a' := ?_) #[true, true, true, true, true, true, true, true, true, false, false, false, false, false, false, false, false] rfl rfl (take_ofW HT_.out HW_.out (by kernel_rfl)) (fun _ _ _ h => h) (Or.inl ⟨by rfl, ?_⟩) hHeld ?_ ?_
            rotate_left
            · rintro w' ⟨s0, s1, s2, s3, s4, s5, s6, s7⟩
              go_simp
              with_reducible rfl
            rotate_left
            · simp only [Act.put, List.setIfInBounds_toArray, List.set_cons_zero, List.set_cons_succ, i64_w, i32_w]
              rfl
            refine take_ (i := 9) (N := some 29) (v := ?_) (a' := ?_) #[true, true, true, true, true, true, true, true, true, true, false, false, false, false, false, false, false] rfl rfl (take_ofW HT_.out HW_.out (by kernel_rfl)) (fun _ _ _ h => h) (Or.inl ⟨by rfl, ?_⟩) hHeld ?_ ?_
            rotate_left
            · rintro w' ⟨s0, s1, s2, s3, s4, s5, s6, s7⟩
              go_simp
              with_reducible rfl
            rotate_left
            · simp only [Act.put, List.setIfInBounds_toArray, List.set_cons_zero, List.set_cons_succ, i64_w, i32_w]
              rfl
            refine take_ (i := 11) (N := some 31) (v := ?_) (a' := ?_) #[true, true, true, true, true, true, true, true, true, true, false, true, false, false, false, false, false] rfl rfl (take_ofW HT_.out HW_.out (by kernel_rfl)) (fun _ _ _ h => h) (Or.inl ⟨by rfl, ?_⟩) hHeld ?_ ?_
            rotate_left
            · rintro w' ⟨s0, s1, s2, s3, s4, s5, s6, s7⟩
              go_simp
              with_reducible rfl
            rotate_left
            · simp only [Act.put, List.setIfInBounds_toArray, List.set_cons_zero, List.set_cons_succ, i64_w, i32_w]
              rfl
            refine take_ (i := 12) (N := some 32) (v := ?_) (a' := ?_) #[true, true, true, true, true, true, true, true, true, true, false, true, true, false, false, false, false] rfl rfl (take_ofW HT_.out HW_.out (by kernel_rfl)) (fun _ _ _ h => h) (Or.inl ⟨by rfl, ?_⟩) hHeld ?_ ?_
            rotate_left
            · rintro w' ⟨s0, s1, s2, s3, s4, s5, s6, s7⟩
              go_simp
              with_reducible rfl
            rotate_left
            · simp only [Act.put, List.setIfInBounds_toArray, List.set_cons_zero, List.set_cons_succ, i64_w, i32_w]
              rfl
            refine one_ (i := 10) (N := some 30) #[true, true, true, true, true, true, true, true, true, true, true, true, true, false, false, false, false] rfl rfl (one_of HT_.out (by kernel_rfl)) (by decide) (fun K hK => ?_)
            refine goes_ Try.func18 (by kernel_rfl) rfl #[.agg #[.int .i64 a1_0, .int .i64 a1_1, .int .u64 a1_2, .string a1_3], .agg #[.int .i64 a0_0, .int .i64 a0_1, .int .u64 a0_2, .string a0_3]] (by rfl) rfl rfl (by (try simp only [List.map_toArray, List.map_cons, List.map_nil]); first | done | rfl | (simp only [List.length_drop, List.length_take]; rfl)) ?_
            with_reducible refine (impl_Overlaps.calls a1_0 a1_1 a1_2 a1_3 a0_0 a0_1 a0_2 a0_3 t134 _ A23.out).mono ?_
            rintro e w35 ⟨rfl, hb⟩
            refine ⟨_, rfl, ?_⟩
            have n0_ := Aside0.mk (Kd.R_below (by (with_reducible repeat (first | apply Kd.R_alloc | apply Kd.R_drewN | apply Kd.R_drew)); exact HO130.out) hb)
            have n1_ := Aside0.mk (blk_below (g := gb124) (o := .cells #[.int .i64 a0_0, .int .i64 a0_1, .int .u64 a0_2, .string a0_3] 35 (0, 0)) (by (with_reducible repeat (first | refine blk_drewN ?_ _ | refine blk_drew ?_ | refine blk_alloc ?_ _)); exact BK124.out) hb)
            have n2_ := Aside0.mk (blk_below (g := gb125) (o := .cells #[.int .i64 a1_0, .int .i64 a1_1, .int .u64 a1_2, .string a1_3] 35 (0, 0)) (by (with_reducible repeat (first | refine blk_drewN ?_ _ | refine blk_drew ?_ | refine blk_alloc ?_ _)); exact BK125.out) hb)
            have n3_ := Aside0.mk (below_step (by repeat (first | (with_reducible first | exact HB.out | apply below_alloc | apply pw_below_drewN | apply below_drew1 | refine below_set ?_ GE124.out | refine below_set ?_ GE125.out) | exact HB.out)) hb)
            clear HO130
            clear BK124
            clear BK125
            clear HB
            have HO130 := n0_
            have BK124 := n1_
            have BK125 := n2_
            have HB := n3_
            clear n0_ n1_ n2_ n3_
            (try clear hb)
            (try clear hb2)
            (try clear hk)
            (try clear hi)
            refine hK.out _ _ ⟨(blk_cell BK124.out 0).trans rfl, (blk_cell BK124.out 1).trans rfl, (blk_cell BK124.out 2).trans rfl, (blk_cell BK124.out 3).trans rfl, (blk_cell BK125.out 0).trans rfl, (blk_cell BK125.out 1).trans rfl, (blk_cell BK125.out 2).trans rfl, (blk_cell BK125.out 3).trans rfl⟩ (fun hHeld => ?_)
            clear hK K
            refine norm_ (a' := ?_) ?_ ?_
            rotate_left
            · show Act.put _ (some 30) _ = _
              simp only [Act.put, List.setIfInBounds_toArray, List.set_cons_zero, List.set_cons_succ, i64_w, i32_w]
              rfl
            refine one_ (i := 13) (N := some 33) #[true, true, true, true, true, true, true, true, true, true, true, true, true, true, false, false, false] rfl rfl (one_of HT_.out (by kernel_rfl)) (by decide) (fun K hK => ?_)
            refine goes_ Try.func19 (by kernel_rfl) rfl #[.agg #[.int .i64 a0_0, .int .i64 a0_1, .int .u64 a0_2, .string a0_3], .agg #[.int .i64 a1_0, .int .i64 a1_1, .int .u64 a1_2, .string a1_3]] (by rfl) rfl rfl (by (try simp only [List.map_toArray, List.map_cons, List.map_nil]); first | done | rfl | (simp only [List.length_drop, List.length_take]; rfl)) ?_
            with_reducible refine (spec_Overlaps.calls kj2 a0_0 a0_1 a0_2 a0_3 a1_0 a1_1 a1_2 a1_3 t135 _ A24.out).mono ?_
            rintro e w36 ⟨rfl, hb⟩
            refine ⟨_, rfl, ?_⟩
            have n0_ := Aside0.mk (Kd.R_below (by (with_reducible repeat (first | apply Kd.R_alloc | apply Kd.R_drewN | apply Kd.R_drew)); exact HO130.out) hb)
            have n1_ := Aside0.mk (blk_below (g := gb124) (o := .cells #[.int .i64 a0_0, .int .i64 a0_1, .int .u64 a0_2, .string a0_3] 35 (0, 0)) (by (with_reducible repeat (first | refine blk_drewN ?_ _ | refine blk_drew ?_ | refine blk_alloc ?_ _)); exact BK124.out) hb)
            have n2_ := Aside0.mk (blk_below (g := gb125) (o := .cells #[.int .i64 a1_0, .int .i64 a1_1, .int .u64 a1_2, .string a1_3] 35 (0, 0)) (by (with_reducible repeat (first | refine blk_drewN ?_ _ | refine blk_drew ?_ | refine blk_alloc ?_ _)); exact BK125.out) hb)
            have n3_ := Aside0.mk (below_step (by repeat (first | (with_reducible first | exact HB.out | apply below_alloc | apply pw_below_drewN | apply below_drew1 | refine below_set ?_ GE124.out | refine below_set ?_ GE125.out) | exact HB.out)) hb)
            clear HO130
            clear BK124
            clear BK125
            clear HB
            have HO130 := n0_
            have BK124 := n1_
            have BK125 := n2_
            have HB := n3_
            clear n0_ n1_ n2_ n3_
            (try clear hb)
            (try clear hb2)
            (try clear hk)
            (try clear hi)
            refine hK.out _ _ ⟨(blk_cell BK124.out 0).trans rfl, (blk_cell BK124.out 1).trans rfl, (blk_cell BK124.out 2).trans rfl, (blk_cell BK124.out 3).trans rfl, (blk_cell BK125.out 0).trans rfl, (blk_cell BK125.out 1).trans rfl, (blk_cell BK125.out 2).trans rfl, (blk_cell BK125.out 3).trans rfl⟩ (fun hHeld => ?_)
            clear hK K
            refine norm_ (a' := ?_) ?_ ?_
            rotate_left
            · show Act.put _ (some 33) _ = _
              simp only [Act.put, List.setIfInBounds_toArray, List.set_cons_zero, List.set_cons_succ, i64_w, i32_w]
              rfl
            refine pure_ (i := 14) (N := some 34) (v := ?_) (a' := ?_) #[true, true, true, true, true, true, true, true, true, true, true, true, true, true, true, false, false] rfl rfl (any_of HT_.out (by kernel_rfl)) (fun _ _ _ h => h) (Or.inl ⟨by rfl, ?_⟩) ?_ ?_
            rotate_left
            · intro w'
              go_simp
              with_reducible rfl
            rotate_left
            · simp only [Act.put, List.setIfInBounds_toArray, List.set_cons_zero, List.set_cons_succ, i64_w, i32_w]
              rfl
            refine pure_ (i := 15) (N := some 35) (v := ?_) (a' := ?_) #[true, true, true, true, true, true, true, true, true, true, true, true, true, true, true, true, false] rfl rfl (any_of HT_.out (by kernel_rfl)) (fun _ _ _ h => h) (Or.inl ⟨by rfl, ?_⟩) ?_ ?_
            rotate_left
            · intro w'
              go_simp
              with_reducible rfl
            rotate_left
            · simp only [Act.put, List.setIfInBounds_toArray, List.set_cons_zero, List.set_cons_succ, i64_w, i32_w]
              rfl
            refine pure_ (i := 16) (N := some 4) (v := ?_) (a' := ?_) #[true, true, true, true, true, true, true, true, true, true, true, true, true, true, true, true, true] rfl rfl (any_of HT_.out (by kernel_rfl)) (fun _ _ _ h => h) (Or.inl ⟨by rfl, ?_⟩) ?_ ?_
            rotate_left
            · intro w'
              go_simp
              with_reducible rfl
            rotate_left
            · simp only [Act.put, List.setIfInBounds_toArray, List.set_cons_zero, List.set_cons_succ, i64_w, i32_w]
              rfl
            refine done_ (done_of HT_.out (by kernel_rfl)) ?_
            try go_wp2
            go_ret
            exact ⟨by first | rfl | (simp [errW_none, errW_some] <;> rfl) | (simp [*, errW_none, errW_some] <;> rfl), by repeat (first | (with_reducible first | exact HB.out | apply below_alloc | apply pw_below_drewN | apply below_drew1 | refine below_set ?_ GE124.out | refine below_set ?_ GE125.out) | exact HB.out)⟩
          · rw [if_neg c22] at H
            have c22b0 : (t132 == t133) = false := by simpa using c22
            (try (have c22b1 : decide (t132 = t133) = false := by simpa using c22))
            (try (have c22b2 : (t132 == t133) = false := by simpa using c22))
            (try (have c22b3 : ¬ (t132 = t133) := by simpa using c22))
            clear c22
            obtain rfl := Option.some.inj H
            have hnb37 := NB124_125.out
            have hnc37 := NB125_124.out
            have hcz38_0 : wc.cell? ⟨gb124, 0, none⟩ = some (.int .i64 a0_0) := (blk_cell BK124.out 0).trans rfl
            have hcz38_1 : wc.cell? ⟨gb124, 1, none⟩ = some (.int .i64 a0_1) := (blk_cell BK124.out 1).trans rfl
            have hcz38_2 : wc.cell? ⟨gb124, 2, none⟩ = some (.int .u64 a0_2) := (blk_cell BK124.out 2).trans rfl
            have hcz38_3 : wc.cell? ⟨gb124, 3, none⟩ = some (.string a0_3) := (blk_cell BK124.out 3).trans rfl
            have hfz38_0 := blk_frozen BK124.out 0
            have hfz38_1 := blk_frozen BK124.out 1
            have hfz38_2 := blk_frozen BK124.out 2
            have hfz38_3 := blk_frozen BK124.out 3
            have hcz39_0 : wc.cell? ⟨gb125, 0, none⟩ = some (.int .i64 a1_0) := (blk_cell BK125.out 0).trans rfl
            have hcz39_1 : wc.cell? ⟨gb125, 1, none⟩ = some (.int .i64 a1_1) := (blk_cell BK125.out 1).trans rfl
            have hcz39_2 : wc.cell? ⟨gb125, 2, none⟩ = some (.int .u64 a1_2) := (blk_cell BK125.out 2).trans rfl
            have hcz39_3 : wc.cell? ⟨gb125, 3, none⟩ = some (.string a1_3) := (blk_cell BK125.out 3).trans rfl
            have hfz39_0 := blk_frozen BK125.out 0
            have hfz39_1 := blk_frozen BK125.out 1
            have hfz39_2 := blk_frozen BK125.out 2
            have hfz39_3 := blk_frozen BK125.out 3
            try go_wp2_with (first | ((with_reducible refine gate_dst (N := 17) rfl ?_); refine Kd.R_lit k39 _ 39 ?hg (N := 17) ?hd (xs := ([(⟨0, (⟨a0_0, (⟨a0_1, a0_2, a0_3⟩ : S31)⟩ : S35), 0⟩ : S39), (⟨0, (⟨a1_0, (⟨a1_1, a1_2, a1_3⟩ : S31)⟩ : S35), 0⟩ : S39)] : List (S39))) (inner := [.int .i64 0, .int .i64 a0_0, .int .i64 a0_1, .int .u64 a0_2, .string a0_3, .int .i64 0, .int .i64 0, .int .i64 a1_0, .int .i64 a1_1, .int .u64 a1_2, .string a1_3, .int .i64 0]) (ok := fun _ => True) (okp := fun _ => True) ?hr ?hp (fun _ hk => hk) trivial (Below.refl _ _) (Nat.le_refl _) (by simp) ?_; (case hd => rfl); (case hg => rfl); (case hr => first | (go_simp; done) | (go_simp; rfl)); (case hp => exact (Reps.c6 (show Kd.M k39 _ _ _ (⟨0, (⟨a0_0, (⟨a0_1, a0_2, a0_3⟩ : S31)⟩ : S35), 0⟩ : S39) [.int .i64 0, .int .i64 a0_0, .int .i64 a0_1, .int .u64 a0_2, .string a0_3, .int .i64 0] from (k39_mkM _ _ _ (⟨0, (⟨a0_0, (⟨a0_1, a0_2, a0_3⟩ : S31)⟩ : S35), 0⟩ : S39) )) (Reps.c6 (show Kd.M k39 _ _ _ (⟨0, (⟨a1_0, (⟨a1_1, a1_2, a1_3⟩ : S31)⟩ : S35), 0⟩ : S39) [.int .i64 0, .int .i64 a1_0, .int .i64 a1_1, .int .u64 a1_2, .string a1_3, .int .i64 0] from (k39_mkM _ _ _ (⟨0, (⟨a1_0, (⟨a1_1, a1_2, a1_3⟩ : S31)⟩ : S35), 0⟩ : S39) )) (Reps.none _ _)))); intro v129 w40 ho41 hb hg_ hnew_; clear hg_ hnew_; (first | rw [← Ny128.out] at ho41 | (simp only [Int.reduceToNat] at ho41; rw [← Ny128.out] at ho41)); have n0_ := Aside0.mk (Kd.R_lower ho41 (below_size (by repeat (first | (with_reducible first | exact HB.out | apply below_alloc | apply pw_below_drewN | apply below_drew1 | refine below_set ?_ GE124.out | refine below_set ?_ GE125.out) | exact HB.out)))); have n1_ := Aside0.mk (blk_below (g := gb124) (o := .cells #[.int .i64 a0_0, .int .i64 a0_1, .int .u64 a0_2, .string a0_3] 35 (0, 0)) (by (with_reducible repeat (first | refine blk_drewN ?_ _ | refine blk_drew ?_ | refine blk_alloc ?_ _)); exact BK124.out) hb); have n2_ := Aside0.mk (blk_below (g := gb125) (o := .cells #[.int .i64 a1_0, .int .i64 a1_1, .int .u64 a1_2, .string a1_3] 35 (0, 0)) (by (with_reducible repeat (first | refine blk_drewN ?_ _ | refine blk_drew ?_ | refine blk_alloc ?_ _)); exact BK125.out) hb); have n3_ := Aside0.mk (below_step (by repeat (first | (with_reducible first | exact HB.out | apply below_alloc | apply pw_below_drewN | apply below_drew1 | refine below_set ?_ GE124.out | refine below_set ?_ GE125.out) | exact HB.out)) hb); clear BK124; clear BK125; clear HB; have HO130 := n0_; have BK124 := n1_; have BK125 := n2_; have HB := n3_; clear n0_ n1_ n2_ n3_; clear hb ho41; obtain ⟨Ao42, co42, eo42⟩ := Kd.R_slice HO130.out; subst eo42) | ((with_reducible refine gate_callee (f := 17) rfl ?_); refine goesL_ (some 18) rfl rfl Try.func17 (by kernel_rfl) rfl #[.slice Ao42 y128.length co42] rfl (by (try simp only [List.map_toArray, List.map_cons, List.map_nil]); first | done | rfl | (simp only [List.length_drop, List.length_take]; rfl)) ?_; (with_reducible refine (spec_DataKnown.calls kj2 _ _ y128 true _ ?side1 ?side2 A18.out).mono ?_); (case side1 => repeat (first | exact (Kd.R_reads' HO130.out).2.2 | (with_reducible refine Kd.C_alloc ?_ _) | (with_reducible refine Kd.C_drewN ?_ _) | (with_reducible refine Kd.C_drew ?_))); (case side2 => exact (Kd.R_reads' HO130.out).2.1); rintro e w43 ⟨rfl, hb⟩; refine ⟨_, rfl, ?_⟩; have n0_ := Aside0.mk (Kd.R_below (by (with_reducible repeat (first | apply Kd.R_alloc | apply Kd.R_drewN | apply Kd.R_drew)); exact HO130.out) hb); have n1_ := Aside0.mk (blk_below (g := gb124) (o := .cells #[.int .i64 a0_0, .int .i64 a0_1, .int .u64 a0_2, .string a0_3] 35 (0, 0)) (by (with_reducible repeat (first | refine blk_drewN ?_ _ | refine blk_drew ?_ | refine blk_alloc ?_ _)); exact BK124.out) hb); have n2_ := Aside0.mk (blk_below (g := gb125) (o := .cells #[.int .i64 a1_0, .int .i64 a1_1, .int .u64 a1_2, .string a1_3] 35 (0, 0)) (by (with_reducible repeat (first | refine blk_drewN ?_ _ | refine blk_drew ?_ | refine blk_alloc ?_ _)); exact BK125.out) hb); have n3_ := Aside0.mk (below_step (by repeat (first | (with_reducible first | exact HB.out | apply below_alloc | apply pw_below_drewN | apply below_drew1 | refine below_set ?_ GE124.out | refine below_set ?_ GE125.out) | exact HB.out)) hb); clear HO130; clear BK124; clear BK125; clear HB; have HO130 := n0_; have BK124 := n1_; have BK125 := n2_; have HB := n3_; clear n0_ n1_ n2_ n3_; (try clear hb); (try clear hb2); (try clear hk); (try clear hi)))
            have n0_ := Aside0.mk (Kd.R_drew HO130.out)
            have n1_ := Aside0.mk (blk_drew BK124.out)
            have n2_ := Aside0.mk (blk_drew BK125.out)
            have n3_ := Aside0.mk (below_drew1 HB.out)
            clear HO130
            clear BK124
            clear BK125
            clear HB
            have HO130 := n0_
            have BK124 := n1_
            have BK125 := n2_
            have HB := n3_
            clear n0_ n1_ n2_ n3_
            refine start_ (n := 17) (S := fun w' => w'.cell? ⟨gb124, 0, none⟩ = some (.int .i64 a0_0) ∧ w'.cell? ⟨gb124, 1, none⟩ = some (.int .i64 a0_1) ∧ w'.cell? ⟨gb124, 2, none⟩ = some (.int .u64 a0_2) ∧ w'.cell? ⟨gb124, 3, none⟩ = some (.string a0_3) ∧ w'.cell? ⟨gb125, 0, none⟩ = some (.int .i64 a1_0) ∧ w'.cell? ⟨gb125, 1, none⟩ = some (.int .i64 a1_1) ∧ w'.cell? ⟨gb125, 2, none⟩ = some (.int .u64 a1_2) ∧ w'.cell? ⟨gb125, 3, none⟩ = some (.string a1_3)) (ds := []) #[false, false, false, false, false, false, false, false, false, false, false, false, false, false, false, false, false] (by kernel_rfl) rfl rfl ⟨(blk_cell BK124.out 0).trans rfl, (blk_cell BK124.out 1).trans rfl, (blk_cell BK124.out 2).trans rfl, (blk_cell BK124.out 3).trans rfl, (blk_cell BK125.out 0).trans rfl, (blk_cell BK125.out 1).trans rfl, (blk_cell BK125.out 2).trans rfl, (blk_cell BK125.out 3).trans rfl⟩ (fun hHeld => ?_); refine with_tabW laws_FnOverlaps.tab5 laws_FnOverlaps.bits5 (fun HT_ HW_ => ?_)
            generalize w43.drew = w44 at HO130 BK124 BK125 HB hHeld ⊢
            refine take_ (i := 0) (N := some 20) (v := ?_) (a' := ?_) #[true, false, false, false, false, false, false, false, false, false, false, false, false, false, false, false, false] rfl rfl (take_ofW HT_.out HW_.out (by kernel_rfl)) (fun _ _ _ h => h) (Or.inl ⟨by rfl, ?_⟩) hHeld ?_ ?_
            rotate_left
            · rintro w' ⟨s0, s1, s2, s3, s4, s5, s6, s7⟩
              go_simp
              with_reducible rfl
            rotate_left
            · simp only [Act.put, List.setIfInBounds_toArray, List.set_cons_zero, List.set_cons_succ, i64_w, i32_w]
              rfl
            refine take_ (i := 1) (N := some 21) (v := ?_) (a' := ?_) #[true, true, false, false, false, false, false, false, false, false, false, false, false, false, false, false, false] rfl rfl (take_ofW HT_.out HW_.out (by kernel_rfl)) (fun _ _ _ h => h) (Or.inl ⟨by rfl, ?_⟩) hHeld ?_ ?_
            rotate_left
            · rintro w' ⟨s0, s1, s2, s3, s4, s5, s6, s7⟩
              go_simp
              with_reducible rfl
            rotate_left
            · simp only [Act.put, List.setIfInBounds_toArray, List.set_cons_zero, List.set_cons_succ, i64_w, i32_w]
              rfl
            refine take_ (i := 3) (N := some 23) (v := ?_) (a' := ?_) #[true, true, false, true, false, false, false, false, false, false, false, false, false, false, false, false, false] rfl rfl (take_ofW HT_.out HW_.out (by kernel_rfl)) (fun _ _ _ h => h) (Or.inl ⟨by rfl, ?_⟩) hHeld ?_ ?_
            rotate_left
            · rintro w' ⟨s0, s1, s2, s3, s4, s5, s6, s7⟩
              go_simp
              with_reducible rfl
            rotate_left
            · simp only [Act.put, List.setIfInBounds_toArray, List.set_cons_zero, List.set_cons_succ, i64_w, i32_w]
              rfl
            refine take_ (i := 4) (N := some 24) (v := ?_) (a' := ?_) #[true, true, false, true, true, false, false, false, false, false, false, false, false, false, false, false, false] rfl rfl (take_ofW HT_.out HW_.out (by kernel_rfl)) (fun _ _ _ h => h) (Or.inl ⟨by rfl, ?_⟩) hHeld ?_ ?_
            rotate_left
            · rintro w' ⟨s0, s1, s2, s3, s4, s5, s6, s7⟩
              go_simp
              with_reducible rfl
            rotate_left
            · simp only [Act.put, List.setIfInBounds_toArray, List.set_cons_zero, List.set_cons_succ, i64_w, i32_w]
              rfl
            refine one_ (i := 2) (N := some 22) #[true, true, true, true, true, false, false, false, false, false, false, false, false, false, false, false, false] rfl rfl (one_of HT_.out (by kernel_rfl)) (by decide) (fun K hK => ?_)
            refine goes_ Try.func18 (by kernel_rfl) rfl #[.agg #[.int .i64 a0_0, .int .i64 a0_1, .int .u64 a0_2, .string a0_3], .agg #[.int .i64 a1_0, .int .i64 a1_1, .int .u64 a1_2, .string a1_3]] (by rfl) rfl rfl (by (try simp only [List.map_toArray, List.map_cons, List.map_nil]); first | done | rfl | (simp only [List.length_drop, List.length_take]; rfl)) ?_
            with_reducible refine (impl_Overlaps.calls a0_0 a0_1 a0_2 a0_3 a1_0 a1_1 a1_2 a1_3 t132 _ A20.out).mono ?_
            rintro e w45 ⟨rfl, hb⟩
            refine ⟨_, rfl, ?_⟩
            have n0_ := Aside0.mk (Kd.R_below (by (with_reducible repeat (first | apply Kd.R_alloc | apply Kd.R_drewN | apply Kd.R_drew)); exact HO130.out) hb)
            have n1_ := Aside0.mk (blk_below (g := gb124) (o := .cells #[.int .i64 a0_0, .int .i64 a0_1, .int .u64 a0_2, .string a0_3] 35 (0, 0)) (by (with_reducible repeat (first | refine blk_drewN ?_ _ | refine blk_drew ?_ | refine blk_alloc ?_ _)); exact BK124.out) hb)
            have n2_ := Aside0.mk (blk_below (g := gb125) (o := .cells #[.int .i64 a1_0, .int .i64 a1_1, .int .u64 a1_2, .string a1_3] 35 (0, 0)) (by (with_reducible repeat (first | refine blk_drewN ?_ _ | refine blk_drew ?_ | refine blk_alloc ?_ _)); exact BK125.out) hb)
            have n3_ := Aside0.mk (below_step (by repeat (first | (with_reducible first | exact HB.out | apply below_alloc | apply pw_below_drewN | apply below_drew1 | refine below_set ?_ GE124.out | refine below_set ?_ GE125.out) | exact HB.out)) hb)
            clear HO130
            clear BK124
            clear BK125
            clear HB
            have HO130 := n0_
            have BK124 := n1_
            have BK125 := n2_
            have HB := n3_
            clear n0_ n1_ n2_ n3_
            (try clear hb)
            (try clear hb2)
            (try clear hk)
            (try clear hi)
            refine hK.out _ _ ⟨(blk_cell BK124.out 0).trans rfl, (blk_cell BK124.out 1).trans rfl, (blk_cell BK124.out 2).trans rfl, (blk_cell BK124.out 3).trans rfl, (blk_cell BK125.out 0).trans rfl, (blk_cell BK125.out 1).trans rfl, (blk_cell BK125.out 2).trans rfl, (blk_cell BK125.out 3).trans rfl⟩ (fun hHeld => ?_)
            clear hK K
            refine norm_ (a' := ?_) ?_ ?_
            rotate_left
            · show Act.put _ (some 22) _ = _
              simp only [Act.put, List.setIfInBounds_toArray, List.set_cons_zero, List.set_cons_succ, i64_w, i32_w]
              rfl
            refine one_ (i := 5) (N := some 25) #[true, true, true, true, true, true, false, false, false, false, false, false, false, false, false, false, false] rfl rfl (one_of HT_.out (by kernel_rfl)) (by decide) (fun K hK => ?_)
            refine goes_ Try.func19 (by kernel_rfl) rfl #[.agg #[.int .i64 a0_0, .int .i64 a0_1, .int .u64 a0_2, .string a0_3], .agg #[.int .i64 a1_0, .int .i64 a1_1, .int .u64 a1_2, .string a1_3]] (by rfl) rfl rfl (by (try simp only [List.map_toArray, List.map_cons, List.map_nil]); first | done | rfl | (simp only [List.length_drop, List.length_take]; rfl)) ?_
            with_reducible refine (spec_Overlaps.calls kj2 a0_0 a0_1 a0_2 a0_3 a1_0 a1_1 a1_2 a1_3 t133 _ A21.out).mono ?_
            rintro e w46 ⟨rfl, hb⟩
            refine ⟨_, rfl, ?_⟩
            have n0_ := Aside0.mk (Kd.R_below (by (with_reducible repeat (first | apply Kd.R_alloc | apply Kd.R_drewN | apply Kd.R_drew)); exact HO130.out) hb)
            have n1_ := Aside0.mk (blk_below (g := gb124) (o := .cells #[.int .i64 a0_0, .int .i64 a0_1, .int .u64 a0_2, .string a0_3] 35 (0, 0)) (by (with_reducible repeat (first | refine blk_drewN ?_ _ | refine blk_drew ?_ | refine blk_alloc ?_ _)); exact BK124.out) hb)
            have n2_ := Aside0.mk (blk_below (g := gb125) (o := .cells #[.int .i64 a1_0, .int .i64 a1_1, .int .u64 a1_2, .string a1_3] 35 (0, 0)) (by (with_reducible repeat (first | refine blk_drewN ?_ _ | refine blk_drew ?_ | refine blk_alloc ?_ _)); exact BK125.out) hb)
            have n3_ := Aside0.mk (below_step (by repeat (first | (with_reducible first | exact HB.out | apply below_alloc | apply pw_below_drewN | apply below_drew1 | refine below_set ?_ GE124.out | refine below_set ?_ GE125.out) | exact HB.out)) hb)
            clear HO130
            clear BK124
            clear BK125
            clear HB
            have HO130 := n0_
            have BK124 := n1_
            have BK125 := n2_
            have HB := n3_
            clear n0_ n1_ n2_ n3_
            (try clear hb)
            (try clear hb2)
            (try clear hk)
            (try clear hi)
            refine hK.out _ _ ⟨(blk_cell BK124.out 0).trans rfl, (blk_cell BK124.out 1).trans rfl, (blk_cell BK124.out 2).trans rfl, (blk_cell BK124.out 3).trans rfl, (blk_cell BK125.out 0).trans rfl, (blk_cell BK125.out 1).trans rfl, (blk_cell BK125.out 2).trans rfl, (blk_cell BK125.out 3).trans rfl⟩ (fun hHeld => ?_)
            clear hK K
            refine norm_ (a' := ?_) ?_ ?_
            rotate_left
            · show Act.put _ (some 25) _ = _
              simp only [Act.put, List.setIfInBounds_toArray, List.set_cons_zero, List.set_cons_succ, i64_w, i32_w]
              rfl
            refine pure_ (i := 6) (N := some 26) (v := ?_) (a' := ?_) #[true, true, true, true, true, true, true, false, false, false, false, false, false, false, false, false, false] rfl rfl (any_of HT_.out (by kernel_rfl)) (fun _ _ _ h => h) (Or.inl ⟨by rfl, ?_⟩) ?_ ?_
            rotate_left
            · intro w'
              go_simp
              with_reducible rfl
            rotate_left
            · simp only [Act.put, List.setIfInBounds_toArray, List.set_cons_zero, List.set_cons_succ, i64_w, i32_w]
              rfl
            refine pure_ (i := 7) (N := some 27) (v := ?_) (a' := ?_) #[true, true, true, true, true, true, true, true, false, false, false, false, false, false, false, false, false] rfl rfl (any_of HT_.out (by kernel_rfl)) (fun _ _ _ h => h) (Or.inl ⟨by rfl, ?_⟩) ?_ ?_
            rotate_left
            · intro w'
              go_simp
              with_reducible rfl
            rotate_left
            · simp only [Act.put, List.setIfInBounds_toArray, List.set_cons_zero, List.set_cons_succ, i64_w, i32_w]
              rfl
            refine pure_ (i := 8) (N := some 28) (v := undef) (a' := ?_) #[true, true, true, true, true, true, true, true, true, false, false, false, false, false, false, false, false] rfl rfl (any_of HT_.out (by kernel_rfl)) (fun _ _ _ h => h) (Or.inr ⟨by rfl, rfl⟩) ?_ ?_
            rotate_left
            · simp only [Act.put, List.setIfInBounds_toArray, List.set_cons_zero, List.set_cons_succ, i64_w, i32_w]
              rfl
            refine pure_ (i := 9) (N := some 29) (v := undef) (a' := ?_) #[true, true, true, true, true, true, true, true, true, true, false, false, false, false, false, false, false] rfl rfl (any_of HT_.out (by kernel_rfl)) (fun _ _ _ h => h) (Or.inr ⟨by rfl, rfl⟩) ?_ ?_
            rotate_left
            · simp only [Act.put, List.setIfInBounds_toArray, List.set_cons_zero, List.set_cons_succ, i64_w, i32_w]
              rfl
            refine pure_ (i := 10) (N := some 30) (v := undef) (a' := ?_) #[true, true, true, true, true, true, true, true, true, true, true, false, false, false, false, false, false] rfl rfl (any_of HT_.out (by kernel_rfl)) (fun _ _ _ h => h) (Or.inr ⟨by rfl, rfl⟩) ?_ ?_
            rotate_left
            · simp only [Act.put, List.setIfInBounds_toArray, List.set_cons_zero, List.set_cons_succ, i64_w, i32_w]
              rfl
            refine pure_ (i := 11) (N := some 31) (v := undef) (a' := ?_) #[true, true, true, true, true, true, true, true, true, true, true, true, false, false, false, false, false] rfl rfl (any_of HT_.out (by kernel_rfl)) (fun _ _ _ h => h) (Or.inr ⟨by rfl, rfl⟩) ?_ ?_
            rotate_left
            · simp only [Act.put, List.setIfInBounds_toArray, List.set_cons_zero, List.set_cons_succ, i64_w, i32_w]
              rfl
            refine pure_ (i := 12) (N := some 32) (v := undef) (a' := ?_) #[true, true, true, true, true, true, true, true, true, true, true, true, true, false, false, false, false] rfl rfl (any_of HT_.out (by kernel_rfl)) (fun _ _ _ h => h) (Or.inr ⟨by rfl, rfl⟩) ?_ ?_
            rotate_left
            · simp only [Act.put, List.setIfInBounds_toArray, List.set_cons_zero, List.set_cons_succ, i64_w, i32_w]
              rfl
            refine pure_ (i := 13) (N := some 33) (v := undef) (a' := ?_) #[true, true, true, true, true, true, true, true, true, true, true, true, true, true, false, false, false] rfl rfl (any_of HT_.out (by kernel_rfl)) (fun _ _ _ h => h) (Or.inr ⟨by rfl, rfl⟩) ?_ ?_
            rotate_left
            · simp only [Act.put, List.setIfInBounds_toArray, List.set_cons_zero, List.set_cons_succ, i64_w, i32_w]
              rfl
            refine pure_ (i := 14) (N := some 34) (v := undef) (a' := ?_) #[true, true, true, true, true, true, true, true, true, true, true, true, true, true, true, false, false] rfl rfl (any_of HT_.out (by kernel_rfl)) (fun _ _ _ h => h) (Or.inr ⟨by rfl, rfl⟩) ?_ ?_
            rotate_left
            · simp only [Act.put, List.setIfInBounds_toArray, List.set_cons_zero, List.set_cons_succ, i64_w, i32_w]
              rfl
            refine pure_ (i := 15) (N := some 35) (v := ?_) (a' := ?_) #[true, true, true, true, true, true, true, true, true, true, true, true, true, true, true, true, false] rfl rfl (any_of HT_.out (by kernel_rfl)) (fun _ _ _ h => h) (Or.inl ⟨by rfl, ?_⟩) ?_ ?_
            rotate_left
            · intro w'
              go_simp
              with_reducible rfl
            rotate_left
            · simp only [Act.put, List.setIfInBounds_toArray, List.set_cons_zero, List.set_cons_succ, i64_w, i32_w]
              rfl
            refine pure_ (i := 16) (N := some 4) (v := ?_) (a' := ?_) #[true, true, true, true, true, true, true, true, true, true, true, true, true, true, true, true, true] rfl rfl (any_of HT_.out (by kernel_rfl)) (fun _ _ _ h => h) (Or.inl ⟨by rfl, ?_⟩) ?_ ?_
            rotate_left
            · intro w'
              go_simp
              with_reducible rfl
            rotate_left
            · simp only [Act.put, List.setIfInBounds_toArray, List.set_cons_zero, List.set_cons_succ, i64_w, i32_w]
              rfl
            refine done_ (done_of HT_.out (by kernel_rfl)) ?_
            try go_wp2
            go_ret
            exact ⟨by first | rfl | (simp [errW_none, errW_some] <;> rfl) | (simp [*, errW_none, errW_some] <;> rfl), by repeat (first | (with_reducible first | exact HB.out | apply below_alloc | apply pw_below_drewN | apply below_drew1 | refine below_set ?_ GE124.out | refine below_set ?_ GE125.out) | exact HB.out)⟩
        · replace c19 := Bool.eq_false_iff.mpr c19
          subst c19
          have H1 : (some true) = some r := by rw [if_neg (show ¬ (false = true) by decide)] at H; exact H
          clear H
          have H := H1
          clear H1
          obtain rfl := Option.some.inj H
          have hnb47 := NB124_125.out
          have hnc47 := NB125_124.out
          have hcz48_0 : wc.cell? ⟨gb124, 0, none⟩ = some (.int .i64 a0_0) := (blk_cell BK124.out 0).trans rfl
          have hcz48_1 : wc.cell? ⟨gb124, 1, none⟩ = some (.int .i64 a0_1) := (blk_cell BK124.out 1).trans rfl
          have hcz48_2 : wc.cell? ⟨gb124, 2, none⟩ = some (.int .u64 a0_2) := (blk_cell BK124.out 2).trans rfl
          have hcz48_3 : wc.cell? ⟨gb124, 3, none⟩ = some (.string a0_3) := (blk_cell BK124.out 3).trans rfl
          have hfz48_0 := blk_frozen BK124.out 0
          have hfz48_1 := blk_frozen BK124.out 1
          have hfz48_2 := blk_frozen BK124.out 2
          have hfz48_3 := blk_frozen BK124.out 3
          have hcz49_0 : wc.cell? ⟨gb125, 0, none⟩ = some (.int .i64 a1_0) := (blk_cell BK125.out 0).trans rfl
          have hcz49_1 : wc.cell? ⟨gb125, 1, none⟩ = some (.int .i64 a1_1) := (blk_cell BK125.out 1).trans rfl
          have hcz49_2 : wc.cell? ⟨gb125, 2, none⟩ = some (.int .u64 a1_2) := (blk_cell BK125.out 2).trans rfl
          have hcz49_3 : wc.cell? ⟨gb125, 3, none⟩ = some (.string a1_3) := (blk_cell BK125.out 3).trans rfl
          have hfz49_0 := blk_frozen BK125.out 0
          have hfz49_1 := blk_frozen BK125.out 1
          have hfz49_2 := blk_frozen BK125.out 2
          have hfz49_3 := blk_frozen BK125.out 3
          go_wp2_with (first | ((with_reducible refine gate_dst (N := 17) rfl ?_); refine Kd.R_lit k39 _ 39 ?hg (N := 17) ?hd (xs := ([(⟨0, (⟨a0_0, (⟨a0_1, a0_2, a0_3⟩ : S31)⟩ : S35), 0⟩ : S39), (⟨0, (⟨a1_0, (⟨a1_1, a1_2, a1_3⟩ : S31)⟩ : S35), 0⟩ : S39)] : List (S39))) (inner := [.int .i64 0, .int .i64 a0_0, .int .i64 a0_1, .int .u64 a0_2, .string a0_3, .int .i64 0, .int .i64 0, .int .i64 a1_0, .int .i64 a1_1, .int .u64 a1_2, .string a1_3, .int .i64 0]) (ok := fun _ => True) (okp := fun _ => True) ?hr ?hp (fun _ hk => hk) trivial (Below.refl _ _) (Nat.le_refl _) (by simp) ?_; (case hd => rfl); (case hg => rfl); (case hr => first | (go_simp; done) | (go_simp; rfl)); (case hp => exact (Reps.c6 (show Kd.M k39 _ _ _ (⟨0, (⟨a0_0, (⟨a0_1, a0_2, a0_3⟩ : S31)⟩ : S35), 0⟩ : S39) [.int .i64 0, .int .i64 a0_0, .int .i64 a0_1, .int .u64 a0_2, .string a0_3, .int .i64 0] from (k39_mkM _ _ _ (⟨0, (⟨a0_0, (⟨a0_1, a0_2, a0_3⟩ : S31)⟩ : S35), 0⟩ : S39) )) (Reps.c6 (show Kd.M k39 _ _ _ (⟨0, (⟨a1_0, (⟨a1_1, a1_2, a1_3⟩ : S31)⟩ : S35), 0⟩ : S39) [.int .i64 0, .int .i64 a1_0, .int .i64 a1_1, .int .u64 a1_2, .string a1_3, .int .i64 0] from (k39_mkM _ _ _ (⟨0, (⟨a1_0, (⟨a1_1, a1_2, a1_3⟩ : S31)⟩ : S35), 0⟩ : S39) )) (Reps.none _ _)))); intro v129 w50 ho51 hb hg_ hnew_; clear hg_ hnew_; (first | rw [← Ny128.out] at ho51 | (simp only [Int.reduceToNat] at ho51; rw [← Ny128.out] at ho51)); have n0_ := Aside0.mk (Kd.R_lower ho51 (below_size (by repeat (first | (with_reducible first | exact HB.out | apply below_alloc | apply pw_below_drewN | apply below_drew1 | refine below_set ?_ GE124.out | refine below_set ?_ GE125.out) | exact HB.out)))); have n1_ := Aside0.mk (blk_below (g := gb124) (o := .cells #[.int .i64 a0_0, .int .i64 a0_1, .int .u64 a0_2, .string a0_3] 35 (0, 0)) (by (with_reducible repeat (first | refine blk_drewN ?_ _ | refine blk_drew ?_ | refine blk_alloc ?_ _)); exact BK124.out) hb); have n2_ := Aside0.mk (blk_below (g := gb125) (o := .cells #[.int .i64 a1_0, .int .i64 a1_1, .int .u64 a1_2, .string a1_3] 35 (0, 0)) (by (with_reducible repeat (first | refine blk_drewN ?_ _ | refine blk_drew ?_ | refine blk_alloc ?_ _)); exact BK125.out) hb); have n3_ := Aside0.mk (below_step (by repeat (first | (with_reducible first | exact HB.out | apply below_alloc | apply pw_below_drewN | apply below_drew1 | refine below_set ?_ GE124.out | refine below_set ?_ GE125.out) | exact HB.out)) hb); clear BK124; clear BK125; clear HB; have HO130 := n0_; have BK124 := n1_; have BK125 := n2_; have HB := n3_; clear n0_ n1_ n2_ n3_; clear hb ho51; obtain ⟨Ao52, co52, eo52⟩ := Kd.R_slice HO130.out; subst eo52) | ((with_reducible refine gate_callee (f := 17) rfl ?_); refine goesL_ (some 18) rfl rfl Try.func17 (by kernel_rfl) rfl #[.slice Ao52 y128.length co52] rfl (by (try simp only [List.map_toArray, List.map_cons, List.map_nil]); first | done | rfl | (simp only [List.length_drop, List.length_take]; rfl)) ?_; (with_reducible refine (spec_DataKnown.calls kj2 _ _ y128 false _ ?side1 ?side2 A18.out).mono ?_); (case side1 => repeat (first | exact (Kd.R_reads' HO130.out).2.2 | (with_reducible refine Kd.C_alloc ?_ _) | (with_reducible refine Kd.C_drewN ?_ _) | (with_reducible refine Kd.C_drew ?_))); (case side2 => exact (Kd.R_reads' HO130.out).2.1); rintro e w53 ⟨rfl, hb⟩; refine ⟨_, rfl, ?_⟩; have n0_ := Aside0.mk (Kd.R_below (by (with_reducible repeat (first | apply Kd.R_alloc | apply Kd.R_drewN | apply Kd.R_drew)); exact HO130.out) hb); have n1_ := Aside0.mk (blk_below (g := gb124) (o := .cells #[.int .i64 a0_0, .int .i64 a0_1, .int .u64 a0_2, .string a0_3] 35 (0, 0)) (by (with_reducible repeat (first | refine blk_drewN ?_ _ | refine blk_drew ?_ | refine blk_alloc ?_ _)); exact BK124.out) hb); have n2_ := Aside0.mk (blk_below (g := gb125) (o := .cells #[.int .i64 a1_0, .int .i64 a1_1, .int .u64 a1_2, .string a1_3] 35 (0, 0)) (by (with_reducible repeat (first | refine blk_drewN ?_ _ | refine blk_drew ?_ | refine blk_alloc ?_ _)); exact BK125.out) hb); have n3_ := Aside0.mk (below_step (by repeat (first | (with_reducible first | exact HB.out | apply below_alloc | apply pw_below_drewN | apply below_drew1 | refine below_set ?_ GE124.out | refine below_set ?_ GE125.out) | exact HB.out)) hb); clear HO130; clear BK124; clear BK125; clear HB; have HO130 := n0_; have BK124 := n1_; have BK125 := n2_; have HB := n3_; clear n0_ n1_ n2_ n3_; (try clear hb); (try clear hb2); (try clear hk); (try clear hi)))
          go_ret
          exact ⟨by first | rfl | (simp [errW_none, errW_some] <;> rfl) | (simp [*, errW_none, errW_some] <;> rfl), by repeat (first | (with_reducible first | exact HB.out | apply below_alloc | apply pw_below_drewN | apply below_drew1 | refine below_set ?_ GE124.out | refine below_set ?_ GE125.out) | exact HB.out)⟩

/-! ### laws_zzFits16: function 36 -/
def laws_zzFits16.f (a0_0 : Int) (a0_1 : Int) (a0_2 : Int) (a0_3 : Int) (a0_4 : ByteArray) (a0_5 : Int) : Option (Bool) := (laws_zzFits14.f a0_1 a0_2 a0_3 a0_4).bind fun t137 => (if t137 = true then (some true) else (some false))
set_option maxHeartbeats 8000000 in
set_option maxRecDepth 100000 in
theorem laws_zzFits16.calls (a0_0 : Int) (a0_1 : Int) (a0_2 : Int) (a0_3 : Int) (a0_4 : ByteArray) (a0_5 : Int) (r : Bool) (w : World) (h : laws_zzFits16.f a0_0 a0_1 a0_2 a0_3 a0_4 a0_5 = some r) :
    Calls Try.prog 36 #[.agg #[.int .i64 a0_0, .int .i64 a0_1, .int .i64 a0_2, .int .u64 a0_3, .string a0_4, .int .i64 a0_5]] w fun e w' => e = .returned (.bool r) ∧ Below w.heap.size w w' := by
  have hu39 := Try.underlying39
  have hu35 := Try.underlying35
  have HB := Aside0.mk (Below.refl w.heap.size w)
  have H : ((laws_zzFits14.f a0_1 a0_2 a0_3 a0_4).bind fun t137 => (if t137 = true then (some true) else (some false))) = some r := h
  clear h
  replace H := Option.bind_eq_some_iff.mp H
  obtain ⟨t137, A20, H⟩ := H
  replace H : (if t137 = true then (some true) else (some false)) = some r := H
  have A2 := Aside0.mk A20
  clear A20
  by_cases c3 : t137 = true
  · subst c3
    have H1 : (some true) = some r := by rw [if_pos rfl] at H; exact H
    clear H
    have H := H1
    clear H1
    obtain rfl := Option.some.inj H
    go_enter Try.func36, Try.ntmps36
    go_wp2_with (first | ((with_reducible refine gate_dst (N := 1) rfl ?_); refine box_event ?hg (N := 1) ?hd (cs := #[.int .i64 a0_0, .int .i64 a0_1, .int .i64 a0_2, .int .u64 a0_3, .string a0_4, .int .i64 a0_5]) (t := 39) ?hr ?_; (case hd => rfl); (case hg => rfl); (case hr => first | (go_simp; done) | (go_simp; rfl)); intro gb136 hg w4 hbox hb; have n0_ := Aside0.mk (below_step (by repeat (first | (with_reducible first | exact HB.out | apply below_alloc | apply pw_below_drewN | apply below_drew1) | exact HB.out)) hb); have n1_ := Aside0.mk (hbox); have n2_ := Aside0.mk ((by rw [hg]; exact (below_size (by repeat (first | (with_reducible first | exact HB.out | apply below_alloc | apply pw_below_drewN | apply below_drew1) | exact HB.out))) : w.heap.size ≤ gb136)); have n3_ := Aside0.mk ((by rw [hg]; exact (below_size (by repeat (first | (with_reducible first | exact HB.out | apply below_alloc | apply pw_below_drewN | apply below_drew1) | exact HB.out))) : w.heap.size ≤ gb136)); clear HB; have HB := n0_; have BK136 := n1_; have GW136 := n2_; have GE136 := n3_; clear n0_ n1_ n2_ n3_; clear hb hbox hg; have hcz5_0 : w4.cell? ⟨gb136, 0, none⟩ = some (.int .i64 a0_0) := (blk_cell BK136.out 0).trans rfl; have hcz5_1 : w4.cell? ⟨gb136, 1, none⟩ = some (.int .i64 a0_1) := (blk_cell BK136.out 1).trans rfl; have hcz5_2 : w4.cell? ⟨gb136, 2, none⟩ = some (.int .i64 a0_2) := (blk_cell BK136.out 2).trans rfl; have hcz5_3 : w4.cell? ⟨gb136, 3, none⟩ = some (.int .u64 a0_3) := (blk_cell BK136.out 3).trans rfl; have hcz5_4 : w4.cell? ⟨gb136, 4, none⟩ = some (.string a0_4) := (blk_cell BK136.out 4).trans rfl; have hcz5_5 : w4.cell? ⟨gb136, 5, none⟩ = some (.int .i64 a0_5) := (blk_cell BK136.out 5).trans rfl; have hfz5_0 := blk_frozen BK136.out 0; have hfz5_1 := blk_frozen BK136.out 1; have hfz5_2 := blk_frozen BK136.out 2; have hfz5_3 := blk_frozen BK136.out 3; have hfz5_4 := blk_frozen BK136.out 4; have hfz5_5 := blk_frozen BK136.out 5) | ((with_reducible refine gate_callee (f := 16) rfl ?_); refine goesL_ (some 5) rfl rfl Try.func16 (by kernel_rfl) rfl #[.agg #[.int .i64 a0_1, .int .i64 a0_2, .int .u64 a0_3, .string a0_4]] rfl (by (try simp only [List.map_toArray, List.map_cons, List.map_nil]); first | done | rfl | (simp only [List.length_drop, List.length_take]; rfl)) ?_; (with_reducible refine (laws_zzFits14.calls a0_1 a0_2 a0_3 a0_4 true _ A2.out).mono ?_); rintro e w6 ⟨rfl, hb⟩; refine ⟨_, rfl, ?_⟩; have n0_ := Aside0.mk (blk_below (g := gb136) (o := .cells #[.int .i64 a0_0, .int .i64 a0_1, .int .i64 a0_2, .int .u64 a0_3, .string a0_4, .int .i64 a0_5] 39 (0, 0)) (by (with_reducible repeat (first | refine blk_drewN ?_ _ | refine blk_drew ?_ | refine blk_alloc ?_ _)); exact BK136.out) hb); have n1_ := Aside0.mk (below_step (by repeat (first | (with_reducible first | exact HB.out | apply below_alloc | apply pw_below_drewN | apply below_drew1 | refine below_set ?_ GE136.out) | exact HB.out)) hb); clear BK136; clear HB; have BK136 := n0_; have HB := n1_; clear n0_ n1_; (try clear hb); (try clear hb2); (try clear hk); (try clear hi)))
    go_ret
    exact ⟨by first | rfl | (simp [errW_none, errW_some] <;> rfl) | (simp [*, errW_none, errW_some] <;> rfl), by repeat (first | (with_reducible first | exact HB.out | apply below_alloc | apply pw_below_drewN | apply below_drew1 | refine below_set ?_ GE136.out) | exact HB.out)⟩
  · replace c3 := Bool.eq_false_iff.mpr c3
    subst c3
    have H1 : (some false) = some r := by rw [if_neg (show ¬ (false = true) by decide)] at H; exact H
    clear H
    have H := H1
    clear H1
    obtain rfl := Option.some.inj H
    go_enter Try.func36, Try.ntmps36
    go_wp2_with (first | ((with_reducible refine gate_dst (N := 1) rfl ?_); refine box_event ?hg (N := 1) ?hd (cs := #[.int .i64 a0_0, .int .i64 a0_1, .int .i64 a0_2, .int .u64 a0_3, .string a0_4, .int .i64 a0_5]) (t := 39) ?hr ?_; (case hd => rfl); (case hg => rfl); (case hr => first | (go_simp; done) | (go_simp; rfl)); intro gb136 hg w7 hbox hb; have n0_ := Aside0.mk (below_step (by repeat (first | (with_reducible first | exact HB.out | apply below_alloc | apply pw_below_drewN | apply below_drew1) | exact HB.out)) hb); have n1_ := Aside0.mk (hbox); have n2_ := Aside0.mk ((by rw [hg]; exact (below_size (by repeat (first | (with_reducible first | exact HB.out | apply below_alloc | apply pw_below_drewN | apply below_drew1) | exact HB.out))) : w.heap.size ≤ gb136)); have n3_ := Aside0.mk ((by rw [hg]; exact (below_size (by repeat (first | (with_reducible first | exact HB.out | apply below_alloc | apply pw_below_drewN | apply below_drew1) | exact HB.out))) : w.heap.size ≤ gb136)); clear HB; have HB := n0_; have BK136 := n1_; have GW136 := n2_; have GE136 := n3_; clear n0_ n1_ n2_ n3_; clear hb hbox hg; have hcz8_0 : w7.cell? ⟨gb136, 0, none⟩ = some (.int .i64 a0_0) := (blk_cell BK136.out 0).trans rfl; have hcz8_1 : w7.cell? ⟨gb136, 1, none⟩ = some (.int .i64 a0_1) := (blk_cell BK136.out 1).trans rfl; have hcz8_2 : w7.cell? ⟨gb136, 2, none⟩ = some (.int .i64 a0_2) := (blk_cell BK136.out 2).trans rfl; have hcz8_3 : w7.cell? ⟨gb136, 3, none⟩ = some (.int .u64 a0_3) := (blk_cell BK136.out 3).trans rfl; have hcz8_4 : w7.cell? ⟨gb136, 4, none⟩ = some (.string a0_4) := (blk_cell BK136.out 4).trans rfl; have hcz8_5 : w7.cell? ⟨gb136, 5, none⟩ = some (.int .i64 a0_5) := (blk_cell BK136.out 5).trans rfl; have hfz8_0 := blk_frozen BK136.out 0; have hfz8_1 := blk_frozen BK136.out 1; have hfz8_2 := blk_frozen BK136.out 2; have hfz8_3 := blk_frozen BK136.out 3; have hfz8_4 := blk_frozen BK136.out 4; have hfz8_5 := blk_frozen BK136.out 5) | ((with_reducible refine gate_callee (f := 16) rfl ?_); refine goesL_ (some 5) rfl rfl Try.func16 (by kernel_rfl) rfl #[.agg #[.int .i64 a0_1, .int .i64 a0_2, .int .u64 a0_3, .string a0_4]] rfl (by (try simp only [List.map_toArray, List.map_cons, List.map_nil]); first | done | rfl | (simp only [List.length_drop, List.length_take]; rfl)) ?_; (with_reducible refine (laws_zzFits14.calls a0_1 a0_2 a0_3 a0_4 false _ A2.out).mono ?_); rintro e w9 ⟨rfl, hb⟩; refine ⟨_, rfl, ?_⟩; have n0_ := Aside0.mk (blk_below (g := gb136) (o := .cells #[.int .i64 a0_0, .int .i64 a0_1, .int .i64 a0_2, .int .u64 a0_3, .string a0_4, .int .i64 a0_5] 39 (0, 0)) (by (with_reducible repeat (first | refine blk_drewN ?_ _ | refine blk_drew ?_ | refine blk_alloc ?_ _)); exact BK136.out) hb); have n1_ := Aside0.mk (below_step (by repeat (first | (with_reducible first | exact HB.out | apply below_alloc | apply pw_below_drewN | apply below_drew1 | refine below_set ?_ GE136.out) | exact HB.out)) hb); clear BK136; clear HB; have BK136 := n0_; have HB := n1_; clear n0_ n1_; (try clear hb); (try clear hb2); (try clear hk); (try clear hi)))
    go_ret
    exact ⟨by first | rfl | (simp [errW_none, errW_some] <;> rfl) | (simp [*, errW_none, errW_some] <;> rfl), by repeat (first | (with_reducible first | exact HB.out | apply below_alloc | apply pw_below_drewN | apply below_drew1 | refine below_set ?_ GE136.out) | exact HB.out)⟩

/-! ### laws_zzFits15: function 20 -/
def laws_zzFits15.l0 : Nat → List (S39) → Int → Int → Option (Bool)
  | 0, _, _, _ => none
  | k + 1, x8, x9, x10 => if x10 < x9 then (if 0 ≤ x10 then (if x10 < (x8.length : Int) then ((laws_zzFits16.f ((rd_T39 x8 x10).f0) ((rd_T39 x8 x10).f1.f0) ((rd_T39 x8 x10).f1.f1.f0) ((rd_T39 x8 x10).f1.f1.f1) ((rd_T39 x8 x10).f1.f1.f2) ((rd_T39 x8 x10).f2)).bind fun t140 => (if t140 = true then (laws_zzFits15.l0 k x8 x9 (wrap64 (x10 + 1))) else (some false))) else (none)) else (none)) else (some true)
def laws_zzFits15.f (k : Nat) (l0 : List (S39)) : Option (Bool) := if (l0.length : Int) > 2147483647 then (some false) else (laws_zzFits15.l0 k l0 (l0.length : Int) 0)
theorem laws_zzFits15.mono_l : ∀ k, (∀ y0 y1 y2, LeO (laws_zzFits15.l0 k y0 y1 y2) (laws_zzFits15.l0 (k + 1) y0 y1 y2))
  | 0 => fun _ _ _ r h => by simp [laws_zzFits15.l0] at h
  | k + 1 => by
    have ih0 := laws_zzFits15.mono_l k
    · intro y0 y1 y2
      unfold laws_zzFits15.l0
      repeat' first
      | (with_reducible exact ih0 _ _ _)
      | (with_reducible exact LeO.refl _)
      | (with_reducible exact LeO.none _)
      | (with_reducible refine LeO.ite ?_ ?_)
      | (with_reducible refine LeO.bind ?_ (fun _ => ?_))
      | exact ih0 _ _ _
      | exact LeO.none _
      | refine LeO.ite ?_ ?_
      | refine LeO.bind ?_ (fun _ => ?_)
theorem laws_zzFits15.mono : ∀ a0 k, LeO (laws_zzFits15.f k a0) (laws_zzFits15.f (k + 1) a0) := by
  intro a0 k
  have ih0 := laws_zzFits15.mono_l k
  unfold laws_zzFits15.f
  repeat' first
      | (with_reducible exact ih0 _ _ _)
      | (with_reducible exact LeO.refl _)
      | (with_reducible exact LeO.none _)
      | (with_reducible refine LeO.ite ?_ ?_)
      | (with_reducible refine LeO.bind ?_ (fun _ => ?_))
      | exact ih0 _ _ _
      | exact LeO.none _
      | refine LeO.ite ?_ ?_
      | refine LeO.bind ?_ (fun _ => ?_)
set_option maxHeartbeats 8000000 in
set_option maxRecDepth 100000 in
theorem laws_zzFits15.calls (k : Nat) (A0 : Option Addr) (c0 : Nat) (l0 : List (S39)) (r : Bool) (w : World) (hr0 : Kd.C k39 w A0 l0.length l0) (hc0 : l0.length ≤ c0) (h : laws_zzFits15.f k l0 = some r) :
    Calls Try.prog 20 #[.slice A0 l0.length c0] w fun e w' => e = .returned (.bool r) ∧ Below w.heap.size w w' := by
  have hu39 := Try.underlying39
  have HR0 := Aside0.mk hr0
  have HC0 := Aside0.mk hc0
  clear hr0 hc0
  have HB := Aside0.mk (Below.refl w.heap.size w)
  have H : (if (l0.length : Int) > 2147483647 then (some false) else (laws_zzFits15.l0 k l0 (l0.length : Int) 0)) = some r := h
  clear h
  by_cases c2 : (l0.length : Int) > 2147483647
  · rw [if_pos c2] at H
    have c2b0 : decide (2147483647 < (l0.length : Int)) = true := decide_eq_true c2
    have c2b1 : decide (2147483647 < l0.length) = true := decide_eq_true (by omega)
    clear c2
    obtain rfl := Option.some.inj H
    go_enter Try.func20, Try.ntmps20
    go_wp2
    go_ret
    exact ⟨by first | rfl | (simp [errW_none, errW_some] <;> rfl) | (simp [*, errW_none, errW_some] <;> rfl), by repeat (first | (with_reducible first | exact HB.out | apply below_alloc | apply pw_below_drewN | apply below_drew1) | exact HB.out)⟩
  · rw [if_neg c2] at H
    have c2b0 : decide (2147483647 < (l0.length : Int)) = false := decide_eq_false c2
    have c2b1 : decide (2147483647 < l0.length) = false := decide_eq_false (by omega)
    clear c2
    have H' := Aside0.mk H
    clear H
    go_enter Try.func20, Try.ntmps20
    go_wp2
    go_loopg [10] k (fun kq v10 w' => ∃ (x10_1 : Int), v10 = .int .i64 x10_1 ∧ Aside0 (laws_zzFits15.l0 kq l0 (l0.length : Int) x10_1 = some r) ∧ Aside0 (kq ≤ k) ∧ Aside0 (Below w.heap.size w w'))
    case atStart => exact ⟨(0), (by first | rfl | (simp; done) | (simp [*]; done)), H', ⟨Nat.le_refl _⟩, ⟨by repeat (first | (with_reducible first | exact HB.out | apply below_alloc | apply pw_below_drewN | apply below_drew1) | exact HB.out)⟩⟩
    case round =>
      clear H'
      try clear c2
      try clear c2b0
      try clear c2b1
      try clear p2
      obtain ⟨x10_1, rfl, HA, HK1, HB⟩ := hrel
      cases gk with
      | zero => exact absurd HA.out (by simp [laws_zzFits15.l0])
      | succ k1 =>
        have H := HA.out
        clear HA
        simp only [laws_zzFits15.l0] at H
        by_cases c3 : x10_1 < (l0.length : Int)
        · rw [if_pos c3] at H
          have c3b0 : decide (x10_1 < (l0.length : Int)) = true := decide_eq_true c3
          clear c3
          by_cases c4 : 0 ≤ x10_1
          · rw [if_pos c4] at H
            have c4b0 : decide (0 ≤ x10_1) = true := decide_eq_true c4
            clear c4
            by_cases c5 : x10_1 < (l0.length : Int)
            · rw [if_pos c5] at H
              have c5b0 : decide (x10_1 < (l0.length : Int)) = true := decide_eq_true c5
              clear c5
              replace H := Option.bind_eq_some_iff.mp H
              obtain ⟨t140, A60, H⟩ := H
              replace H : (if t140 = true then (laws_zzFits15.l0 k1 l0 (l0.length : Int) (wrap64 (x10_1 + 1))) else (some false)) = some r := H
              have A6 := Aside0.mk A60
              clear A60
              by_cases c7 : t140 = true
              · subst c7
                have H1 : (laws_zzFits15.l0 k1 l0 (l0.length : Int) (wrap64 (x10_1 + 1))) = some r := by rw [if_pos rfl] at H; exact H
                clear H
                have H := H1
                clear H1
                have H' := Aside0.mk H
                clear H
                have p138 : 0 ≤ (x10_1 : Int) := of_decide_eq_true (by first | (with_reducible assumption) | assumption)
                have q138 : x10_1 < (l0.length : Int) := of_decide_eq_true (by first | (with_reducible assumption) | assumption)
                obtain ⟨ad138, e138, hx138_0, hx138_1, hx138_2, hx138_3, hx138_4, hx138_5⟩ := at_T39 HR0.out x10_1 p138 q138
                cases e138
                replace hx138_0 := (HB.out.cell (World.block_lt_of_cell? w _ hx138_0)).trans hx138_0
                replace hx138_1 := (HB.out.cell (World.block_lt_of_cell? w _ hx138_1)).trans hx138_1
                replace hx138_2 := (HB.out.cell (World.block_lt_of_cell? w _ hx138_2)).trans hx138_2
                replace hx138_3 := (HB.out.cell (World.block_lt_of_cell? w _ hx138_3)).trans hx138_3
                replace hx138_4 := (HB.out.cell (World.block_lt_of_cell? w _ hx138_4)).trans hx138_4
                replace hx138_5 := (HB.out.cell (World.block_lt_of_cell? w _ hx138_5)).trans hx138_5
                replace p138 := eq_true p138
                replace q138 := eq_true q138
                go_wp2_with (first | ((with_reducible refine gate_dst (N := 4) rfl ?_); refine box_event ?hg (N := 4) ?hd (cs := #[.int .i64 0, .int .i64 0, .int .i64 0, .int .u64 0, .string (⟨#[]⟩ : ByteArray), .int .i64 0]) (t := 39) ?hr ?_; (case hd => rfl); (case hg => rfl); (case hr => first | (go_simp; done) | (go_simp; rfl)); intro gb139 hg w8 hbox hb; have n0_ := Aside0.mk (below_step (by repeat (first | (with_reducible first | exact HB.out | apply below_alloc | apply pw_below_drewN | apply below_drew1) | exact HB.out)) hb); have n1_ := Aside0.mk (hbox); have n2_ := Aside0.mk ((by rw [hg]; exact (below_size (by repeat (first | (with_reducible first | exact HB.out | apply below_alloc | apply pw_below_drewN | apply below_drew1) | exact HB.out))) : w.heap.size ≤ gb139)); have n3_ := Aside0.mk ((by rw [hg]; exact (below_size (by repeat (first | (with_reducible first | exact HB.out | apply below_alloc | apply pw_below_drewN | apply below_drew1) | exact HB.out))) : w.heap.size ≤ gb139)); clear HB; have HB := n0_; have BK139 := n1_; have GW139 := n2_; have GE139 := n3_; clear n0_ n1_ n2_ n3_; clear hb hbox hg; have hcz9_0 : w8.cell? ⟨gb139, 0, none⟩ = some (.int .i64 0) := (blk_cell BK139.out 0).trans rfl; have hcz9_1 : w8.cell? ⟨gb139, 1, none⟩ = some (.int .i64 0) := (blk_cell BK139.out 1).trans rfl; have hcz9_2 : w8.cell? ⟨gb139, 2, none⟩ = some (.int .i64 0) := (blk_cell BK139.out 2).trans rfl; have hcz9_3 : w8.cell? ⟨gb139, 3, none⟩ = some (.int .u64 0) := (blk_cell BK139.out 3).trans rfl; have hcz9_4 : w8.cell? ⟨gb139, 4, none⟩ = some (.string (⟨#[]⟩ : ByteArray)) := (blk_cell BK139.out 4).trans rfl; have hcz9_5 : w8.cell? ⟨gb139, 5, none⟩ = some (.int .i64 0) := (blk_cell BK139.out 5).trans rfl; have hfz9_0 := blk_frozen BK139.out 0; have hfz9_1 := blk_frozen BK139.out 1; have hfz9_2 := blk_frozen BK139.out 2; have hfz9_3 := blk_frozen BK139.out 3; have hfz9_4 := blk_frozen BK139.out 4; have hfz9_5 := blk_frozen BK139.out 5) | ((with_reducible refine gate_callee (f := 36) rfl ?_); refine goesL_ (some 15) rfl rfl Try.func36 (by kernel_rfl) rfl #[.agg #[.int .i64 ((rd_T39 l0 x10_1).f0), .int .i64 ((rd_T39 l0 x10_1).f1.f0), .int .i64 ((rd_T39 l0 x10_1).f1.f1.f0), .int .u64 ((rd_T39 l0 x10_1).f1.f1.f1), .string ((rd_T39 l0 x10_1).f1.f1.f2), .int .i64 ((rd_T39 l0 x10_1).f2)]] rfl (by (try simp only [List.map_toArray, List.map_cons, List.map_nil]); first | done | rfl | (simp only [List.length_drop, List.length_take]; rfl)) ?_; (with_reducible refine (laws_zzFits16.calls ((rd_T39 l0 x10_1).f0) ((rd_T39 l0 x10_1).f1.f0) ((rd_T39 l0 x10_1).f1.f1.f0) ((rd_T39 l0 x10_1).f1.f1.f1) ((rd_T39 l0 x10_1).f1.f1.f2) ((rd_T39 l0 x10_1).f2) true _ A6.out).mono ?_); rintro e w10 ⟨rfl, hb⟩; refine ⟨_, rfl, ?_⟩; have n0_ := Aside0.mk (blk_below (g := gb139) (o := .cells #[.int .i64 ((rd_T39 l0 x10_1).f0), .int .i64 ((rd_T39 l0 x10_1).f1.f0), .int .i64 ((rd_T39 l0 x10_1).f1.f1.f0), .int .u64 ((rd_T39 l0 x10_1).f1.f1.f1), .string ((rd_T39 l0 x10_1).f1.f1.f2), .int .i64 ((rd_T39 l0 x10_1).f2)] 39 (0, 0)) (by (with_reducible repeat (first | refine blk_drewN ?_ _ | refine blk_drew ?_ | refine blk_alloc ?_ _)); refine blk_put (cs := #[.int .i64 ((rd_T39 l0 x10_1).f0), .int .i64 ((rd_T39 l0 x10_1).f1.f0), .int .i64 ((rd_T39 l0 x10_1).f1.f1.f0), .int .u64 ((rd_T39 l0 x10_1).f1.f1.f1), .string ((rd_T39 l0 x10_1).f1.f1.f2), .int .i64 0]) ?_ 5 _ rfl; (with_reducible repeat (first | refine blk_drewN ?_ _ | refine blk_drew ?_ | refine blk_alloc ?_ _)); refine blk_put (cs := #[.int .i64 ((rd_T39 l0 x10_1).f0), .int .i64 ((rd_T39 l0 x10_1).f1.f0), .int .i64 ((rd_T39 l0 x10_1).f1.f1.f0), .int .u64 ((rd_T39 l0 x10_1).f1.f1.f1), .string (⟨#[]⟩ : ByteArray), .int .i64 0]) ?_ 4 _ rfl; (with_reducible repeat (first | refine blk_drewN ?_ _ | refine blk_drew ?_ | refine blk_alloc ?_ _)); refine blk_put (cs := #[.int .i64 ((rd_T39 l0 x10_1).f0), .int .i64 ((rd_T39 l0 x10_1).f1.f0), .int .i64 ((rd_T39 l0 x10_1).f1.f1.f0), .int .u64 0, .string (⟨#[]⟩ : ByteArray), .int .i64 0]) ?_ 3 _ rfl; (with_reducible repeat (first | refine blk_drewN ?_ _ | refine blk_drew ?_ | refine blk_alloc ?_ _)); refine blk_put (cs := #[.int .i64 ((rd_T39 l0 x10_1).f0), .int .i64 ((rd_T39 l0 x10_1).f1.f0), .int .i64 0, .int .u64 0, .string (⟨#[]⟩ : ByteArray), .int .i64 0]) ?_ 2 _ rfl; (with_reducible repeat (first | refine blk_drewN ?_ _ | refine blk_drew ?_ | refine blk_alloc ?_ _)); refine blk_put (cs := #[.int .i64 ((rd_T39 l0 x10_1).f0), .int .i64 0, .int .i64 0, .int .u64 0, .string (⟨#[]⟩ : ByteArray), .int .i64 0]) ?_ 1 _ rfl; (with_reducible repeat (first | refine blk_drewN ?_ _ | refine blk_drew ?_ | refine blk_alloc ?_ _)); refine blk_put (cs := #[.int .i64 0, .int .i64 0, .int .i64 0, .int .u64 0, .string (⟨#[]⟩ : ByteArray), .int .i64 0]) ?_ 0 _ rfl; (with_reducible repeat (first | refine blk_drewN ?_ _ | refine blk_drew ?_ | refine blk_alloc ?_ _)); exact BK139.out) hb); have n1_ := Aside0.mk (below_step (by repeat (first | (with_reducible first | exact HB.out | apply below_alloc | apply pw_below_drewN | apply below_drew1 | refine below_set ?_ GE139.out) | exact HB.out)) hb); clear BK139; clear HB; have BK139 := n0_; have HB := n1_; clear n0_ n1_; (try clear hb); (try clear hb2); (try clear hk); (try clear hi)))
                go_roundg k1
                case measure => have := HK1.out; omega
                case rel => exact ⟨(wrap64 (x10_1 + 1)), (by first | rfl | (simp; done) | (simp [*]; done)), H', ⟨by have := HK1.out; omega⟩, ⟨by repeat (first | (with_reducible first | exact HB.out | apply below_alloc | apply pw_below_drewN | apply below_drew1 | refine below_set ?_ GE139.out) | exact HB.out)⟩⟩
              · replace c7 := Bool.eq_false_iff.mpr c7
                subst c7
                have H1 : (some false) = some r := by rw [if_neg (show ¬ (false = true) by decide)] at H; exact H
                clear H
                have H := H1
                clear H1
                obtain rfl := Option.some.inj H
                have p138 : 0 ≤ (x10_1 : Int) := of_decide_eq_true (by first | (with_reducible assumption) | assumption)
                have q138 : x10_1 < (l0.length : Int) := of_decide_eq_true (by first | (with_reducible assumption) | assumption)
                obtain ⟨ad138, e138, hx138_0, hx138_1, hx138_2, hx138_3, hx138_4, hx138_5⟩ := at_T39 HR0.out x10_1 p138 q138
                cases e138
                replace hx138_0 := (HB.out.cell (World.block_lt_of_cell? w _ hx138_0)).trans hx138_0
                replace hx138_1 := (HB.out.cell (World.block_lt_of_cell? w _ hx138_1)).trans hx138_1
                replace hx138_2 := (HB.out.cell (World.block_lt_of_cell? w _ hx138_2)).trans hx138_2
                replace hx138_3 := (HB.out.cell (World.block_lt_of_cell? w _ hx138_3)).trans hx138_3
                replace hx138_4 := (HB.out.cell (World.block_lt_of_cell? w _ hx138_4)).trans hx138_4
                replace hx138_5 := (HB.out.cell (World.block_lt_of_cell? w _ hx138_5)).trans hx138_5
                replace p138 := eq_true p138
                replace q138 := eq_true q138
                go_wp2_with (first | ((with_reducible refine gate_dst (N := 4) rfl ?_); refine box_event ?hg (N := 4) ?hd (cs := #[.int .i64 0, .int .i64 0, .int .i64 0, .int .u64 0, .string (⟨#[]⟩ : ByteArray), .int .i64 0]) (t := 39) ?hr ?_; (case hd => rfl); (case hg => rfl); (case hr => first | (go_simp; done) | (go_simp; rfl)); intro gb139 hg w11 hbox hb; have n0_ := Aside0.mk (below_step (by repeat (first | (with_reducible first | exact HB.out | apply below_alloc | apply pw_below_drewN | apply below_drew1) | exact HB.out)) hb); have n1_ := Aside0.mk (hbox); have n2_ := Aside0.mk ((by rw [hg]; exact (below_size (by repeat (first | (with_reducible first | exact HB.out | apply below_alloc | apply pw_below_drewN | apply below_drew1) | exact HB.out))) : w.heap.size ≤ gb139)); have n3_ := Aside0.mk ((by rw [hg]; exact (below_size (by repeat (first | (with_reducible first | exact HB.out | apply below_alloc | apply pw_below_drewN | apply below_drew1) | exact HB.out))) : w.heap.size ≤ gb139)); clear HB; have HB := n0_; have BK139 := n1_; have GW139 := n2_; have GE139 := n3_; clear n0_ n1_ n2_ n3_; clear hb hbox hg; have hcz12_0 : w11.cell? ⟨gb139, 0, none⟩ = some (.int .i64 0) := (blk_cell BK139.out 0).trans rfl; have hcz12_1 : w11.cell? ⟨gb139, 1, none⟩ = some (.int .i64 0) := (blk_cell BK139.out 1).trans rfl; have hcz12_2 : w11.cell? ⟨gb139, 2, none⟩ = some (.int .i64 0) := (blk_cell BK139.out 2).trans rfl; have hcz12_3 : w11.cell? ⟨gb139, 3, none⟩ = some (.int .u64 0) := (blk_cell BK139.out 3).trans rfl; have hcz12_4 : w11.cell? ⟨gb139, 4, none⟩ = some (.string (⟨#[]⟩ : ByteArray)) := (blk_cell BK139.out 4).trans rfl; have hcz12_5 : w11.cell? ⟨gb139, 5, none⟩ = some (.int .i64 0) := (blk_cell BK139.out 5).trans rfl; have hfz12_0 := blk_frozen BK139.out 0; have hfz12_1 := blk_frozen BK139.out 1; have hfz12_2 := blk_frozen BK139.out 2; have hfz12_3 := blk_frozen BK139.out 3; have hfz12_4 := blk_frozen BK139.out 4; have hfz12_5 := blk_frozen BK139.out 5) | ((with_reducible refine gate_callee (f := 36) rfl ?_); refine goesL_ (some 15) rfl rfl Try.func36 (by kernel_rfl) rfl #[.agg #[.int .i64 ((rd_T39 l0 x10_1).f0), .int .i64 ((rd_T39 l0 x10_1).f1.f0), .int .i64 ((rd_T39 l0 x10_1).f1.f1.f0), .int .u64 ((rd_T39 l0 x10_1).f1.f1.f1), .string ((rd_T39 l0 x10_1).f1.f1.f2), .int .i64 ((rd_T39 l0 x10_1).f2)]] rfl (by (try simp only [List.map_toArray, List.map_cons, List.map_nil]); first | done | rfl | (simp only [List.length_drop, List.length_take]; rfl)) ?_; (with_reducible refine (laws_zzFits16.calls ((rd_T39 l0 x10_1).f0) ((rd_T39 l0 x10_1).f1.f0) ((rd_T39 l0 x10_1).f1.f1.f0) ((rd_T39 l0 x10_1).f1.f1.f1) ((rd_T39 l0 x10_1).f1.f1.f2) ((rd_T39 l0 x10_1).f2) false _ A6.out).mono ?_); rintro e w13 ⟨rfl, hb⟩; refine ⟨_, rfl, ?_⟩; have n0_ := Aside0.mk (blk_below (g := gb139) (o := .cells #[.int .i64 ((rd_T39 l0 x10_1).f0), .int .i64 ((rd_T39 l0 x10_1).f1.f0), .int .i64 ((rd_T39 l0 x10_1).f1.f1.f0), .int .u64 ((rd_T39 l0 x10_1).f1.f1.f1), .string ((rd_T39 l0 x10_1).f1.f1.f2), .int .i64 ((rd_T39 l0 x10_1).f2)] 39 (0, 0)) (by (with_reducible repeat (first | refine blk_drewN ?_ _ | refine blk_drew ?_ | refine blk_alloc ?_ _)); refine blk_put (cs := #[.int .i64 ((rd_T39 l0 x10_1).f0), .int .i64 ((rd_T39 l0 x10_1).f1.f0), .int .i64 ((rd_T39 l0 x10_1).f1.f1.f0), .int .u64 ((rd_T39 l0 x10_1).f1.f1.f1), .string ((rd_T39 l0 x10_1).f1.f1.f2), .int .i64 0]) ?_ 5 _ rfl; (with_reducible repeat (first | refine blk_drewN ?_ _ | refine blk_drew ?_ | refine blk_alloc ?_ _)); refine blk_put (cs := #[.int .i64 ((rd_T39 l0 x10_1).f0), .int .i64 ((rd_T39 l0 x10_1).f1.f0), .int .i64 ((rd_T39 l0 x10_1).f1.f1.f0), .int .u64 ((rd_T39 l0 x10_1).f1.f1.f1), .string (⟨#[]⟩ : ByteArray), .int .i64 0]) ?_ 4 _ rfl; (with_reducible repeat (first | refine blk_drewN ?_ _ | refine blk_drew ?_ | refine blk_alloc ?_ _)); refine blk_put (cs := #[.int .i64 ((rd_T39 l0 x10_1).f0), .int .i64 ((rd_T39 l0 x10_1).f1.f0), .int .i64 ((rd_T39 l0 x10_1).f1.f1.f0), .int .u64 0, .string (⟨#[]⟩ : ByteArray), .int .i64 0]) ?_ 3 _ rfl; (with_reducible repeat (first | refine blk_drewN ?_ _ | refine blk_drew ?_ | refine blk_alloc ?_ _)); refine blk_put (cs := #[.int .i64 ((rd_T39 l0 x10_1).f0), .int .i64 ((rd_T39 l0 x10_1).f1.f0), .int .i64 0, .int .u64 0, .string (⟨#[]⟩ : ByteArray), .int .i64 0]) ?_ 2 _ rfl; (with_reducible repeat (first | refine blk_drewN ?_ _ | refine blk_drew ?_ | refine blk_alloc ?_ _)); refine blk_put (cs := #[.int .i64 ((rd_T39 l0 x10_1).f0), .int .i64 0, .int .i64 0, .int .u64 0, .string (⟨#[]⟩ : ByteArray), .int .i64 0]) ?_ 1 _ rfl; (with_reducible repeat (first | refine blk_drewN ?_ _ | refine blk_drew ?_ | refine blk_alloc ?_ _)); refine blk_put (cs := #[.int .i64 0, .int .i64 0, .int .i64 0, .int .u64 0, .string (⟨#[]⟩ : ByteArray), .int .i64 0]) ?_ 0 _ rfl; (with_reducible repeat (first | refine blk_drewN ?_ _ | refine blk_drew ?_ | refine blk_alloc ?_ _)); exact BK139.out) hb); have n1_ := Aside0.mk (below_step (by repeat (first | (with_reducible first | exact HB.out | apply below_alloc | apply pw_below_drewN | apply below_drew1 | refine below_set ?_ GE139.out) | exact HB.out)) hb); clear BK139; clear HB; have BK139 := n0_; have HB := n1_; clear n0_ n1_; (try clear hb); (try clear hb2); (try clear hk); (try clear hi)))
                go_ret
                exact ⟨by first | rfl | (simp [errW_none, errW_some] <;> rfl) | (simp [*, errW_none, errW_some] <;> rfl), by repeat (first | (with_reducible first | exact HB.out | apply below_alloc | apply pw_below_drewN | apply below_drew1 | refine below_set ?_ GE139.out) | exact HB.out)⟩
            · rw [if_neg c5] at H
              exact absurd H (by simp)
          · rw [if_neg c4] at H
            exact absurd H (by simp)
        · rw [if_neg c3] at H
          have c3b0 : decide (x10_1 < (l0.length : Int)) = false := decide_eq_false c3
          clear c3
          obtain rfl := Option.some.inj H
          go_wp2
          go_ret
          exact ⟨by first | rfl | (simp [errW_none, errW_some] <;> rfl) | (simp [*, errW_none, errW_some] <;> rfl), by repeat (first | (with_reducible first | exact HB.out | apply below_alloc | apply pw_below_drewN | apply below_drew1) | exact HB.out)⟩

-- GIVEN: function 21 (impl_Section)

-- GIVEN: function 22 (impl_Interval)

-- NOT PRINTED: function 6 (laws_FnSectionApart)

-- GIVEN: function 23 (impl_Merge)

end Go.Proofs.Ytlmmjchdfngdgaa.Q
