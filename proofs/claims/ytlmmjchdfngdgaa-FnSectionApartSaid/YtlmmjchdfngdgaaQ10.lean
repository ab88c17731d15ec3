/- The walk of FnSectionApart. -/
import Derived.Test.YtlmmjchdfngdgaaQ5
import Derived.Test.YtlmmjchdfngdgaaGsc
namespace Go.Proofs.Ytlmmjchdfngdgaa.Q
open Go.RowKit Go.Proofs.YtlmmjchdfngdgaaW.PrintWords Go.Proofs.YtlmmjchdfngdgaaW.PrintLast Go.Proofs.YtlmmjchdfngdgaaW.PrintMore
set_option linter.unusedVariables false
set_option linter.unusedSimpArgs false

/-- Each datum lies ahead of the section's end, and no two overlap. -/
structure Apt (ds : List Dt) (size : Int) : Prop where
  e : ∀ d ∈ ds, wrap64 (d.1 + cBytes d.2.1 d.2.2.2) ≤ size
  o : ∀ (i j : Nat) (d d' : Dt), ds[i]? = some d → ds[j]? = some d' → j < i → ovB d.1 (cBytes d.2.1 d.2.2.2) d'.1 (cBytes d'.2.1 d'.2.2.2) = false ∧ ovB d'.1 (cBytes d'.2.1 d'.2.2.2) d.1 (cBytes d.2.1 d.2.2.2) = false
open Classical in
noncomputable def laws_FnSectionApart.f (k : Nat) (l0 : List S39) : Option Bool :=
  (laws_zzFits15.f k l0).bind fun b => if b = false then some true else
    if l0.length > 2000 then some true else
      (spec_DataKnown.f k l0).bind fun kn => if kn = false then some true else if Apt (runS l0).1 (runS l0).2 then some true else none

theorem at_35 {w : World} {A : Option Addr} {n : Nat} {xs : List S35} (h : Kd.C k35 w A n xs) (i : Nat) (h1 : i < n) (p : S35) (hp : xs[i]? = some p) :
    ∃ ad, A = some ad ∧ w.cell? (ad.add (i * 4)) = some (.int .i64 p.f0) ∧ w.cell? ⟨(ad.add (i * 4)).block, (ad.add (i * 4)).off + 1, none⟩ = some (.int .i64 p.f1.f0) ∧ w.cell? ⟨(ad.add (i * 4)).block, (ad.add (i * 4)).off + 2, none⟩ = some (.int .u64 p.f1.f1) ∧ w.cell? ⟨(ad.add (i * 4)).block, (ad.add (i * 4)).off + 3, none⟩ = some (.string p.f1.f2) := by
  obtain ⟨ad, e, h0, h1, h2, h3⟩ := at_T35 h (i : Int) (by omega) (by omega)
  have er : rd_T35 xs (i : Int) = p := by unfold rd_T35; simp [List.getD, hp]
  rw [er, Int.toNat_natCast] at h0 h1 h2 h3
  exact ⟨ad, e, h0, h1, h2, h3⟩

/-- The loops' own part. -/
def Good (out : List S35) (size : Int) : Prop :=
  (∀ (i : Nat) (p : S35), out[i]? = some p → isC p.f1.f0 = true ∧ wrap64 (p.f0 + cBytes p.f1.f0 p.f1.f2) ≤ size) ∧
  ∀ (i j : Nat) (p q : S35), out[i]? = some p → out[j]? = some q → j < i → ovB p.f0 (cBytes p.f1.f0 p.f1.f2) q.f0 (cBytes q.f1.f0 q.f1.f2) = false ∧ ovB q.f0 (cBytes q.f1.f0 q.f1.f2) p.f0 (cBytes p.f1.f0 p.f1.f2) = false
theorem good_of {l : List S39} {out : List S35} (hP : PlainOf (runS l).1 out) (hA : Apt (runS l).1 (runS l).2) : Good out (runS l).2 := by
  have get : ∀ (i : Nat) (p : S35), out[i]? = some p → ∃ d, (runS l).1[i]? = some d := fun i p h => by
    have := (List.getElem?_eq_some_iff.1 h).1
    rw [hP.len] at this
    exact ⟨_, List.getElem?_eq_getElem this⟩
  refine ⟨fun i p hp => ?_, fun i j p q hp hq hlt => ?_⟩
  · obtain ⟨d, hd⟩ := get i p hp
    obtain ⟨e0, e1, e2⟩ := hP.at_ i d p hd hp
    rw [e0, e1] at *
    rw [e2]
    exact ⟨runS_isC l d (List.mem_of_getElem? hd), hA.e d (List.mem_of_getElem? hd)⟩
  · obtain ⟨d, hd⟩ := get i p hp
    obtain ⟨d', hd'⟩ := get j q hq
    obtain ⟨e0, e1, e2⟩ := hP.at_ i d p hd hp
    obtain ⟨f0, f1, f2⟩ := hP.at_ j d' q hd' hq
    rw [e2, f2, e0, f0]
    exact hA.o i j d d' hd hd' hlt

theorem take35 (ad : Addr) (c n i : Nat) (W : World) (hi : i ≤ n) (hn : n ≤ c) : (Instr.slice 43 (.slice (some ad) n c) none (some (.int .i64 (i : Int))) none).run Try.prog W = .ok (.slice (some ad) i c) W := by
  have hel : Try.prog.elem 43 = 35 := by simp [Program.elem, Try.underlying43]
  have hu : Try.prog.underlying 43 = some (.slice (Try.prog.elem 43)) := by rw [hel]; exact Try.underlying43
  rw [run_slice_h W 43 (some ad) n c hu .i64 (i : Int) (by omega) (by omega), hel]
  simp [Try.sizeOf35, sliced, Result.andThen, Addr.add]

set_option maxHeartbeats 8000000 in
set_option maxRecDepth 100000 in
theorem laws_FnSectionApart.calls (k : Nat) (A0 : Option Addr) (c0 : Nat) (l0 : List (S39)) (r : Bool) (w : World) (hr0 : Kd.C k39 w A0 l0.length l0) (hc0 : l0.length ≤ c0) (h : laws_FnSectionApart.f k l0 = some r) :
    Calls Try.prog 6 #[.slice A0 l0.length c0] w fun e w' => e = .returned (.bool r) ∧ Below w.heap.size w w' := by
  have HR := Aside0.mk hr0
  have HC := Aside0.mk hc0
  clear hr0 hc0
  unfold laws_FnSectionApart.f at h
  obtain ⟨b, hb, h⟩ := Option.bind_eq_some_iff.1 h
  have HZ := Aside0.mk hb
  clear hb
  cases b with
  | false =>
    rw [if_pos rfl] at h
    obtain rfl := Option.some.inj h
    go_enter Try.func6, Try.ntmps6
    go_wp2_with (first
      | (go_at_call 20; (with_reducible refine (laws_zzFits15.calls k _ _ l0 _ _ HR.out HC.out HZ.out).mono ?_); rintro e w1 ⟨rfl, hb1⟩)
      | go_in)
    go_ret
    exact ⟨rfl, hb1⟩
  | true =>
    rw [if_neg (by simp)] at h
    by_cases c2 : l0.length > 2000
    · rw [if_pos c2] at h
      obtain rfl := Option.some.inj h
      have c2' : decide ((l0.length : Int) > 2000) = true := decide_eq_true (by omega)
      go_enter Try.func6, Try.ntmps6
      go_wp2_with (first
        | (go_at_call 20; (with_reducible refine (laws_zzFits15.calls k _ _ l0 _ _ HR.out HC.out HZ.out).mono ?_); rintro e w1 ⟨rfl, hb1⟩)
        | go_in)
      go_ret
      exact ⟨rfl, hb1⟩
    · rw [if_neg c2] at h
      have c2' : decide ((l0.length : Int) > 2000) = false := decide_eq_false (by omega)
      obtain ⟨kn, hkn, h⟩ := Option.bind_eq_some_iff.1 h
      have HN := Aside0.mk hkn
      clear hkn
      cases kn with
      | false =>
        rw [if_pos rfl] at h
        obtain rfl := Option.some.inj h
        go_enter Try.func6, Try.ntmps6
        go_wp2_with (first
          | (go_at_call 20; (with_reducible refine (laws_zzFits15.calls k _ _ l0 _ _ HR.out HC.out HZ.out).mono ?_); rintro e w1 ⟨rfl, hb1⟩; have HB1 := Aside0.mk hb1; clear hb1)
          | (go_at_call 17; (with_reducible refine (spec_DataKnown.calls k _ _ l0 _ _ (Kd.C_below HR.out HB1.out) HC.out HN.out).mono ?_); rintro e w2 ⟨rfl, hb2⟩)
          | go_in)
        go_ret
        exact ⟨rfl, below_step HB1.out hb2⟩
      | true =>
        rw [if_neg (by simp)] at h
        split at h
        case isFalse => cases h
        rename_i hA
        obtain rfl := Option.some.inj h
        have HA := Aside0.mk hA
        clear hA h
        go_enter Try.func6, Try.ntmps6
        go_wp2_with (first
          | (go_at_call 20; (with_reducible refine (laws_zzFits15.calls k _ _ l0 _ _ HR.out HC.out HZ.out).mono ?_); rintro e w1 ⟨rfl, hb1⟩; have HB1 := Aside0.mk hb1; clear hb1)
          | (go_at_call 17; (with_reducible refine (spec_DataKnown.calls k _ _ l0 _ _ (Kd.C_below HR.out HB1.out) HC.out HN.out).mono ?_); rintro e w2 ⟨rfl, hb2⟩; have HB2 := Aside0.mk (below_step HB1.out hb2); clear hb2)
          | (go_at_call 21; (with_reducible refine (section_calls _ _ l0 _ (Kd.C_below HR.out HB2.out) (by omega)).mono ?_); rintro e w3 ⟨vt, vd, told, out, rfl, htl, hRt, hRd, hP, hb3⟩; obtain ⟨At, ct, rfl⟩ := Kd.R_slice hRt; obtain ⟨Ad, cd, rfl⟩ := Kd.R_slice hRd; have HGd := Aside0.mk (good_of hP HA.out); have HL : Aside0 (out.length ≤ l0.length) := ⟨by rw [hP.len]; exact runS_len l0⟩; have hle : (l0.length < out.length) = False := eq_false (by have := HL.out; omega); have HRd := Aside0.mk (Kd.R_reads' hRd).2.2; have hlc := (Kd.R_reads' hRd).2.1; have HB3 := Aside0.mk (below_step HB2.out hb3); rw [htl]; clear hRt hRd hP hb3 htl)
          | go_in)
        go_loopg [43] out.length (fun kq v43 wr => ∃ i : Nat, v43 = .int .i64 (i : Int) ∧ Aside0 (i + kq = out.length) ∧ Aside0 (Below w3.heap.size w3 wr))
        case atStart => exact ⟨0, rfl, ⟨by simp⟩, ⟨Below.refl _ _⟩⟩
        case round =>
          obtain ⟨i, rfl, HK, HB⟩ := hrel
          cases gk with
          | zero =>
            have e' : (i < out.length) = False := eq_false (by have := HK.out; omega)
            go_wp2
            go_ret
            exact ⟨rfl, below_step HB3.out HB.out⟩
          | succ kk =>
            have hi : i < out.length := by have := HK.out; omega
            obtain ⟨p, hp⟩ : ∃ p, out[i]? = some p := ⟨_, List.getElem?_eq_getElem hi⟩
            have hgp := HGd.out.1 i p hp
            have HGp : Aside0 (∀ j q, out[j]? = some q → j < i → ovB p.f0 (cBytes p.f1.f0 p.f1.f2) q.f0 (cBytes q.f1.f0 q.f1.f2) = false ∧ ovB q.f0 (cBytes q.f1.f0 q.f1.f2) p.f0 (cBytes p.f1.f0 p.f1.f2) = false) := ⟨fun j q hq hlt => HGd.out.2 i j p q hp hq hlt⟩
            have hint : impl_Interval.f p.f0 p.f1.f0 p.f1.f1 p.f1.f2 = some (p.f0, wrap64 (p.f0 + cBytes p.f1.f0 p.f1.f2)) := by unfold impl_Interval.f; rw [if_pos hgp.1]
            have HI := Aside0.mk hint
            obtain ⟨ad, hAd, q0, q1, q2, q3⟩ := at_35 (Kd.C_below HRd.out HB.out) i hi p hp
            cases hAd
            have hgt : decide (wrap64 (p.f0 + cBytes p.f1.f0 p.f1.f2) > (runS l0).2) = false := decide_eq_false (by have := hgp.2; omega)
            have hgt' : ((runS l0).2 < wrap64 (p.f0 + cBytes p.f1.f0 p.f1.f2)) = False := eq_false (by have := hgp.2; omega)
            have hsl := fun W => take35 ad cd out.length i W (by omega) hlc
            have hkp := hgp.1
            have e' : (i < out.length) = True := eq_true hi
            clear hint hgp hi
            obtain ⟨wo, rfl⟩ : ∃ W, W = wr := ⟨_, rfl⟩
            go_wp2_with (first
              | (go_at_call 22; (with_reducible refine (impl_Interval.calls p.f0 p.f1.f0 p.f1.f1 p.f1.f2 _ _ _ HI.out).mono ?_); rintro e w4 ⟨rfl, hb4⟩; have HX : Aside0 (Below (wo.heap.size + 1) (wo.alloc (.cells #[.int .i64 p.f0, .int .i64 p.f1.f0, .int .u64 p.f1.f1, .string p.f1.f2] 35)) w4) := ⟨hb4.mono (by simp)⟩; clear hb4)
              | go_in)
            go_loopg [60] i (fun kq v60 wr => ∃ j : Nat, v60 = .int .i64 (j : Int) ∧ Aside0 (j + kq = i) ∧ Aside0 (Below (wo.heap.size + 1) (wo.alloc (.cells #[.int .i64 p.f0, .int .i64 p.f1.f0, .int .u64 p.f1.f1, .string p.f1.f2] 35)) wr))
            case atStart => exact ⟨0, rfl, ⟨by simp⟩, HX⟩
            case round =>
              obtain ⟨j, rfl, HJ, HY⟩ := hrel
              have HBo : Aside0 (Below wo.heap.size wo wr) := ⟨((Below.refl _ _).alloc (Nat.le_refl _) _).trans (HY.out.mono (Nat.le_succ _))⟩
              have hlt : wo.heap.size < wr.heap.size := by have := HY.out.size; simp at this; omega
              cases gk with
              | zero =>
                have e2 : (j < i) = False := eq_false (by have := HJ.out; omega)
                clear hlt
                go_wp2
                go_roundg kk
                case measure => have := HK.out; omega
                case rel => exact ⟨i + 1, by have := HK.out; have := HL.out; simp [wrap64]; try omega, ⟨by have := HK.out; omega⟩, ⟨HB.out.trans (HBo.out.mono HB.out.size)⟩⟩
              | succ kk2 =>
                have hj : j < i := by have := HJ.out; omega
                have hjo : j < out.length := by have := HK.out; omega
                obtain ⟨q, hq⟩ : ∃ q, out[j]? = some q := ⟨_, List.getElem?_eq_getElem hjo⟩
                have hov := HGp.out j q hq hj
                have hkq := (HGd.out.1 j q hq).1
                have H1 : Aside0 (impl_Overlaps.f p.f0 p.f1.f0 p.f1.f1 p.f1.f2 q.f0 q.f1.f0 q.f1.f1 q.f1.f2 = some false) := ⟨by unfold impl_Overlaps.f; rw [hov.1]; simp⟩
                have H2 : Aside0 (impl_Overlaps.f q.f0 q.f1.f0 q.f1.f1 q.f1.f2 p.f0 p.f1.f0 p.f1.f1 p.f1.f2 = some false) := ⟨by unfold impl_Overlaps.f; rw [hov.2]; simp⟩
                obtain ⟨ad2, hAd2, r0, r1, r2, r3⟩ := at_35 (Kd.C_below HRd.out (HB.out.trans (HBo.out.mono HB.out.size))) j hjo q hq
                cases hAd2
                have hx0 : wr.cell? ⟨wo.heap.size, 0, none⟩ = some (.int .i64 p.f0) := (HY.out.cell (p := ⟨wo.heap.size, 0, none⟩) (Nat.lt_succ_self _)).trans (by simp)
                have hx1 : wr.cell? ⟨wo.heap.size, 1, none⟩ = some (.int .i64 p.f1.f0) := (HY.out.cell (p := ⟨wo.heap.size, 1, none⟩) (Nat.lt_succ_self _)).trans (by simp)
                have hx2 : wr.cell? ⟨wo.heap.size, 2, none⟩ = some (.int .u64 p.f1.f1) := (HY.out.cell (p := ⟨wo.heap.size, 2, none⟩) (Nat.lt_succ_self _)).trans (by simp)
                have hx3 : wr.cell? ⟨wo.heap.size, 3, none⟩ = some (.string p.f1.f2) := (HY.out.cell (p := ⟨wo.heap.size, 3, none⟩) (Nat.lt_succ_self _)).trans (by simp)
                have hy0 : ∀ ob, (wr.alloc ob).cell? ⟨wo.heap.size, 0, none⟩ = some (.int .i64 p.f0) := fun ob => pw_cell_below ((Below.refl _ _).alloc (Nat.le_refl _) _) hx0
                have hy1 : ∀ ob, (wr.alloc ob).cell? ⟨wo.heap.size, 1, none⟩ = some (.int .i64 p.f1.f0) := fun ob => pw_cell_below ((Below.refl _ _).alloc (Nat.le_refl _) _) hx1
                have hy2 : ∀ ob, (wr.alloc ob).cell? ⟨wo.heap.size, 2, none⟩ = some (.int .u64 p.f1.f1) := fun ob => pw_cell_below ((Below.refl _ _).alloc (Nat.le_refl _) _) hx2
                have hy3 : ∀ ob, (wr.alloc ob).cell? ⟨wo.heap.size, 3, none⟩ = some (.string p.f1.f2) := fun ob => pw_cell_below ((Below.refl _ _).alloc (Nat.le_refl _) _) hx3
                have e2 : (j < i) = True := eq_true hj
                clear hj hjo hq hov hkq
                go_wp2_with (first
                  | (go_at_call 18; (with_reducible refine (impl_Overlaps.calls p.f0 p.f1.f0 p.f1.f1 p.f1.f2 q.f0 q.f1.f0 q.f1.f1 q.f1.f2 _ _ H1.out).mono ?_); rintro e w5 ⟨rfl, hb5⟩; have hz0 := pw_cell_below hb5 (hy0 _); have hz1 := pw_cell_below hb5 (hy1 _); have hz2 := pw_cell_below hb5 (hy2 _); have hz3 := pw_cell_below hb5 (hy3 _); have hv0 := pw_cell_below hb5 (show (wr.alloc (.cells #[.int .i64 q.f0, .int .i64 q.f1.f0, .int .u64 q.f1.f1, .string q.f1.f2] 35)).cell? ⟨wr.heap.size, 0, none⟩ = some (.int .i64 q.f0) by simp); have hv1 := pw_cell_below hb5 (show (wr.alloc (.cells #[.int .i64 q.f0, .int .i64 q.f1.f0, .int .u64 q.f1.f1, .string q.f1.f2] 35)).cell? ⟨wr.heap.size, 1, none⟩ = some (.int .i64 q.f1.f0) by simp); have hv2 := pw_cell_below hb5 (show (wr.alloc (.cells #[.int .i64 q.f0, .int .i64 q.f1.f0, .int .u64 q.f1.f1, .string q.f1.f2] 35)).cell? ⟨wr.heap.size, 2, none⟩ = some (.int .u64 q.f1.f1) by simp); have hv3 := pw_cell_below hb5 (show (wr.alloc (.cells #[.int .i64 q.f0, .int .i64 q.f1.f0, .int .u64 q.f1.f1, .string q.f1.f2] 35)).cell? ⟨wr.heap.size, 3, none⟩ = some (.string q.f1.f2) by simp); have HB5 : Aside0 (Below wr.heap.size wr w5) := ⟨below_step ((Below.refl wr.heap.size wr).alloc (Nat.le_refl _) _) hb5⟩; clear hb5)
                  | (go_at_call 18; (with_reducible refine (impl_Overlaps.calls q.f0 q.f1.f0 q.f1.f1 q.f1.f2 p.f0 p.f1.f0 p.f1.f1 p.f1.f2 _ _ H2.out).mono ?_); rintro e w6 ⟨rfl, hb6⟩; have HB6 : Aside0 (Below wr.heap.size wr w6) := ⟨below_step HB5.out hb6⟩; clear hb6)
                  | go_in)
                go_roundg kk2
                case measure => have := HJ.out; omega
                case rel => exact ⟨j + 1, by have := HK.out; have := HJ.out; have := HL.out; simp [wrap64]; try omega, ⟨by have := HJ.out; omega⟩, ⟨HY.out.trans (HB6.out.mono (by omega))⟩⟩
end Go.Proofs.Ytlmmjchdfngdgaa.Q
