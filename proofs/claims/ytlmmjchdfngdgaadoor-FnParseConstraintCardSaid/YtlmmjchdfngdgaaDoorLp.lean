/- The walk of the law FnParseConstraint: it answers true. -/
import Derived.Test.YtlmmjchdfngdgaaDoorPr
namespace Go.Proofs.YtlmmjchdfngdgaaDoor.Q
open Go.RowKit Go.Maps Go.Proofs.YtlmmjchdfngdgaaDoorW.PrintWords Go.Proofs.YtlmmjchdfngdgaaDoorW.PrintLast Go.Proofs.YtlmmjchdfngdgaaDoorW.PrintMore Go.Proofs.YtlmmjchdfngdgaaDoor.Pure
set_option linter.unusedVariables false
theorem rAscii_calls (s : ByteArray) (w : World) (hs : s.size < 9223372036854775807) : Calls Tryd.prog 21 #[.string s] w fun e w' => e = .returned (.bool (asciiB s)) ∧ Below w.heap.size w w' := by
  obtain ⟨k, hk⟩ := rAscii_ev s hs
  exact (R.spec_Ascii.calls k s _ w (hk k (Nat.le_refl k))).mono fun e w' ⟨h1, h2⟩ => ⟨h1, h2.below⟩
theorem rParse_calls (s : ByteArray) (w : World) (hs : s.size < 4294967200) (ha : asciiB s = true) : Calls Tryd.prog 23 #[.string s] w fun e w' => ∃ A c, e = .returned (.tuple #[.slice A (parseC (fsB s)).1.length c, .bool (parseC (fsB s)).2]) ∧ (parseC (fsB s)).1.length ≤ c ∧ Kd.C (Kd.slice 9 Kd.string) w' A (parseC (fsB s)).1.length (parseC (fsB s)).1 ∧ Below w.heap.size w w' := by
  obtain ⟨k, hk⟩ := rParse_ev s hs ha
  refine (R.spec_ParseConstraint.calls k s (parseC (fsB s)).1 (parseC (fsB s)).2 w (hk k (Nat.le_refl k))).mono fun e w' ⟨v, h1, h2, h3⟩ => ?_
  obtain ⟨A, c, hv, hc, hC⟩ := Kd.S_reads h2
  exact ⟨A, c, by rw [h1, hv], hc, hC, h3⟩
theorem rOptions_calls (A0 : Option Addr) (c0 : Nat) (A1 : Option Addr) (c1 : Nat) (l : List (List ByteArray)) (w : World) (hl : l.length < 9223372036854775807) (hin : ∀ o ∈ l, o.length < 9223372036854775807) (hr0 : Kd.C (Kd.slice 9 Kd.string) w A0 l.length l) (hc0 : l.length ≤ c0) (hr1 : Kd.C (Kd.slice 9 Kd.string) w A1 l.length l) (hc1 : l.length ≤ c1) :
    Calls Tryd.prog 24 #[.slice A0 l.length c0, .slice A1 l.length c1] w fun e w' => e = .returned (.bool true) ∧ Below w.heap.size w w' := by
  obtain ⟨k, hk⟩ := rOptions_ev l hl hin
  exact (R.laws_options.calls k A0 c0 l A1 c1 l true w hr0 hc0 hr1 hc1 (hk k (Nat.le_refl k))).mono fun e w' ⟨h1, h2⟩ => ⟨h1, h2.below⟩
set_option maxHeartbeats 4000000 in
set_option maxRecDepth 100000 in
theorem fnParse_calls (s : ByteArray) (w : World) (hP : Tabs w) (hS : SpaceT w) :
    Calls Tryd.prog 5 #[.string s] w fun e w' => e = .returned (.bool true) ∧ Below w.heap.size w w' := by
  by_cases hbig : s.size ≤ 2147483647
  case neg =>
    have g1 : decide ((2147483647 : Int) < (s.size : Int)) = true := decide_eq_true (by omega)
    go_enter Tryd.func5, Tryd.ntmps5
    go_wp2
    go_ret
    exact ⟨rfl, Below.refl _ _⟩
  have g1 : decide ((2147483647 : Int) < (s.size : Int)) = false := decide_eq_false (by omega)
  have HA := Aside0.mk (rAscii_calls s w (by omega))
  obtain ⟨b, hb⟩ : ∃ b, b = asciiB s := ⟨_, rfl⟩
  rw [← hb] at HA
  cases b with
  | false =>
    clear hb
    go_enter Tryd.func5, Tryd.ntmps5
    go_wp2_with (first
      | (go_at_call 21; (with_reducible refine HA.out.mono ?_); rintro e w1 ⟨rfl, hb⟩; have HB1 := Aside0.mk hb; clear hb HA)
      | go_in)
    go_ret
    exact ⟨rfl, HB1.out⟩
  | true =>
    by_cases hm : s.size ≤ 2000
    case neg =>
      have g2 : decide ((2000 : Int) < (s.size : Int)) = true := decide_eq_true (by omega)
      clear hb
      go_enter Tryd.func5, Tryd.ntmps5
      go_wp2_with (first
        | (go_at_call 21; (with_reducible refine HA.out.mono ?_); rintro e w1 ⟨rfl, hb⟩; have HB1 := Aside0.mk hb; clear hb HA)
        | go_in)
      go_ret
      exact ⟨rfl, HB1.out⟩
    have g2 : decide ((2000 : Int) < (s.size : Int)) = false := decide_eq_false (by omega)
    have hI : ∀ W, Below w.heap.size w W → _ := fun W h => implParse_calls s W (hP.below h) (Lib.tabBelow_of_tabIs hS W h) hb.symm (by omega)
    have hR : ∀ W, _ := fun W => rParse_calls s W (by omega) hb.symm
    have hlen : (parseC (fsB s)).1.length ≤ 4294967200 := by have := fsB_len s; have := parseC_len (fsB s); omega
    have hin : ∀ o ∈ (parseC (fsB s)).1, o.length < 9223372036854775807 := fun o ho => by
      obtain ⟨f, hf, rfl⟩ := parseC_at _ o ho
      have h1 := (fsB_mem s hb.symm hf).2
      have h2 := splitB_len f
      omega
    obtain ⟨pc, hq⟩ : ∃ p, p = parseC (fsB s) := ⟨_, rfl⟩
    simp only [← hq] at hI hR hlen hin
    obtain ⟨l, ok⟩ := pc
    clear hq hb
    simp only at hI hR hlen hin
    have HI := Aside0.mk hI
    have HR := Aside0.mk hR
    have HL := Aside0.mk hlen
    have HN := Aside0.mk hin
    clear hI hR hlen hin
    cases ok with
    | false =>
      go_enter Tryd.func5, Tryd.ntmps5
      go_wp2_with (first
        | (go_at_call 21; (with_reducible refine HA.out.mono ?_); rintro e w1 ⟨rfl, hb⟩; have HB1 := Aside0.mk hb; clear hb HA)
        | (go_at_call 22; (with_reducible refine (HI.out _ HB1.out).mono ?_); rintro e w2 ⟨A2, c2, rfl, hc2, hC2, hb⟩; have HB2 := Aside0.mk (below_step HB1.out hb); clear hb HI)
        | (go_at_call 23; (with_reducible refine (HR.out _).mono ?_); rintro e w3 ⟨A3, c3, rfl, hc3, hC3, hb⟩; have HB3 := Aside0.mk (below_step HB2.out hb); clear hb HR)
        | go_in)
      go_ret
      exact ⟨rfl, HB3.out⟩
    | true =>
      go_enter Tryd.func5, Tryd.ntmps5
      go_wp2_with (first
        | (go_at_call 21; (with_reducible refine HA.out.mono ?_); rintro e w1 ⟨rfl, hb⟩; have HB1 := Aside0.mk hb; clear hb HA)
        | (go_at_call 22; (with_reducible refine (HI.out _ HB1.out).mono ?_); rintro e w2 ⟨A2, c2, rfl, hc2, hC2, hb⟩; have HB2 := Aside0.mk (below_step HB1.out hb); have HC2 := Aside0.mk hC2; clear hb HI hC2)
        | (go_at_call 23; (with_reducible refine (HR.out _).mono ?_); rintro e w3 ⟨A3, c3, rfl, hc3, hC3, hb⟩; have HB3 := Aside0.mk (below_step HB2.out hb); have HC23 := Aside0.mk (Kd.C_below HC2.out hb); have HC3 := Aside0.mk hC3; clear hb HR hC3)
        | (go_at_call 24; (with_reducible refine (rOptions_calls A2 c2 A3 c3 l _ (by have := HL.out; omega) HN.out HC23.out hc2 HC3.out hc3).mono ?_); rintro e w4 ⟨rfl, hb⟩; have HB4 := Aside0.mk (below_step HB3.out hb); clear hb)
        | go_in)
      go_ret
      exact ⟨rfl, HB4.out⟩
end Go.Proofs.YtlmmjchdfngdgaaDoor.Q
