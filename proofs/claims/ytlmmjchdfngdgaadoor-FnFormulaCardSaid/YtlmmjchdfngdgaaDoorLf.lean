/- The walk of the law FnFormula: it answers true. -/
import Derived.Test.YtlmmjchdfngdgaaDoorPg
import Derived.Test.YtlmmjchdfngdgaaDoorLw
namespace Go.Proofs.YtlmmjchdfngdgaaDoor.Q
open Go.RowKit Go.Maps Go.Proofs.YtlmmjchdfngdgaaDoorW.PrintWords Go.Proofs.YtlmmjchdfngdgaaDoorW.PrintLast Go.Proofs.YtlmmjchdfngdgaaDoorW.PrintMore Go.Proofs.YtlmmjchdfngdgaaDoor.Pure
set_option linter.unusedVariables false
theorem info23 : (Tryd.prog.info? 23).map (fun i => (i.zero, i.size, i.bytes)) = some (some (.slice none 0 0), 1, 24) := by kernel_rfl
theorem info24 : (Tryd.prog.info? 24).map (fun i => (i.zero, i.size, i.bytes)) = some (some (.slice none 0 0), 1, 24) := by kernel_rfl
theorem info9 : (Tryd.prog.info? 9).map (fun i => (i.zero, i.size, i.bytes)) = some (some (.string ⟨#[]⟩), 1, 16) := by kernel_rfl
theorem str_more {w w2 : World} {ok : Nat → Prop} {v : Value} {o : List ByteArray} {s : ByteArray} (HR : Kd.string.R 9 w2 w.heap.size ok v (o ++ [s])) : ∃ A c, v = .slice A (o ++ [s]).length c ∧ (o ++ [s]).length ≤ c ∧ Kd.C Kd.string w2 A (o ++ [s]).length (o ++ [s]) := Kd.R_reads HR
theorem str_lit_C (W : World) (s : ByteArray) : Kd.C Kd.string (W.alloc (Obj.cells #[Value.string s] 9)) (some ⟨W.heap.size, 0, none⟩) 1 [s] := C_one (cs := [Value.string s]) (blk_new W _) rfl rfl
theorem hdr_lit_C (W : World) (e : TypeId) (A : Option Addr) (n c : Nat) : KV.C (W.alloc (Obj.cells #[Value.slice A n c] e)) (some ⟨W.heap.size, 0, none⟩) 1 [hdr A n c] := C_blk (vs := [hdr A n c]) (blk_new W _) (by simp)
set_option maxHeartbeats 16000000 in
set_option maxRecDepth 100000 in
theorem fnFormula_calls (A0 : Option Addr) (c0 : Nat) (cs : List (List (List ByteArray))) (A1 : Option Addr) (c1 : Nat) (c : List (List ByteArray)) (A2 : Option Addr) (c2 : Nat) (o : List ByteArray) (name : ByteArray) (A4 : Option Addr) (c4 : Nat) (tags : List ByteArray) (w : World) (hP : Tabs w)
    (hr0 : Kd.C (Kd.slice 24 (Kd.slice 9 Kd.string)) w A0 cs.length cs) (hc0 : cs.length ≤ c0) (hr1 : Kd.C (Kd.slice 9 Kd.string) w A1 c.length c) (hc1 : c.length ≤ c1) (hr2 : Kd.C Kd.string w A2 o.length o) (hc2 : o.length ≤ c2) (hr4 : Kd.C Kd.string w A4 tags.length tags) (hc4 : tags.length ≤ c4) :
    Calls Tryd.prog 3 #[.slice A0 cs.length c0, .slice A1 c.length c1, .slice A2 o.length c2, .string name, .slice A4 tags.length c4] w fun e w' => e = .returned (.bool true) ∧ Below w.heap.size w w' := by
  have HP := Aside0.mk hP
  have HR0 := Aside0.mk hr0
  have HR1 := Aside0.mk hr1
  have HR2 := Aside0.mk hr2
  have HR4 := Aside0.mk hr4
  clear hP hr0 hr1 hr2 hr4
  have HB := Aside0.mk (Below.refl w.heap.size w)
  obtain ⟨b0, hb0⟩ : ∃ b, b = fit20 cs := ⟨_, rfl⟩
  obtain ⟨b1, hb1⟩ : ∃ b, b = fit19 c := ⟨_, rfl⟩
  obtain ⟨b2, hb2⟩ : ∃ b, b = fit7 o := ⟨_, rfl⟩
  obtain ⟨b4, hb4⟩ : ∃ b, b = fit7 tags := ⟨_, rfl⟩
  have H0 := Aside0.mk hb0
  have H1 := Aside0.mk hb1
  have H2 := Aside0.mk hb2
  have H4 := Aside0.mk hb4
  clear hb0 hb1 hb2 hb4
  have F0 : Aside0 (∀ W, Below w.heap.size w W → Calls Tryd.prog 7 #[.slice A0 cs.length c0] W fun e w' => e = .returned (.bool b0) ∧ Below w.heap.size w w') := ⟨fun W h => (fit20_calls A0 c0 W cs (Kd.C_below HR0.out h) hc0).mono fun e w' ⟨h1, h2⟩ => ⟨by rw [h1, H0.out], below_step h h2⟩⟩
  have F1 : Aside0 (∀ W, Below w.heap.size w W → Calls Tryd.prog 8 #[.slice A1 c.length c1] W fun e w' => e = .returned (.bool b1) ∧ Below w.heap.size w w') := ⟨fun W h => (fit19_calls A1 c1 W c (Kd.C_below HR1.out h) hc1).mono fun e w' ⟨h1, h2⟩ => ⟨by rw [h1, H1.out], below_step h h2⟩⟩
  have F2 : Aside0 (∀ W, Below w.heap.size w W → Calls Tryd.prog 9 #[.slice A2 o.length c2] W fun e w' => e = .returned (.bool b2) ∧ Below w.heap.size w w') := ⟨fun W h => (fit7_calls A2 c2 W o (Kd.C_below HR2.out h) hc2).mono fun e w' ⟨h1, h2⟩ => ⟨by rw [h1, H2.out], below_step h h2⟩⟩
  have F4 : Aside0 (∀ W, Below w.heap.size w W → Calls Tryd.prog 9 #[.slice A4 tags.length c4] W fun e w' => e = .returned (.bool b4) ∧ Below w.heap.size w w') := ⟨fun W h => (fit7_calls A4 c4 W tags (Kd.C_below HR4.out h) hc4).mono fun e w' ⟨h1, h2⟩ => ⟨by rw [h1, H4.out], below_step h h2⟩⟩
  cases b0 with
  | false =>
    go_enter Tryd.func3, Tryd.ntmps3
    go_wp2_with (first
      | (go_at_call 7; (with_reducible refine (F0.out _ HB.out).mono ?_); rintro e w1 ⟨rfl, hb⟩; have HB1 := Aside0.mk hb; clear hb F0)
      | go_in)
    go_ret
    exact ⟨rfl, HB1.out⟩
  | true =>
    cases b1 with
    | false =>
      go_enter Tryd.func3, Tryd.ntmps3
      go_wp2_with (first
        | (go_at_call 7; (with_reducible refine (F0.out _ HB.out).mono ?_); rintro e w1 ⟨rfl, hb⟩; have HB1 := Aside0.mk hb; clear hb F0)
        | (go_at_call 8; (with_reducible refine (F1.out _ HB1.out).mono ?_); rintro e w2 ⟨rfl, hb⟩; have HB2 := Aside0.mk hb; clear hb F1)
        | go_in)
      go_ret
      exact ⟨rfl, HB2.out⟩
    | true =>
      cases b2 with
      | false =>
        go_enter Tryd.func3, Tryd.ntmps3
        go_wp2_with (first
          | (go_at_call 7; (with_reducible refine (F0.out _ HB.out).mono ?_); rintro e w1 ⟨rfl, hb⟩; have HB1 := Aside0.mk hb; clear hb F0)
          | (go_at_call 8; (with_reducible refine (F1.out _ HB1.out).mono ?_); rintro e w2 ⟨rfl, hb⟩; have HB2 := Aside0.mk hb; clear hb F1)
          | (go_at_call 9; (with_reducible refine (F2.out _ HB2.out).mono ?_); rintro e w3 ⟨rfl, hb⟩; have HB3 := Aside0.mk hb; clear hb F2)
          | go_in)
        go_ret
        exact ⟨rfl, HB3.out⟩
      | true =>
        by_cases hn : name.size ≤ 2147483647
        case neg =>
          have g1 : decide ((2147483647 : Int) < (name.size : Int)) = true := decide_eq_true (by omega)
          go_enter Tryd.func3, Tryd.ntmps3
          go_wp2_with (first
            | (go_at_call 7; (with_reducible refine (F0.out _ HB.out).mono ?_); rintro e w1 ⟨rfl, hb⟩; have HB1 := Aside0.mk hb; clear hb F0)
            | (go_at_call 8; (with_reducible refine (F1.out _ HB1.out).mono ?_); rintro e w2 ⟨rfl, hb⟩; have HB2 := Aside0.mk hb; clear hb F1)
            | (go_at_call 9; (with_reducible refine (F2.out _ HB2.out).mono ?_); rintro e w3 ⟨rfl, hb⟩; have HB3 := Aside0.mk hb; clear hb F2)
            | go_in)
          go_ret
          exact ⟨rfl, HB3.out⟩
        have g1 : decide ((2147483647 : Int) < (name.size : Int)) = false := decide_eq_false (by omega)
        cases b4 with
        | false =>
          go_enter Tryd.func3, Tryd.ntmps3
          go_wp2_with (first
            | (go_at_call 7; (with_reducible refine (F0.out _ HB.out).mono ?_); rintro e w1 ⟨rfl, hb⟩; have HB1 := Aside0.mk hb; clear hb F0)
            | (go_at_call 8; (with_reducible refine (F1.out _ HB1.out).mono ?_); rintro e w2 ⟨rfl, hb⟩; have HB2 := Aside0.mk hb; clear hb F1)
            | (go_at_call 9; (with_reducible refine (F2.out _ HB2.out).mono ?_); rintro e w3 ⟨rfl, hb⟩; have HB3 := Aside0.mk hb; clear hb F2)
            | (go_at_call 9; (with_reducible refine (F4.out _ HB3.out).mono ?_); rintro e w4 ⟨rfl, hb⟩; have HB4 := Aside0.mk hb; clear hb F4)
            | go_in)
          go_ret
          exact ⟨rfl, HB4.out⟩
        | true =>
          obtain ⟨vcs, hvc, hvl, hvk⟩ := row_split HR0.out
          obtain ⟨vc, huc, hul, huk⟩ := row_split HR1.out
          have HV0 := Aside0.mk hvc
          have HV1 := Aside0.mk huc
          have HVK := Aside0.mk hvk
          have HUK := Aside0.mk huk
          have HN := Aside0.mk hn
          have l0 := fit20_len H0.out.symm
          have l1 := fit19_len H1.out.symm
          have l2 := fit7_len H2.out.symm
          have l4 := fit7_len H4.out.symm
          clear hvc huc hvk huk
          obtain ⟨big, hbig⟩ : ∃ b, b = cs ++ [c, [o, [name]]] := ⟨_, rfl⟩
          obtain ⟨b5, hb5⟩ : ∃ b, b = termsB big tags := ⟨_, rfl⟩
          have HBIG := Aside0.mk hbig
          have H5 := Aside0.mk hb5
          clear hbig hb5
          have F5 : Aside0 (∀ W A n, Below w.heap.size w W → Kd.C (Kd.slice 24 (Kd.slice 9 Kd.string)) W A big.length big → big.length ≤ n → Calls Tryd.prog 10 #[.slice A big.length n, .slice A4 tags.length c4] W fun e w' => e = .returned (.bool b5) ∧ Below w.heap.size w w') := ⟨fun W A n h hC hn => (termsw_calls A n A4 c4 W big tags (by rw [HBIG.out]; exact len20_big H0.out.symm H1.out.symm H2.out.symm HN.out) hC hn (Kd.C_below HR4.out h) hc4).mono fun e w' ⟨h1, h2⟩ => ⟨by rw [h1, H5.out], below_step h h2⟩⟩
          have hadd : (⟨#[33]⟩ : ByteArray).size + name.size ≤ 9223372036854775807 := by have : (⟨#[33]⟩ : ByteArray).size = 1 := rfl; omega
          have hadd1 : 1 + name.size ≤ 9223372036854775807 := by omega
          cases b5 with
          | false =>
            go_enter Tryd.func3, Tryd.ntmps3
            go_wp2_with (first
              | (go_at_call 7; (with_reducible refine (F0.out _ HB.out).mono ?_); rintro e w1 ⟨rfl, hb⟩; have HB1 := Aside0.mk hb; clear hb F0)
              | (go_at_call 8; (with_reducible refine (F1.out _ HB1.out).mono ?_); rintro e w2 ⟨rfl, hb⟩; have HB2 := Aside0.mk hb; clear hb F1)
              | (go_at_call 9; (with_reducible refine (F2.out _ HB2.out).mono ?_); rintro e w3 ⟨rfl, hb⟩; have HB3 := Aside0.mk hb; clear hb F2)
              | (go_at_call 9; (with_reducible refine (F4.out _ HB3.out).mono ?_); rintro e w4 ⟨rfl, hb⟩; have HB4 := Aside0.mk hb; clear hb F4)
              | ((with_reducible refine gate_builtin (b := .append) (xs := #[.tmp 37, .tmp 38]) rfl ?_); at_builtin; refine Kd.R_append_row Subtype.val v0 (h1 := v1_one) (w0 := w) w.heap.size rfl (.tmp 37) (.tmp 38) 22 23 (.slice none 0 0) 24 rfl Tryd.underlying22 info23 rfl (by decide) (.slice (some ⟨w4.heap.size, 0, none⟩) 0 0) [] vcs A0 cs.length c0 (fun k => w.heap.size ≤ k) rfl rfl (fun k hk => Nat.le_trans (below_alloc HB4.out _).size hk) (lit_own w.heap.size _ w4 23 [] HB4.out.size HB4.out.size (by decide)) (Kd.C_below HV0.out (below_alloc HB4.out _)) (below_alloc HB4.out _) (below_alloc HB4.out _).size (by simp only [List.length_nil]; omega) ?_; intro v39 w39 ho hb hg hat; have HO39 := Aside0.mk ho; have HB39 := Aside0.mk hb; clear ho hb hg hat; go_frame)
              | ((with_reducible refine gate_builtin (b := .append) (xs := #[.tmp 39, .tmp 45]) rfl ?_); at_builtin; refine Kd.R_append_row Subtype.val v0 (h1 := v1_one) (w0 := w) w.heap.size rfl (.tmp 39) (.tmp 45) 22 23 (.slice none 0 0) 24 rfl Tryd.underlying22 info23 rfl (by decide) v39 vcs [hdr A1 c.length c1, hdr (some ⟨w39.heap.size + 1, 0, none⟩) 2 2] (some ⟨w39.heap.size + 1 + 1, 0, none⟩) 2 2 (fun k => w.heap.size ≤ k) rfl rfl (fun k hk => Nat.le_trans (lits3_below HB39.out A1 c.length c1 A2 o.length c2 name).size hk) (Kd.R_below HO39.out (lits3_below (Below.refl _ _) A1 c.length c1 A2 o.length c2 name)) (lits3_C w39 A1 c.length c1 A2 o.length c2 name) (lits3_below HB39.out A1 c.length c1 A2 o.length c2 name) (lits3_below HB39.out A1 c.length c1 A2 o.length c2 name).size (by omega) ?_; intro v46 w46 ho hb hg hat; obtain ⟨A46, n46, he, hn46, hC⟩ := formula_big HO39.out HR1.out hc1 HR2.out hc2 hvl HVK.out ho hb hg; rw [← HBIG.out] at he hn46 hC; subst he; have HC46 := Aside0.mk hC; have HB46 := Aside0.mk hb; clear hC ho hb hg hat; go_frame)
              | (go_at_call 10; (with_reducible refine (F5.out _ _ _ HB46.out HC46.out hn46).mono ?_); rintro e w5 ⟨rfl, hb⟩; have HB5 := Aside0.mk hb; clear hb F5)
              | go_in)
            go_ret
            exact ⟨rfl, HB5.out⟩
          | true =>
            have hasc := termsB_ascii (HBIG.out ▸ H5.out.symm)
            obtain ⟨ha0, ha1, ha2, ha3⟩ := hasc
            have ha4 := ascii_not ha3
            unfold notT at ha4
            obtain ⟨b6, hb6⟩ : ∃ b, b = validB name := ⟨_, rfl⟩
            obtain ⟨b7, hb7⟩ : ∃ b, b = validB ((⟨#[33]⟩ : ByteArray) ++ name) := ⟨_, rfl⟩
            have H6 := Aside0.mk hb6
            have H7 := Aside0.mk hb7
            clear hb6 hb7
            have F6 : Aside0 (∀ W, Below w.heap.size w W → Calls Tryd.prog 11 #[.string name] W fun e w' => e = .returned (.bool b6) ∧ Below w.heap.size w w') := ⟨fun W h => (sTermValid_calls W name (by have := HN.out; omega) ha3).mono fun e w' ⟨h1, h2⟩ => ⟨by rw [h1, H6.out], below_step h h2⟩⟩
            have F7 : Aside0 (∀ W, Below w.heap.size w W → Calls Tryd.prog 11 #[.string ((⟨#[33]⟩ : ByteArray) ++ name)] W fun e w' => e = .returned (.bool b7) ∧ Below w.heap.size w w') := ⟨fun W h => (sTermValid_calls W ((⟨#[33]⟩ : ByteArray) ++ name) (by have := HN.out; have : (⟨#[33]⟩ : ByteArray).size = 1 := rfl; simp only [ByteArray.size_append]; omega) ha4).mono fun e w' ⟨h1, h2⟩ => ⟨by rw [h1, H7.out], below_step h h2⟩⟩
            cases b6 with
            | false =>
              go_enter Tryd.func3, Tryd.ntmps3
              go_wp2_with (first
                | (go_at_call 7; (with_reducible refine (F0.out _ HB.out).mono ?_); rintro e w1 ⟨rfl, hb⟩; have HB1 := Aside0.mk hb; clear hb F0)
                | (go_at_call 8; (with_reducible refine (F1.out _ HB1.out).mono ?_); rintro e w2 ⟨rfl, hb⟩; have HB2 := Aside0.mk hb; clear hb F1)
                | (go_at_call 9; (with_reducible refine (F2.out _ HB2.out).mono ?_); rintro e w3 ⟨rfl, hb⟩; have HB3 := Aside0.mk hb; clear hb F2)
                | (go_at_call 9; (with_reducible refine (F4.out _ HB3.out).mono ?_); rintro e w4 ⟨rfl, hb⟩; have HB4 := Aside0.mk hb; clear hb F4)
                | ((with_reducible refine gate_builtin (b := .append) (xs := #[.tmp 37, .tmp 38]) rfl ?_); at_builtin; refine Kd.R_append_row Subtype.val v0 (h1 := v1_one) (w0 := w) w.heap.size rfl (.tmp 37) (.tmp 38) 22 23 (.slice none 0 0) 24 rfl Tryd.underlying22 info23 rfl (by decide) (.slice (some ⟨w4.heap.size, 0, none⟩) 0 0) [] vcs A0 cs.length c0 (fun k => w.heap.size ≤ k) rfl rfl (fun k hk => Nat.le_trans (below_alloc HB4.out _).size hk) (lit_own w.heap.size _ w4 23 [] HB4.out.size HB4.out.size (by decide)) (Kd.C_below HV0.out (below_alloc HB4.out _)) (below_alloc HB4.out _) (below_alloc HB4.out _).size (by simp only [List.length_nil]; omega) ?_; intro v39 w39 ho hb hg hat; have HO39 := Aside0.mk ho; have HB39 := Aside0.mk hb; clear ho hb hg hat; go_frame)
                | ((with_reducible refine gate_builtin (b := .append) (xs := #[.tmp 39, .tmp 45]) rfl ?_); at_builtin; refine Kd.R_append_row Subtype.val v0 (h1 := v1_one) (w0 := w) w.heap.size rfl (.tmp 39) (.tmp 45) 22 23 (.slice none 0 0) 24 rfl Tryd.underlying22 info23 rfl (by decide) v39 vcs [hdr A1 c.length c1, hdr (some ⟨w39.heap.size + 1, 0, none⟩) 2 2] (some ⟨w39.heap.size + 1 + 1, 0, none⟩) 2 2 (fun k => w.heap.size ≤ k) rfl rfl (fun k hk => Nat.le_trans (lits3_below HB39.out A1 c.length c1 A2 o.length c2 name).size hk) (Kd.R_below HO39.out (lits3_below (Below.refl _ _) A1 c.length c1 A2 o.length c2 name)) (lits3_C w39 A1 c.length c1 A2 o.length c2 name) (lits3_below HB39.out A1 c.length c1 A2 o.length c2 name) (lits3_below HB39.out A1 c.length c1 A2 o.length c2 name).size (by omega) ?_; intro v46 w46 ho hb hg hat; obtain ⟨A46, n46, he, hn46, hC⟩ := formula_big HO39.out HR1.out hc1 HR2.out hc2 hvl HVK.out ho hb hg; rw [← HBIG.out] at he hn46 hC; subst he; have HC46 := Aside0.mk hC; have HB46 := Aside0.mk hb; clear hC ho hb hg hat; go_frame)
                | (go_at_call 10; (with_reducible refine (F5.out _ _ _ HB46.out HC46.out hn46).mono ?_); rintro e w5 ⟨rfl, hb⟩; have HB5 := Aside0.mk hb; clear hb F5)
                | (go_at_call 11; (with_reducible refine (F6.out _ HB5.out).mono ?_); rintro e w6 ⟨rfl, hb⟩; have HB6 := Aside0.mk hb; clear hb F6)
                | go_in)
              go_ret
              exact ⟨rfl, HB6.out⟩
            | true =>
              cases b7 with
              | false =>
                go_enter Tryd.func3, Tryd.ntmps3
                go_wp2_with (first
                  | (go_at_call 7; (with_reducible refine (F0.out _ HB.out).mono ?_); rintro e w1 ⟨rfl, hb⟩; have HB1 := Aside0.mk hb; clear hb F0)
                  | (go_at_call 8; (with_reducible refine (F1.out _ HB1.out).mono ?_); rintro e w2 ⟨rfl, hb⟩; have HB2 := Aside0.mk hb; clear hb F1)
                  | (go_at_call 9; (with_reducible refine (F2.out _ HB2.out).mono ?_); rintro e w3 ⟨rfl, hb⟩; have HB3 := Aside0.mk hb; clear hb F2)
                  | (go_at_call 9; (with_reducible refine (F4.out _ HB3.out).mono ?_); rintro e w4 ⟨rfl, hb⟩; have HB4 := Aside0.mk hb; clear hb F4)
                  | ((with_reducible refine gate_builtin (b := .append) (xs := #[.tmp 37, .tmp 38]) rfl ?_); at_builtin; refine Kd.R_append_row Subtype.val v0 (h1 := v1_one) (w0 := w) w.heap.size rfl (.tmp 37) (.tmp 38) 22 23 (.slice none 0 0) 24 rfl Tryd.underlying22 info23 rfl (by decide) (.slice (some ⟨w4.heap.size, 0, none⟩) 0 0) [] vcs A0 cs.length c0 (fun k => w.heap.size ≤ k) rfl rfl (fun k hk => Nat.le_trans (below_alloc HB4.out _).size hk) (lit_own w.heap.size _ w4 23 [] HB4.out.size HB4.out.size (by decide)) (Kd.C_below HV0.out (below_alloc HB4.out _)) (below_alloc HB4.out _) (below_alloc HB4.out _).size (by simp only [List.length_nil]; omega) ?_; intro v39 w39 ho hb hg hat; have HO39 := Aside0.mk ho; have HB39 := Aside0.mk hb; clear ho hb hg hat; go_frame)
                  | ((with_reducible refine gate_builtin (b := .append) (xs := #[.tmp 39, .tmp 45]) rfl ?_); at_builtin; refine Kd.R_append_row Subtype.val v0 (h1 := v1_one) (w0 := w) w.heap.size rfl (.tmp 39) (.tmp 45) 22 23 (.slice none 0 0) 24 rfl Tryd.underlying22 info23 rfl (by decide) v39 vcs [hdr A1 c.length c1, hdr (some ⟨w39.heap.size + 1, 0, none⟩) 2 2] (some ⟨w39.heap.size + 1 + 1, 0, none⟩) 2 2 (fun k => w.heap.size ≤ k) rfl rfl (fun k hk => Nat.le_trans (lits3_below HB39.out A1 c.length c1 A2 o.length c2 name).size hk) (Kd.R_below HO39.out (lits3_below (Below.refl _ _) A1 c.length c1 A2 o.length c2 name)) (lits3_C w39 A1 c.length c1 A2 o.length c2 name) (lits3_below HB39.out A1 c.length c1 A2 o.length c2 name) (lits3_below HB39.out A1 c.length c1 A2 o.length c2 name).size (by omega) ?_; intro v46 w46 ho hb hg hat; obtain ⟨A46, n46, he, hn46, hC⟩ := formula_big HO39.out HR1.out hc1 HR2.out hc2 hvl HVK.out ho hb hg; rw [← HBIG.out] at he hn46 hC; subst he; have HC46 := Aside0.mk hC; have HB46 := Aside0.mk hb; clear hC ho hb hg hat; go_frame)
                  | (go_at_call 10; (with_reducible refine (F5.out _ _ _ HB46.out HC46.out hn46).mono ?_); rintro e w5 ⟨rfl, hb⟩; have HB5 := Aside0.mk hb; clear hb F5)
                  | (go_at_call 11; (with_reducible refine (F6.out _ HB5.out).mono ?_); rintro e w6 ⟨rfl, hb⟩; have HB6 := Aside0.mk hb; clear hb F6)
                  | (go_at_call 11; (with_reducible refine (F7.out _ HB6.out).mono ?_); rintro e w7 ⟨rfl, hb⟩; have HB7 := Aside0.mk hb; clear hb F7)
                  | go_in)
                go_ret
                exact ⟨rfl, HB7.out⟩
              | true =>
                have hE := eval_not (tags := tags) H6.out.symm H7.out.symm
                unfold notT at hE
                have k0 := okCs_of H0.out.symm ha0
                have k1 := okC_of H1.out.symm ha1
                have k2 := okO_of H2.out.symm ha2
                have k4 := okTags_of H4.out.symm
                have k3 : okO [name] = true := by have := HN.out; simp [okO, ha3]; omega
                have k5 : okO [((⟨#[33]⟩ : ByteArray) ++ name)] = true := by have := HN.out; have e33 : (⟨#[33]⟩ : ByteArray).size = 1 := rfl; simp only [okO, List.all_cons, List.all_nil, Bool.and_true, ha4, Bool.true_and, ByteArray.size_append, e33, decide_eq_true_eq]; omega
                obtain ⟨onm, honm⟩ : ∃ b, b = o ++ [name] := ⟨_, rfl⟩
                obtain ⟨c14, hc14⟩ : ∃ b, b = c ++ [o] := ⟨_, rfl⟩
                obtain ⟨cs15, hcs15⟩ : ∃ b, b = cs ++ [c] := ⟨_, rfl⟩
                have HONM := Aside0.mk honm
                have HC14 := Aside0.mk hc14
                have HCS15 := Aside0.mk hcs15
                have q0 : okO onm = true := by rw [honm]; have h1 := k2; have h2 := k3; unfold okO at h1 h2 ⊢; rw [List.all_append, h1, h2]; rfl
                have q1 : okC c14 = true := by rw [hc14]; have h1 := k1; unfold okC at h1 ⊢; rw [List.all_append, h1]; simp [k2]; omega
                have q2 : okCs cs15 = true := by rw [hcs15]; have h1 := k0; unfold okCs at h1 ⊢; rw [List.all_append, h1]; simp [k1]; omega
                have m0 : onm.length ≤ 2147483648 := by rw [honm]; simp; omega
                have m1 : c14.length ≤ 2147483648 := by rw [hc14]; simp; omega
                have m2 : cs15.length ≤ 2147483648 := by rw [hcs15]; simp; omega
                obtain ⟨e1, he1⟩ : ∃ b, b = evalT name tags := ⟨_, rfl⟩
                obtain ⟨was, hwas⟩ : ∃ b, b = evalO o tags := ⟨_, rfl⟩
                obtain ⟨al, hal⟩ : ∃ b, b = evalC c tags := ⟨_, rfl⟩
                obtain ⟨acs, hacs⟩ : ∃ b, b = evalCs cs tags := ⟨_, rfl⟩
                rw [← he1] at hE
                have G0 : evalO onm tags = (was && e1) := by rw [honm, evalO_append, ← hwas, ← he1]
                have G1 : evalC c14 tags = (al || was) := by rw [hc14, evalC_append, ← hal, ← hwas]
                have G2 : evalCs cs15 tags = (acs && al) := by rw [hcs15, evalCs_append, ← hacs, ← hal]
                clear honm hc14 hcs15
                have F8 : Aside0 (∀ W, Below w.heap.size w W → Calls Tryd.prog 12 #[.string name, .slice A4 tags.length c4] W fun e w' => e = .returned (.bool e1) ∧ Below w.heap.size w w') := ⟨fun W h => (iTermEval_calls A4 c4 W (HP.out.below h) name tags k3 k4 (by omega) (Kd.C_below HR4.out h) hc4).mono fun e w' ⟨h1, h2⟩ => ⟨by rw [h1, he1], below_step h h2⟩⟩
                have F9 : Aside0 (∀ W, Below w.heap.size w W → Calls Tryd.prog 12 #[.string ((⟨#[33]⟩ : ByteArray) ++ name), .slice A4 tags.length c4] W fun e w' => e = .returned (.bool (!e1)) ∧ Below w.heap.size w w') := ⟨fun W h => (iTermEval_calls A4 c4 W (HP.out.below h) ((⟨#[33]⟩ : ByteArray) ++ name) tags k5 k4 (by omega) (Kd.C_below HR4.out h) hc4).mono fun e w' ⟨h1, h2⟩ => ⟨by rw [h1, hE], below_step h h2⟩⟩
                have F11 : Aside0 (∀ W, Below w.heap.size w W → Calls Tryd.prog 13 #[.slice A2 o.length c2, .slice A4 tags.length c4] W fun e w' => e = .returned (.bool was) ∧ Below w.heap.size w w') := ⟨fun W h => (iOptEval_calls A2 c2 A4 c4 W (HP.out.below h) o tags k2 k4 (by omega) (by omega) (Kd.C_below HR2.out h) hc2 (Kd.C_below HR4.out h) hc4).mono fun e w' ⟨h1, h2⟩ => ⟨by rw [h1, hwas], below_step h h2⟩⟩
                have F12 : Aside0 (∀ W A n, Below w.heap.size w W → Kd.C (Kd.string) W A onm.length onm → onm.length ≤ n → Calls Tryd.prog 13 #[.slice A onm.length n, .slice A4 tags.length c4] W fun e w' => e = .returned (.bool (was && e1)) ∧ Below w.heap.size w w') := ⟨fun W A n h hC hn => (iOptEval_calls A n A4 c4 W (HP.out.below h) onm tags q0 k4 (by omega) (by omega) hC hn (Kd.C_below HR4.out h) hc4).mono fun e w' ⟨h1, h2⟩ => ⟨by rw [h1, G0], below_step h h2⟩⟩
                have F13 : Aside0 (∀ W, Below w.heap.size w W → Calls Tryd.prog 14 #[.slice A1 c.length c1, .slice A4 tags.length c4] W fun e w' => e = .returned (.bool al) ∧ Below w.heap.size w w') := ⟨fun W h => (iConEval_calls A1 c1 A4 c4 W (HP.out.below h) c tags k1 k4 (by omega) (by omega) (Kd.C_below HR1.out h) hc1 (Kd.C_below HR4.out h) hc4).mono fun e w' ⟨h1, h2⟩ => ⟨by rw [h1, hal], below_step h h2⟩⟩
                have F14 : Aside0 (∀ W A n, Below w.heap.size w W → Kd.C (Kd.slice 9 Kd.string) W A c14.length c14 → c14.length ≤ n → Calls Tryd.prog 14 #[.slice A c14.length n, .slice A4 tags.length c4] W fun e w' => e = .returned (.bool (al || was)) ∧ Below w.heap.size w w') := ⟨fun W A n h hC hn => (iConEval_calls A n A4 c4 W (HP.out.below h) c14 tags q1 k4 (by omega) (by omega) hC hn (Kd.C_below HR4.out h) hc4).mono fun e w' ⟨h1, h2⟩ => ⟨by rw [h1, G1], below_step h h2⟩⟩
                have F15 : Aside0 (∀ W A n, Below w.heap.size w W → Kd.C (Kd.slice 24 (Kd.slice 9 Kd.string)) W A cs15.length cs15 → cs15.length ≤ n → Calls Tryd.prog 15 #[.slice A cs15.length n, .slice A4 tags.length c4] W fun e w' => e = .returned (.bool (acs && al)) ∧ Below w.heap.size w w') := ⟨fun W A n h hC hn => (iConsEval_calls A n A4 c4 W (HP.out.below h) cs15 tags q2 k4 (by omega) (by omega) hC hn (Kd.C_below HR4.out h) hc4).mono fun e w' ⟨h1, h2⟩ => ⟨by rw [h1, G2], below_step h h2⟩⟩
                have F16 : Aside0 (∀ W, Below w.heap.size w W → Calls Tryd.prog 15 #[.slice A0 cs.length c0, .slice A4 tags.length c4] W fun e w' => e = .returned (.bool acs) ∧ Below w.heap.size w w') := ⟨fun W h => (iConsEval_calls A0 c0 A4 c4 W (HP.out.below h) cs tags k0 k4 (by omega) (by omega) (Kd.C_below HR0.out h) hc0 (Kd.C_below HR4.out h) hc4).mono fun e w' ⟨h1, h2⟩ => ⟨by rw [h1, hacs], below_step h h2⟩⟩
                clear he1 hE hwas hal hacs G0 G1 G2 k0 k1 k2 k3 k4 k5 q0 q1 q2 m0 m1 m2 ha0 ha1 ha2 ha3 ha4
                cases e1 <;> cases was <;> cases al <;> cases acs
                all_goals
                  go_enter Tryd.func3, Tryd.ntmps3
                  go_wp2_with (first
                    | (go_at_call 7; (with_reducible refine (F0.out _ HB.out).mono ?_); rintro e w1 ⟨rfl, hb⟩; have HB1 := Aside0.mk hb; clear hb F0)
                    | (go_at_call 8; (with_reducible refine (F1.out _ HB1.out).mono ?_); rintro e w2 ⟨rfl, hb⟩; have HB2 := Aside0.mk hb; clear hb F1)
                    | (go_at_call 9; (with_reducible refine (F2.out _ HB2.out).mono ?_); rintro e w3 ⟨rfl, hb⟩; have HB3 := Aside0.mk hb; clear hb F2)
                    | (go_at_call 9; (with_reducible refine (F4.out _ HB3.out).mono ?_); rintro e w4 ⟨rfl, hb⟩; have HB4 := Aside0.mk hb; clear hb F4)
                    | ((with_reducible refine gate_builtin (b := .append) (xs := #[.tmp 37, .tmp 38]) rfl ?_); at_builtin; refine Kd.R_append_row Subtype.val v0 (h1 := v1_one) (w0 := w) w.heap.size rfl (.tmp 37) (.tmp 38) 22 23 (.slice none 0 0) 24 rfl Tryd.underlying22 info23 rfl (by decide) (.slice (some ⟨w4.heap.size, 0, none⟩) 0 0) [] vcs A0 cs.length c0 (fun k => w.heap.size ≤ k) rfl rfl (fun k hk => Nat.le_trans (below_alloc HB4.out _).size hk) (lit_own w.heap.size _ w4 23 [] HB4.out.size HB4.out.size (by decide)) (Kd.C_below HV0.out (below_alloc HB4.out _)) (below_alloc HB4.out _) (below_alloc HB4.out _).size (by simp only [List.length_nil]; omega) ?_; intro v39 w39 ho hb hg hat; have HO39 := Aside0.mk ho; have HB39 := Aside0.mk hb; clear ho hb hg hat; go_frame)
                    | ((with_reducible refine gate_builtin (b := .append) (xs := #[.tmp 39, .tmp 45]) rfl ?_); at_builtin; refine Kd.R_append_row Subtype.val v0 (h1 := v1_one) (w0 := w) w.heap.size rfl (.tmp 39) (.tmp 45) 22 23 (.slice none 0 0) 24 rfl Tryd.underlying22 info23 rfl (by decide) v39 vcs [hdr A1 c.length c1, hdr (some ⟨w39.heap.size + 1, 0, none⟩) 2 2] (some ⟨w39.heap.size + 1 + 1, 0, none⟩) 2 2 (fun k => w.heap.size ≤ k) rfl rfl (fun k hk => Nat.le_trans (lits3_below HB39.out A1 c.length c1 A2 o.length c2 name).size hk) (Kd.R_below HO39.out (lits3_below (Below.refl _ _) A1 c.length c1 A2 o.length c2 name)) (lits3_C w39 A1 c.length c1 A2 o.length c2 name) (lits3_below HB39.out A1 c.length c1 A2 o.length c2 name) (lits3_below HB39.out A1 c.length c1 A2 o.length c2 name).size (by omega) ?_; intro v46 w46 ho hb hg hat; obtain ⟨A46, n46, he, hn46, hC⟩ := formula_big HO39.out HR1.out hc1 HR2.out hc2 hvl HVK.out ho hb hg; rw [← HBIG.out] at he hn46 hC; subst he; have HC46 := Aside0.mk hC; have HB46 := Aside0.mk hb; clear hC ho hb hg hat; go_frame)
                    | (go_at_call 10; (with_reducible refine (F5.out _ _ _ HB46.out HC46.out hn46).mono ?_); rintro e w5 ⟨rfl, hb⟩; have HB5 := Aside0.mk hb; clear hb F5)
                    | (go_at_call 11; (with_reducible refine (F6.out _ HB5.out).mono ?_); rintro e w6 ⟨rfl, hb⟩; have HB6 := Aside0.mk hb; clear hb F6)
                    | (go_at_call 11; (with_reducible refine (F7.out _ HB6.out).mono ?_); rintro e w7 ⟨rfl, hb⟩; have HB7 := Aside0.mk hb; clear hb F7)
                    | (go_at_call 12; (with_reducible refine (F8.out _ HB7.out).mono ?_); rintro e w8 ⟨rfl, hb⟩; have HB8 := Aside0.mk hb; clear hb)
                    | (go_at_call 12; (with_reducible refine (F9.out _ HB8.out).mono ?_); rintro e w9 ⟨rfl, hb⟩; have HB9 := Aside0.mk hb; clear hb F9)
                    | (go_at_call 12; (with_reducible refine (F8.out _ HB9.out).mono ?_); rintro e w10 ⟨rfl, hb⟩; have HB10 := Aside0.mk hb; clear hb F8)
                    | (go_at_call 13; (with_reducible refine (F11.out _ HB10.out).mono ?_); rintro e w11 ⟨rfl, hb⟩; have HB11 := Aside0.mk hb; clear hb F11)
                    | ((with_reducible refine gate_builtin (b := .append) (xs := #[.tmp 75, .tmp 76]) rfl ?_); at_builtin; refine Kd.R_append_row Value.string ByteArray.empty (h1 := fun _ => rfl) (w0 := w) w.heap.size rfl (.tmp 75) (.tmp 76) 24 9 (.string ⟨#[]⟩) 16 rfl Tryd.underlying24 info9 rfl (by decide) (.slice (some ⟨w11.heap.size, 0, none⟩) 0 0) [] o A2 o.length c2 (fun k => w.heap.size ≤ k) rfl rfl (fun k hk => Nat.le_trans (below_alloc HB11.out _).size hk) (lit_str w.heap.size _ w11 9 [] HB11.out.size HB11.out.size (by decide)) (Kd.C_below HR2.out (below_alloc HB11.out _)) (below_alloc HB11.out _) (below_alloc HB11.out _).size (by simp only [List.length_nil]; omega) ?_; intro v77 w77 ho hb hg hat; have HO77 := Aside0.mk ho; have HB77 := Aside0.mk hb; clear ho hb hg hat; go_frame)
                    | ((with_reducible refine gate_builtin (b := .append) (xs := #[.tmp 77, .tmp 79]) rfl ?_); at_builtin; refine Kd.R_append_row Value.string ByteArray.empty (h1 := fun _ => rfl) (w0 := w) w.heap.size rfl (.tmp 77) (.tmp 79) 24 9 (.string ⟨#[]⟩) 16 rfl Tryd.underlying24 info9 rfl (by decide) v77 o [name] (some ⟨w77.heap.size, 0, none⟩) 1 1 (fun k => w.heap.size ≤ k) rfl rfl (fun k hk => Nat.le_trans (below_alloc HB77.out _).size hk) (Kd.R_below HO77.out (below_alloc (Below.refl _ _) _)) (str_lit_C w77 name) (below_alloc HB77.out _) (below_alloc HB77.out _).size (by omega) ?_; intro v80 w80 ho hb hg hat; obtain ⟨A80, n80, he, hn80, hC⟩ := str_more ho; rw [← HONM.out] at he hn80 hC; subst he; have HC80 := Aside0.mk hC; have HB80 := Aside0.mk hb; clear hC ho hb hg hat; go_frame)
                    | (go_at_call 13; (with_reducible refine (F12.out _ _ _ HB80.out HC80.out hn80).mono ?_); rintro e w12 ⟨rfl, hb⟩; have HB12 := Aside0.mk hb; clear hb F12)
                    | (go_at_call 14; (with_reducible refine (F13.out _ HB12.out).mono ?_); rintro e w13 ⟨rfl, hb⟩; have HB13 := Aside0.mk hb; clear hb F13)
                    | ((with_reducible refine gate_builtin (b := .append) (xs := #[.tmp 91, .tmp 92]) rfl ?_); at_builtin; refine Kd.R_append_row Subtype.val v0 (h1 := v1_one) (w0 := w) w.heap.size rfl (.tmp 91) (.tmp 92) 23 24 (.slice none 0 0) 24 rfl Tryd.underlying23 info24 rfl (by decide) (.slice (some ⟨w13.heap.size, 0, none⟩) 0 0) [] vc A1 c.length c1 (fun k => w.heap.size ≤ k) rfl rfl (fun k hk => Nat.le_trans (below_alloc HB13.out _).size hk) (lit_own w.heap.size _ w13 24 [] HB13.out.size HB13.out.size (by decide)) (Kd.C_below HV1.out (below_alloc HB13.out _)) (below_alloc HB13.out _) (below_alloc HB13.out _).size (by simp only [List.length_nil]; omega) ?_; intro v93 w93 ho hb hg hat; have HO93 := Aside0.mk ho; have HB93 := Aside0.mk hb; clear ho hb hg hat; go_frame)
                    | ((with_reducible refine gate_builtin (b := .append) (xs := #[.tmp 93, .tmp 95]) rfl ?_); at_builtin; refine Kd.R_append_row Subtype.val v0 (h1 := v1_one) (w0 := w) w.heap.size rfl (.tmp 93) (.tmp 95) 23 24 (.slice none 0 0) 24 rfl Tryd.underlying23 info24 rfl (by decide) v93 vc [hdr A2 o.length c2] (some ⟨w93.heap.size, 0, none⟩) 1 1 (fun k => w.heap.size ≤ k) rfl rfl (fun k hk => Nat.le_trans (below_alloc HB93.out _).size hk) (Kd.R_below HO93.out (below_alloc (Below.refl _ _) _)) (hdr_lit_C w93 24 A2 o.length c2) (below_alloc HB93.out _) (below_alloc HB93.out _).size (by omega) ?_; intro v96 w96 ho hb hg hat; obtain ⟨A96, n96, he, hn96, hC⟩ := row_more ho hb hul HUK.out HR2.out hc2; rw [← HC14.out] at he hn96 hC; subst he; have HC96 := Aside0.mk hC; have HB96 := Aside0.mk hb; clear hC ho hb hg hat; go_frame)
                    | (go_at_call 14; (with_reducible refine (F14.out _ _ _ HB96.out HC96.out hn96).mono ?_); rintro e w14 ⟨rfl, hb⟩; have HB14 := Aside0.mk hb; clear hb F14)
                    | ((with_reducible refine gate_builtin (b := .append) (xs := #[.tmp 104, .tmp 105]) rfl ?_); at_builtin; refine Kd.R_append_row Subtype.val v0 (h1 := v1_one) (w0 := w) w.heap.size rfl (.tmp 104) (.tmp 105) 22 23 (.slice none 0 0) 24 rfl Tryd.underlying22 info23 rfl (by decide) (.slice (some ⟨w14.heap.size, 0, none⟩) 0 0) [] vcs A0 cs.length c0 (fun k => w.heap.size ≤ k) rfl rfl (fun k hk => Nat.le_trans (below_alloc HB14.out _).size hk) (lit_own w.heap.size _ w14 23 [] HB14.out.size HB14.out.size (by decide)) (Kd.C_below HV0.out (below_alloc HB14.out _)) (below_alloc HB14.out _) (below_alloc HB14.out _).size (by simp only [List.length_nil]; omega) ?_; intro v106 w106 ho hb hg hat; have HO106 := Aside0.mk ho; have HB106 := Aside0.mk hb; clear ho hb hg hat; go_frame)
                    | ((with_reducible refine gate_builtin (b := .append) (xs := #[.tmp 106, .tmp 108]) rfl ?_); at_builtin; refine Kd.R_append_row Subtype.val v0 (h1 := v1_one) (w0 := w) w.heap.size rfl (.tmp 106) (.tmp 108) 22 23 (.slice none 0 0) 24 rfl Tryd.underlying22 info23 rfl (by decide) v106 vcs [hdr A1 c.length c1] (some ⟨w106.heap.size, 0, none⟩) 1 1 (fun k => w.heap.size ≤ k) rfl rfl (fun k hk => Nat.le_trans (below_alloc HB106.out _).size hk) (Kd.R_below HO106.out (below_alloc (Below.refl _ _) _)) (hdr_lit_C w106 23 A1 c.length c1) (below_alloc HB106.out _) (below_alloc HB106.out _).size (by omega) ?_; intro v109 w109 ho hb hg hat; obtain ⟨A109, n109, he, hn109, hC⟩ := row_more ho hb hvl HVK.out HR1.out hc1; rw [← HCS15.out] at he hn109 hC; subst he; have HC109 := Aside0.mk hC; have HB109 := Aside0.mk hb; clear hC ho hb hg hat; go_frame)
                    | (go_at_call 15; (with_reducible refine (F15.out _ _ _ HB109.out HC109.out hn109).mono ?_); rintro e w15 ⟨rfl, hb⟩; have HB15 := Aside0.mk hb; clear hb F15)
                    | (go_at_call 15; (with_reducible refine (F16.out _ HB15.out).mono ?_); rintro e w16 ⟨rfl, hb⟩; have HB16 := Aside0.mk hb; clear hb F16)
                    | go_in)
                  go_ret
                  exact ⟨rfl, HB16.out⟩
end Go.Proofs.YtlmmjchdfngdgaaDoor.Q
