/- Contracts of validity: OptionValid, ConstraintsValid. -/
import Derived.Test.YtlmmjchdfngdgaaDoorTe
namespace Go.Proofs.YtlmmjchdfngdgaaDoor.Q
open Go.RowKit Go.Maps Go.Proofs.YtlmmjchdfngdgaaDoorW.PrintWords Go.Proofs.YtlmmjchdfngdgaaDoorW.PrintLast Go.Proofs.YtlmmjchdfngdgaaDoorW.PrintMore
set_option linter.unusedVariables false
set_option linter.unusedSimpArgs false

def validO (o : List ByteArray) : Bool := o.all fun t => validB t
theorem validO_drop (o : List ByteArray) (i : Nat) (p : ByteArray) (hp : o[i]? = some p) : validO (o.drop i) = (validB p && validO (o.drop (i + 1))) := by
  obtain ⟨h1, h2⟩ := List.getElem?_eq_some_iff.1 hp
  unfold validO
  rw [List.drop_eq_getElem_cons h1, List.all_cons, h2]
set_option maxHeartbeats 4000000 in
set_option maxRecDepth 100000 in
theorem optValid_calls (A : Option Addr) (c : Nat) (o : List ByteArray) (w : World) (hr : Kd.C (Kd.string) w A o.length o) (ht : Tabs w) (hok : okO o = true) (hlen : o.length < 4294967296) :
    Calls Tryd.prog 40 #[.slice A o.length c] w fun e w' => (validO o = true → e = .returned .nilIface) ∧ (validO o = false → ∃ x, e = .returned (.iface 74 x)) ∧ Below w.heap.size w w' := by
  have HR := Aside0.mk hr
  have HT := Aside0.mk ht
  clear hr ht
  go_enter Tryd.func40, Tryd.ntmps40
  go_wp2
  go_loopg [8] o.length (fun kq v8 wr => ∃ (i : Nat), v8 = .int .i64 (i : Int) ∧ Aside0 (i + kq = o.length) ∧ Aside0 (validO o = validO (o.drop i)) ∧ Aside0 (Below w.heap.size w wr))
  case atStart => exact ⟨0, rfl, ⟨by simp⟩, ⟨by rw [List.drop_zero]⟩, ⟨Below.refl _ _⟩⟩
  case round =>
    obtain ⟨i, rfl, HK, HV, HB⟩ := hrel
    cases gk with
    | zero =>
      have e' : (i < o.length) = False := eq_false (by have := HK.out; omega)
      have hv : validO o = true := by rw [HV.out, List.drop_eq_nil_of_le (by have := HK.out; omega)]; rfl
      go_wp2
      go_ret
      exact ⟨fun _ => rfl, (fun h => by rw [hv] at h; cases h), HB.out⟩
    | succ k =>
      have hi : i < o.length := by have := HK.out; omega
      obtain ⟨p, hp⟩ : ∃ p, o[i]? = some p := ⟨_, List.getElem?_eq_getElem hi⟩
      have HST := Aside0.mk (validO_drop o i p hp)
      have hpo := okO_at hok p (List.mem_of_getElem? hp)
      obtain ⟨ad, hA, h0⟩ := at_str HR.out i hi p hp
      cases hA
      replace h0 := (HB.out.cell (World.block_lt_of_cell? w _ h0)).trans h0
      have HTr := Aside0.mk (HT.out.below HB.out)
      have e' : (i < o.length) = True := eq_true hi
      clear hi
      cases hvp : validB p with
      | false =>
        have hv : validO o = false := by rw [HV.out, HST.out, hvp]; rfl
        go_wp2_with (first
          | (go_at_call 53; (with_reducible refine (validate_calls p _ HTr.out hpo.1).mono ?_); rintro e w3 ⟨h1, h2, hb3⟩; obtain ⟨x, rfl⟩ := h2 hvp; have HB3 := Aside0.mk hb3; clear hb3 h1 h2)
          | (go_at_call 56; (with_reducible refine (err_calls _ _).mono ?_); rintro e w4 ⟨⟨x4, rfl⟩, hb4⟩)
          | go_in)
        go_ret
        exact ⟨(fun h => by rw [hv] at h; cases h), fun _ => ⟨_, rfl⟩, below_step (below_step HB.out HB3.out) hb4⟩
      | true =>
        go_wp2_with (first
          | (go_at_call 53; (with_reducible refine (validate_calls p _ HTr.out hpo.1).mono ?_); rintro e w3 ⟨h1, h2, hb3⟩; obtain rfl := h1 hvp; have HB3 := Aside0.mk hb3; clear hb3 h1 h2)
          | go_in)
        go_roundg k
        case measure => have := HK.out; omega
        case rel => exact ⟨i + 1, by have := HK.out; simp [wrap64]; omega, ⟨by have := HK.out; omega⟩, ⟨by rw [HV.out, HST.out, hvp]; rfl⟩, ⟨below_step HB.out HB3.out⟩⟩

def impl_OptionValid.f (l0 : List ByteArray) : Option Bool := if okO l0 = true ∧ l0.length < 4294967296 then some (validO l0) else none
set_option maxHeartbeats 4000000 in
theorem impl_OptionValid.calls (A0 : Option Addr) (c0 : Nat) (l0 : List ByteArray) (r : Bool) (w : World) (hP : Tabs w) (hr0 : Kd.C (Kd.string) w A0 l0.length l0) (hc0 : l0.length ≤ c0) (h : impl_OptionValid.f l0 = some r) :
    Calls Tryd.prog 16 #[.slice A0 l0.length c0] w fun e w' => e = .returned (.bool r) ∧ Below w.heap.size w w' := by
  unfold impl_OptionValid.f at h
  split at h
  case isFalse => cases h
  rename_i hg
  obtain rfl := Option.some.inj h
  obtain ⟨h1, h3⟩ := hg
  have HP := Aside0.mk hP
  have HR0 := Aside0.mk hr0
  clear hP hr0 h
  cases hv : validO l0 with
  | false =>
    go_enter Tryd.func16, Tryd.ntmps16
    go_wp2_with (first
      | (go_at_call 34; (with_reducible refine (option_calls A0 c0 l0 _ HR0.out h3 ).mono ?_); rintro e w1 ⟨v, rfl, hO, hb1⟩; obtain ⟨Ao, co, rfl⟩ := Kd.R_slice hO; have HO := Aside0.mk (Kd.R_reads' hO).2.2; have HB1 := Aside0.mk hb1; clear hO hb1)
      | (go_at_call 40; (with_reducible refine (optValid_calls Ao co l0 _ HO.out (HP.out.below HB1.out) h1 h3).mono ?_); rintro e w3 ⟨g1, g2, hb3⟩; obtain ⟨x, rfl⟩ := g2 hv)
      | go_in)
    go_ret
    exact ⟨rfl, below_step HB1.out hb3⟩
  | true =>
    go_enter Tryd.func16, Tryd.ntmps16
    go_wp2_with (first
      | (go_at_call 34; (with_reducible refine (option_calls A0 c0 l0 _ HR0.out h3 ).mono ?_); rintro e w1 ⟨v, rfl, hO, hb1⟩; obtain ⟨Ao, co, rfl⟩ := Kd.R_slice hO; have HO := Aside0.mk (Kd.R_reads' hO).2.2; have HB1 := Aside0.mk hb1; clear hO hb1)
      | (go_at_call 40; (with_reducible refine (optValid_calls Ao co l0 _ HO.out (HP.out.below HB1.out) h1 h3).mono ?_); rintro e w3 ⟨g1, g2, hb3⟩; obtain rfl := g1 hv)
      | go_in)
    go_ret
    exact ⟨rfl, below_step HB1.out hb3⟩

def validC (o : List (List ByteArray)) : Bool := o.all fun t => validO t
theorem validC_drop (o : List (List ByteArray)) (i : Nat) (p : List ByteArray) (hp : o[i]? = some p) : validC (o.drop i) = (validO p && validC (o.drop (i + 1))) := by
  obtain ⟨h1, h2⟩ := List.getElem?_eq_some_iff.1 hp
  unfold validC
  rw [List.drop_eq_getElem_cons h1, List.all_cons, h2]
set_option maxHeartbeats 4000000 in
set_option maxRecDepth 100000 in
theorem conValid_calls (A : Option Addr) (c : Nat) (o : List (List ByteArray)) (w : World) (hr : Kd.C (Kd.slice 41 Kd.string) w A o.length o) (ht : Tabs w) (hok : okC o = true) (hlen : o.length < 4294967296) :
    Calls Tryd.prog 63 #[.slice A o.length c] w fun e w' => (validC o = true → e = .returned .nilIface) ∧ (validC o = false → ∃ x, e = .returned (.iface 74 x)) ∧ Below w.heap.size w w' := by
  have HR := Aside0.mk hr
  have HT := Aside0.mk ht
  clear hr ht
  go_enter Tryd.func63, Tryd.ntmps63
  go_wp2
  go_loopg [8] o.length (fun kq v8 wr => ∃ (i : Nat), v8 = .int .i64 (i : Int) ∧ Aside0 (i + kq = o.length) ∧ Aside0 (validC o = validC (o.drop i)) ∧ Aside0 (Below w.heap.size w wr))
  case atStart => exact ⟨0, rfl, ⟨by simp⟩, ⟨by rw [List.drop_zero]⟩, ⟨Below.refl _ _⟩⟩
  case round =>
    obtain ⟨i, rfl, HK, HV, HB⟩ := hrel
    cases gk with
    | zero =>
      have e' : (i < o.length) = False := eq_false (by have := HK.out; omega)
      have hv : validC o = true := by rw [HV.out, List.drop_eq_nil_of_le (by have := HK.out; omega)]; rfl
      go_wp2
      go_ret
      exact ⟨fun _ => rfl, (fun h => by rw [hv] at h; cases h), HB.out⟩
    | succ k =>
      have hi : i < o.length := by have := HK.out; omega
      obtain ⟨p, hp⟩ : ∃ p, o[i]? = some p := ⟨_, List.getElem?_eq_getElem hi⟩
      have HST := Aside0.mk (validC_drop o i p hp)
      have hpo := okC_at hok p (List.mem_of_getElem? hp)
      obtain ⟨ad, Ap, cp, hA, h0, hcp, hCp⟩ := at_row HR.out i hi p hp
      cases hA
      replace h0 := (HB.out.cell (World.block_lt_of_cell? w _ h0)).trans h0
      have HCp := Aside0.mk (Kd.C_below hCp HB.out)
      clear hCp hcp
      have HTr := Aside0.mk (HT.out.below HB.out)
      have e' : (i < o.length) = True := eq_true hi
      clear hi
      cases hvp : validO p with
      | false =>
        have hv : validC o = false := by rw [HV.out, HST.out, hvp]; rfl
        go_wp2_with (first
          | (go_at_call 40; (with_reducible refine (optValid_calls Ap cp p _ HCp.out HTr.out hpo.1 hpo.2).mono ?_); rintro e w3 ⟨h1, h2, hb3⟩; obtain ⟨x, rfl⟩ := h2 hvp; have HB3 := Aside0.mk hb3; clear hb3 h1 h2)
          | (go_at_call 56; (with_reducible refine (err_calls _ _).mono ?_); rintro e w4 ⟨⟨x4, rfl⟩, hb4⟩)
          | go_in)
        go_ret
        exact ⟨(fun h => by rw [hv] at h; cases h), fun _ => ⟨_, rfl⟩, below_step HB.out HB3.out⟩
      | true =>
        go_wp2_with (first
          | (go_at_call 40; (with_reducible refine (optValid_calls Ap cp p _ HCp.out HTr.out hpo.1 hpo.2).mono ?_); rintro e w3 ⟨h1, h2, hb3⟩; obtain rfl := h1 hvp; have HB3 := Aside0.mk hb3; clear hb3 h1 h2)
          | go_in)
        go_roundg k
        case measure => have := HK.out; omega
        case rel => exact ⟨i + 1, by have := HK.out; simp [wrap64]; omega, ⟨by have := HK.out; omega⟩, ⟨by rw [HV.out, HST.out, hvp]; rfl⟩, ⟨below_step HB.out HB3.out⟩⟩

def validCs (o : List (List (List ByteArray))) : Bool := o.all fun t => validC t
theorem validCs_drop (o : List (List (List ByteArray))) (i : Nat) (p : List (List ByteArray)) (hp : o[i]? = some p) : validCs (o.drop i) = (validC p && validCs (o.drop (i + 1))) := by
  obtain ⟨h1, h2⟩ := List.getElem?_eq_some_iff.1 hp
  unfold validCs
  rw [List.drop_eq_getElem_cons h1, List.all_cons, h2]
set_option maxHeartbeats 4000000 in
set_option maxRecDepth 100000 in
theorem consValid_calls (A : Option Addr) (c : Nat) (o : List (List (List ByteArray))) (w : World) (hr : Kd.C (Kd.slice 46 (Kd.slice 41 Kd.string)) w A o.length o) (ht : Tabs w) (hok : okCs o = true) (hlen : o.length < 4294967296) :
    Calls Tryd.prog 48 #[.slice A o.length c] w fun e w' => (validCs o = true → e = .returned .nilIface) ∧ (validCs o = false → ∃ x, e = .returned (.iface 74 x)) ∧ Below w.heap.size w w' := by
  have HR := Aside0.mk hr
  have HT := Aside0.mk ht
  clear hr ht
  go_enter Tryd.func48, Tryd.ntmps48
  go_wp2
  go_loopg [8] o.length (fun kq v8 wr => ∃ (i : Nat), v8 = .int .i64 (i : Int) ∧ Aside0 (i + kq = o.length) ∧ Aside0 (validCs o = validCs (o.drop i)) ∧ Aside0 (Below w.heap.size w wr))
  case atStart => exact ⟨0, rfl, ⟨by simp⟩, ⟨by rw [List.drop_zero]⟩, ⟨Below.refl _ _⟩⟩
  case round =>
    obtain ⟨i, rfl, HK, HV, HB⟩ := hrel
    cases gk with
    | zero =>
      have e' : (i < o.length) = False := eq_false (by have := HK.out; omega)
      have hv : validCs o = true := by rw [HV.out, List.drop_eq_nil_of_le (by have := HK.out; omega)]; rfl
      go_wp2
      go_ret
      exact ⟨fun _ => rfl, (fun h => by rw [hv] at h; cases h), HB.out⟩
    | succ k =>
      have hi : i < o.length := by have := HK.out; omega
      obtain ⟨p, hp⟩ : ∃ p, o[i]? = some p := ⟨_, List.getElem?_eq_getElem hi⟩
      have HST := Aside0.mk (validCs_drop o i p hp)
      have hpo := okCs_at hok p (List.mem_of_getElem? hp)
      obtain ⟨ad, Ap, cp, hA, h0, hcp, hCp⟩ := at_row HR.out i hi p hp
      cases hA
      replace h0 := (HB.out.cell (World.block_lt_of_cell? w _ h0)).trans h0
      have HCp := Aside0.mk (Kd.C_below hCp HB.out)
      clear hCp hcp
      have HTr := Aside0.mk (HT.out.below HB.out)
      have e' : (i < o.length) = True := eq_true hi
      clear hi
      cases hvp : validC p with
      | false =>
        have hv : validCs o = false := by rw [HV.out, HST.out, hvp]; rfl
        go_wp2_with (first
          | (go_at_call 63; (with_reducible refine (conValid_calls Ap cp p _ HCp.out HTr.out hpo.1 hpo.2).mono ?_); rintro e w3 ⟨h1, h2, hb3⟩; obtain ⟨x, rfl⟩ := h2 hvp; have HB3 := Aside0.mk hb3; clear hb3 h1 h2)
          | (go_at_call 56; (with_reducible refine (err_calls _ _).mono ?_); rintro e w4 ⟨⟨x4, rfl⟩, hb4⟩)
          | go_in)
        go_ret
        exact ⟨(fun h => by rw [hv] at h; cases h), fun _ => ⟨_, rfl⟩, below_step HB.out HB3.out⟩
      | true =>
        go_wp2_with (first
          | (go_at_call 63; (with_reducible refine (conValid_calls Ap cp p _ HCp.out HTr.out hpo.1 hpo.2).mono ?_); rintro e w3 ⟨h1, h2, hb3⟩; obtain rfl := h1 hvp; have HB3 := Aside0.mk hb3; clear hb3 h1 h2)
          | go_in)
        go_roundg k
        case measure => have := HK.out; omega
        case rel => exact ⟨i + 1, by have := HK.out; simp [wrap64]; omega, ⟨by have := HK.out; omega⟩, ⟨by rw [HV.out, HST.out, hvp]; rfl⟩, ⟨below_step HB.out HB3.out⟩⟩

def impl_ConstraintsValid.f (l0 : List (List (List ByteArray))) : Option Bool := if okCs l0 = true ∧ l0.length < 4294967296 then some (validCs l0) else none
set_option maxHeartbeats 4000000 in
theorem impl_ConstraintsValid.calls (A0 : Option Addr) (c0 : Nat) (l0 : List (List (List ByteArray))) (r : Bool) (w : World) (hP : Tabs w) (hr0 : Kd.C (Kd.slice 24 (Kd.slice 9 Kd.string)) w A0 l0.length l0) (hc0 : l0.length ≤ c0) (h : impl_ConstraintsValid.f l0 = some r) :
    Calls Tryd.prog 25 #[.slice A0 l0.length c0] w fun e w' => e = .returned (.bool r) ∧ Below w.heap.size w w' := by
  unfold impl_ConstraintsValid.f at h
  split at h
  case isFalse => cases h
  rename_i hg
  obtain rfl := Option.some.inj h
  obtain ⟨h1, h3⟩ := hg
  have HP := Aside0.mk hP
  have HR0 := Aside0.mk hr0
  clear hP hr0 h
  cases hv : validCs l0 with
  | false =>
    go_enter Tryd.func25, Tryd.ntmps25
    go_wp2_with (first
      | (go_at_call 38; (with_reducible refine (constraints_calls A0 c0 l0 _ HR0.out h3 (fun x hx => ⟨(okCs_at h1 x hx).2, fun y hy => (okC_at (okCs_at h1 x hx).1 y hy).2⟩)).mono ?_); rintro e w1 ⟨v, rfl, hO, hb1⟩; obtain ⟨Ao, co, rfl⟩ := Kd.R_slice hO; have HO := Aside0.mk (Kd.R_reads' hO).2.2; have HB1 := Aside0.mk hb1; clear hO hb1)
      | (go_at_call 48; (with_reducible refine (consValid_calls Ao co l0 _ HO.out (HP.out.below HB1.out) h1 h3).mono ?_); rintro e w3 ⟨g1, g2, hb3⟩; obtain ⟨x, rfl⟩ := g2 hv)
      | go_in)
    go_ret
    exact ⟨rfl, below_step HB1.out hb3⟩
  | true =>
    go_enter Tryd.func25, Tryd.ntmps25
    go_wp2_with (first
      | (go_at_call 38; (with_reducible refine (constraints_calls A0 c0 l0 _ HR0.out h3 (fun x hx => ⟨(okCs_at h1 x hx).2, fun y hy => (okC_at (okCs_at h1 x hx).1 y hy).2⟩)).mono ?_); rintro e w1 ⟨v, rfl, hO, hb1⟩; obtain ⟨Ao, co, rfl⟩ := Kd.R_slice hO; have HO := Aside0.mk (Kd.R_reads' hO).2.2; have HB1 := Aside0.mk hb1; clear hO hb1)
      | (go_at_call 48; (with_reducible refine (consValid_calls Ao co l0 _ HO.out (HP.out.below HB1.out) h1 h3).mono ?_); rintro e w3 ⟨g1, g2, hb3⟩; obtain rfl := g1 hv)
      | go_in)
    go_ret
    exact ⟨rfl, below_step HB1.out hb3⟩
end Go.Proofs.YtlmmjchdfngdgaaDoor.Q
