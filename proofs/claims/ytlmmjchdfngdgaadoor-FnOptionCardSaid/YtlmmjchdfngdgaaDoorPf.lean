/- Contracts of the printed functions, with their plain values. -/
import Derived.Test.YtlmmjchdfngdgaaDoorPc
namespace Go.Proofs.YtlmmjchdfngdgaaDoor.Pure
open Go.RowKit Go.Proofs.YtlmmjchdfngdgaaDoor.Q Go.Proofs.YtlmmjchdfngdgaaDoorW.PrintWords Go.Proofs.YtlmmjchdfngdgaaDoorW.PrintLast
theorem fit7_calls (A0 : Option Addr) (c0 : Nat) (w : World) (l : List ByteArray) (hr0 : Kd.C Kd.string w A0 l.length l) (hc0 : l.length ≤ c0) : Calls Tryd.prog 9 #[.slice A0 l.length c0] w fun e w' => e = .returned (.bool (fit7 l)) ∧ Below w.heap.size w w' := by
  obtain ⟨k, hk⟩ := (fit7_ev l).ex
  exact (laws_zzFits7.calls k A0 c0 l _ w hr0 hc0 hk).mono fun e w' ⟨h1, h2⟩ => ⟨h1, h2.below⟩
theorem fit19_calls (A0 : Option Addr) (c0 : Nat) (w : World) (l : List (List ByteArray)) (hr0 : Kd.C (Kd.slice 9 Kd.string) w A0 l.length l) (hc0 : l.length ≤ c0) : Calls Tryd.prog 8 #[.slice A0 l.length c0] w fun e w' => e = .returned (.bool (fit19 l)) ∧ Below w.heap.size w w' := by
  obtain ⟨k, hk⟩ := (fit19_ev l).ex
  exact (laws_zzFits19.calls k A0 c0 l _ w hr0 hc0 hk).mono fun e w' ⟨h1, h2⟩ => ⟨h1, h2.below⟩
theorem fit20_calls (A0 : Option Addr) (c0 : Nat) (w : World) (l : List (List (List ByteArray))) (hr0 : Kd.C (Kd.slice 24 (Kd.slice 9 Kd.string)) w A0 l.length l) (hc0 : l.length ≤ c0) : Calls Tryd.prog 7 #[.slice A0 l.length c0] w fun e w' => e = .returned (.bool (fit20 l)) ∧ Below w.heap.size w w' := by
  obtain ⟨k, hk⟩ := (fit20_ev l).ex
  exact (laws_zzFits20.calls k A0 c0 l _ w hr0 hc0 hk).mono fun e w' ⟨h1, h2⟩ => ⟨h1, h2.below⟩
def termsB (cs : List (List (List ByteArray))) (tags : List ByteArray) : Bool := decide (wll (wrap64 ((tags.length : Int) + (cs.length : Int))) cs ≤ 2000) && asciiCs cs
theorem terms_calls (A0 : Option Addr) (c0 : Nat) (A1 : Option Addr) (c1 : Nat) (w : World) (cs : List (List (List ByteArray))) (tags : List ByteArray) (hf : fit20 cs = true) (hr0 : Kd.C (Kd.slice 24 (Kd.slice 9 Kd.string)) w A0 cs.length cs) (hc0 : cs.length ≤ c0) (hr1 : Kd.C Kd.string w A1 tags.length tags) (hc1 : tags.length ≤ c1) :
    Calls Tryd.prog 10 #[.slice A0 cs.length c0, .slice A1 tags.length c1] w fun e w' => e = .returned (.bool (termsB cs tags)) ∧ Below w.heap.size w w' := by
  obtain ⟨k, hk⟩ := (terms_ev cs tags hf).ex
  exact (laws_terms.calls k A0 c0 cs A1 c1 tags _ w hr0 hc0 hr1 hc1 hk).mono fun e w' ⟨h1, h2⟩ => ⟨h1, h2.below⟩
theorem sOptValid_calls (A0 : Option Addr) (c0 : Nat) (w : World) (o : List ByteArray) (hl : o.length < 9223372036854775807) (ho : okO o = true) (hr0 : Kd.C Kd.string w A0 o.length o) (hc0 : o.length ≤ c0) : Calls Tryd.prog 17 #[.slice A0 o.length c0] w fun e w' => e = .returned (.bool (validO o)) ∧ Below w.heap.size w w' := by
  obtain ⟨k, hk⟩ := (optValid_ev o hl ho).ex
  exact (spec_OptionValid.calls k A0 c0 o _ w hr0 hc0 hk).mono fun e w' ⟨h1, h2⟩ => ⟨h1, h2.below⟩
theorem sOptEval_calls (A0 : Option Addr) (c0 : Nat) (A1 : Option Addr) (c1 : Nat) (w : World) (o tags : List ByteArray) (hl : o.length < 9223372036854775807) (ht : tags.length < 9223372036854775807) (ho : okO o = true) (hr0 : Kd.C Kd.string w A0 o.length o) (hc0 : o.length ≤ c0) (hr1 : Kd.C Kd.string w A1 tags.length tags) (hc1 : tags.length ≤ c1) : Calls Tryd.prog 18 #[.slice A0 o.length c0, .slice A1 tags.length c1] w fun e w' => e = .returned (.bool (evalO o tags)) ∧ Below w.heap.size w w' := by
  obtain ⟨k, hk⟩ := (optEval_ev tags ht o hl ho).ex
  exact (spec_OptionEvaluate.calls k A0 c0 o A1 c1 tags _ w hr0 hc0 hr1 hc1 hk).mono fun e w' ⟨h1, h2⟩ => ⟨h1, h2.below⟩
theorem sOptText_calls (A0 : Option Addr) (c0 : Nat) (w : World) (o : List ByteArray) (hl : o.length < 9223372036854775807) (hw : wO o < 9223372036854775807) (hr0 : Kd.C Kd.string w A0 o.length o) (hc0 : o.length ≤ c0) : Calls Tryd.prog 20 #[.slice A0 o.length c0] w fun e w' => e = .returned (.string (textO o)) ∧ Below w.heap.size w w' := by
  obtain ⟨k, hk⟩ := (optText_ev o hl hw).ex
  exact (spec_OptionText.calls k A0 c0 o _ w hr0 hc0 hk).mono fun e w' ⟨h1, h2⟩ => ⟨h1, h2.below⟩
theorem sTermValid_calls (w : World) (s : ByteArray) (hs : s.size < 9223372036854775807) (ha : asciiB s = true) : Calls Tryd.prog 11 #[.string s] w fun e w' => e = .returned (.bool (validB s)) ∧ Below w.heap.size w w' := by
  obtain ⟨k, hk⟩ := (valid_ev s hs ha).ex
  exact (spec_TermValid.calls k s _ w hk).mono fun e w' ⟨h1, h2⟩ => ⟨h1, h2.below⟩
/-! the program's own, by value -/
theorem iTermEval_calls (A1 : Option Addr) (c1 : Nat) (w : World) (hP : Tabs w) (s : ByteArray) (tags : List ByteArray) (h1 : okO [s] = true) (h2 : okTags tags = true) (h3 : tags.length < 4294967296) (hr1 : Kd.C Kd.string w A1 tags.length tags) (hc1 : tags.length ≤ c1) : Calls Tryd.prog 12 #[.string s, .slice A1 tags.length c1] w fun e w' => e = .returned (.bool (evalT s tags)) ∧ Below w.heap.size w w' :=
  impl_TermEvaluate.calls s A1 c1 tags _ w hP hr1 hc1 (by unfold impl_TermEvaluate.f; rw [if_pos ⟨h1, h2, h3⟩])
theorem iOptEval_calls (A0 : Option Addr) (c0 : Nat) (A1 : Option Addr) (c1 : Nat) (w : World) (hP : Tabs w) (o tags : List ByteArray) (h1 : okO o = true) (h2 : okTags tags = true) (h0 : o.length < 4294967296) (h3 : tags.length < 4294967296) (hr0 : Kd.C Kd.string w A0 o.length o) (hc0 : o.length ≤ c0) (hr1 : Kd.C Kd.string w A1 tags.length tags) (hc1 : tags.length ≤ c1) : Calls Tryd.prog 13 #[.slice A0 o.length c0, .slice A1 tags.length c1] w fun e w' => e = .returned (.bool (evalO o tags)) ∧ Below w.heap.size w w' :=
  impl_OptionEvaluate.calls A0 c0 o A1 c1 tags _ w hP hr0 hc0 hr1 hc1 (by unfold impl_OptionEvaluate.f; rw [if_pos ⟨h1, h2, h0, h3⟩])
theorem iConEval_calls (A0 : Option Addr) (c0 : Nat) (A1 : Option Addr) (c1 : Nat) (w : World) (hP : Tabs w) (o : List (List ByteArray)) (tags : List ByteArray) (h1 : okC o = true) (h2 : okTags tags = true) (h0 : o.length < 4294967296) (h3 : tags.length < 4294967296) (hr0 : Kd.C (Kd.slice 9 Kd.string) w A0 o.length o) (hc0 : o.length ≤ c0) (hr1 : Kd.C Kd.string w A1 tags.length tags) (hc1 : tags.length ≤ c1) : Calls Tryd.prog 14 #[.slice A0 o.length c0, .slice A1 tags.length c1] w fun e w' => e = .returned (.bool (evalC o tags)) ∧ Below w.heap.size w w' :=
  impl_ConstraintEvaluate.calls A0 c0 o A1 c1 tags _ w hP hr0 hc0 hr1 hc1 (by unfold impl_ConstraintEvaluate.f; rw [if_pos ⟨h1, h2, h0, h3⟩])
theorem iConsEval_calls (A0 : Option Addr) (c0 : Nat) (A1 : Option Addr) (c1 : Nat) (w : World) (hP : Tabs w) (o : List (List (List ByteArray))) (tags : List ByteArray) (h1 : okCs o = true) (h2 : okTags tags = true) (h0 : o.length < 4294967296) (h3 : tags.length < 4294967296) (hr0 : Kd.C (Kd.slice 24 (Kd.slice 9 Kd.string)) w A0 o.length o) (hc0 : o.length ≤ c0) (hr1 : Kd.C Kd.string w A1 tags.length tags) (hc1 : tags.length ≤ c1) : Calls Tryd.prog 15 #[.slice A0 o.length c0, .slice A1 tags.length c1] w fun e w' => e = .returned (.bool (evalCs o tags)) ∧ Below w.heap.size w w' :=
  impl_ConstraintsEvaluate.calls A0 c0 o A1 c1 tags _ w hP hr0 hc0 hr1 hc1 (by unfold impl_ConstraintsEvaluate.f; rw [if_pos ⟨h1, h2, h0, h3⟩])
theorem iOptValid_calls (A0 : Option Addr) (c0 : Nat) (w : World) (hP : Tabs w) (o : List ByteArray) (h1 : okO o = true) (h0 : o.length < 4294967296) (hr0 : Kd.C Kd.string w A0 o.length o) (hc0 : o.length ≤ c0) : Calls Tryd.prog 16 #[.slice A0 o.length c0] w fun e w' => e = .returned (.bool (validO o)) ∧ Below w.heap.size w w' :=
  impl_OptionValid.calls A0 c0 o _ w hP hr0 hc0 (by unfold impl_OptionValid.f; rw [if_pos ⟨h1, h0⟩])
theorem iOptText_calls (A0 : Option Addr) (c0 : Nat) (w : World) (o : List ByteArray) (h1 : shortO o = true) (h0 : o.length < 4294967296) (hr0 : Kd.C Kd.string w A0 o.length o) (hc0 : o.length ≤ c0) : Calls Tryd.prog 19 #[.slice A0 o.length c0] w fun e w' => e = .returned (.string (textO o)) ∧ Below w.heap.size w w' :=
  impl_OptionText.calls A0 c0 o _ w hr0 hc0 (by unfold impl_OptionText.f; rw [if_pos ⟨h0, h1⟩])
/-- A row of one element that was laid. -/
theorem C_one {α : Type} {d : Kd α} {w : World} {b : Nat} {cs : List Value} {e : TypeId} {x : α} (h : w.heap[b]? = some (.cells cs.toArray e)) (hx : d.K w x cs) (hsz : cs.length = d.sz) : d.C w (some ⟨b, 0, none⟩) 1 [x] := by
  refine ⟨rfl, by omega, fun _ => ⟨_, rfl, fun j p hj => ?_⟩⟩
  obtain ⟨rfl, rfl⟩ : j = 0 ∧ x = p := by
    cases j with
    | zero => exact ⟨rfl, by simpa using hj⟩
    | succ j => simp at hj
  refine ⟨cs, hsz, hx, fun i u hu => ?_⟩
  have : (Addr.add ⟨b, 0, none⟩ (0 * d.sz + i)) = ⟨b, i, none⟩ := by
    unfold Addr.add
    by_cases h0 : i = 0
    · subst h0; simp
    · simp [h0]
  rw [this]
  unfold World.cell?
  simp [h, hu]
end Go.Proofs.YtlmmjchdfngdgaaDoor.Pure
