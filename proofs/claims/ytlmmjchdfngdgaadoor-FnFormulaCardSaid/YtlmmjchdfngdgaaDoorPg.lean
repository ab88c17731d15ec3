/- Plain laws for FnFormula: terms of longer lists; an option, a constraint, constraints made longer; a term's negation. -/
import Derived.Test.YtlmmjchdfngdgaaDoorPf
namespace Go.Proofs.YtlmmjchdfngdgaaDoor.Pure
open Go.RowKit Go.Proofs.YtlmmjchdfngdgaaDoor.Q Go.Proofs.YtlmmjchdfngdgaaDoorW.PrintWords Go.Proofs.YtlmmjchdfngdgaaDoorW.PrintLast
def len7 (l : List ByteArray) : Bool := decide (l.length ≤ 4294967295) && l.all fun s => decide (s.size ≤ 4294967295)
def len19 (l : List (List ByteArray)) : Bool := decide (l.length ≤ 4294967295) && l.all len7
def len20 (l : List (List (List ByteArray))) : Bool := decide (l.length ≤ 4294967295) && l.all len19
theorem len7_len {l : List ByteArray} (h : len7 l = true) : l.length ≤ 4294967295 := by simp only [len7, Bool.and_eq_true, decide_eq_true_eq] at h; exact h.1
theorem len7_mem {l : List ByteArray} (h : len7 l = true) {t : ByteArray} (ht : t ∈ l) : t.size ≤ 4294967295 := by
  simp only [len7, Bool.and_eq_true, decide_eq_true_eq] at h
  simpa using List.all_eq_true.1 h.2 t ht
theorem len19_len {l : List (List ByteArray)} (h : len19 l = true) : l.length ≤ 4294967295 := by simp only [len19, Bool.and_eq_true, decide_eq_true_eq] at h; exact h.1
theorem len19_mem {l : List (List ByteArray)} (h : len19 l = true) {t : List ByteArray} (ht : t ∈ l) : len7 t = true := by
  simp only [len19, Bool.and_eq_true, decide_eq_true_eq] at h
  exact List.all_eq_true.1 h.2 t ht
theorem len20_len {l : List (List (List ByteArray))} (h : len20 l = true) : l.length ≤ 4294967295 := by simp only [len20, Bool.and_eq_true, decide_eq_true_eq] at h; exact h.1
theorem len20_mem {l : List (List (List ByteArray))} (h : len20 l = true) {t : List (List ByteArray)} (ht : t ∈ l) : len19 t = true := by
  simp only [len20, Bool.and_eq_true, decide_eq_true_eq] at h
  exact List.all_eq_true.1 h.2 t ht
theorem len7_of {l : List ByteArray} (h : fit7 l = true) : len7 l = true := by
  have h1 := fit7_len h
  rw [len7, Bool.and_eq_true, decide_eq_true_eq]
  exact ⟨by omega, List.all_eq_true.2 fun t ht => decide_eq_true (by have := fit7_mem h ht; omega)⟩
theorem len19_of {l : List (List ByteArray)} (h : fit19 l = true) : len19 l = true := by
  have h1 := fit19_len h
  rw [len19, Bool.and_eq_true, decide_eq_true_eq]
  exact ⟨by omega, List.all_eq_true.2 fun t ht => len7_of (fit19_mem h ht)⟩
theorem len20_big {cs : List (List (List ByteArray))} {c : List (List ByteArray)} {o : List ByteArray} {name : ByteArray} (h0 : fit20 cs = true) (h1 : fit19 c = true) (h2 : fit7 o = true) (h3 : name.size ≤ 2147483647) : len20 (cs ++ [c, [o, [name]]]) = true := by
  have hl := fit20_len h0
  rw [len20, Bool.and_eq_true, decide_eq_true_eq]
  refine ⟨by simp; omega, List.all_eq_true.2 fun t ht => ?_⟩
  rcases List.mem_append.1 ht with ht | ht
  · exact len19_of (fit20_mem h0 ht)
  · simp only [List.mem_cons, List.not_mem_nil, or_false] at ht
    rcases ht with rfl | rfl
    · exact len19_of h1
    · have h7 : len7 [name] = true := by simp [len7]; omega
      simp [len19, len7_of h2, h7]
theorem asciiw_l2 (cs : List (List (List ByteArray))) (i : Nat) (c : List (List ByteArray)) (j : Nat) (o : List ByteArray) (ho : len7 o = true) (hj : j < 9223372036854775807) (r : Bool)
    (h : Ev (fun k => spec_AsciiAll.l1 k cs (cs.length : Int) (i : Int) c (c.length : Int) ((j + 1 : Nat) : Int)) r) :
    Ev (fun k => spec_AsciiAll.l2 k cs (cs.length : Int) (i : Int) c (c.length : Int) (j : Int) o (o.length : Int) 0) (asciiO o && r) := by
  have hl := len7_len ho
  refine ev_cps o (by omega) asciiB (fun k m => spec_AsciiAll.l2 k cs (cs.length : Int) (i : Int) c (c.length : Int) (j : Int) o (o.length : Int) m) r ?_ ?_
  · refine Ev.step (g := fun k => spec_AsciiAll.l1 k cs (cs.length : Int) (i : Int) c (c.length : Int) ((j + 1 : Nat) : Int)) (fun k => ?_) h
    simp only [spec_AsciiAll.l2]; rw [if_neg (by omega), w64 j hj]
  · intro m x r' hx hr'
    have hm := lt_of_get hx
    refine Ev.step (g := fun k => (spec_Ascii.f k x).bind fun t => if t = true then spec_AsciiAll.l2 k cs (cs.length : Int) (i : Int) c (c.length : Int) (j : Int) o (o.length : Int) ((m + 1 : Nat) : Int) else some false) (fun k => ?_) ?_
    · simp only [spec_AsciiAll.l2]; rw [if_pos (by omega), if_pos (by omega), if_pos (by omega), rdS hx, w64 m (by omega)]
    · refine Ev.bind (ascii_ev x (by have := len7_mem ho (mem_of_get hx); omega)) ?_
      cases asciiB x with
      | true => simpa using hr'
      | false => simpa using Ev.const false
theorem asciiw_l1 (cs : List (List (List ByteArray))) (i : Nat) (hi : i < 9223372036854775807) (c : List (List ByteArray)) (hc : len19 c = true) (r : Bool)
    (h : Ev (fun k => spec_AsciiAll.l0 k cs (cs.length : Int) ((i + 1 : Nat) : Int)) r) :
    Ev (fun k => spec_AsciiAll.l1 k cs (cs.length : Int) (i : Int) c (c.length : Int) 0) (asciiC c && r) := by
  have hl := len19_len hc
  refine ev_cps c (by omega) asciiO (fun k m => spec_AsciiAll.l1 k cs (cs.length : Int) (i : Int) c (c.length : Int) m) r ?_ ?_
  · refine Ev.step (g := fun k => spec_AsciiAll.l0 k cs (cs.length : Int) ((i + 1 : Nat) : Int)) (fun k => ?_) h
    simp only [spec_AsciiAll.l1]; rw [if_neg (by omega), w64 i hi]
  · intro m x r' hx hr'
    have hm := lt_of_get hx
    refine Ev.step (g := fun k => spec_AsciiAll.l2 k cs (cs.length : Int) (i : Int) c (c.length : Int) (m : Int) x (x.length : Int) 0) (fun k => ?_) (asciiw_l2 cs i c m x (len19_mem hc (mem_of_get hx)) (by omega) r' hr')
    simp only [spec_AsciiAll.l1]; rw [if_pos (by omega), if_pos (by omega), if_pos (by omega), rd1 hx]
theorem asciiwAll_ev (cs : List (List (List ByteArray))) (hc : len20 cs = true) : Ev (fun k => spec_AsciiAll.f k cs) (asciiCs cs) := by
  have hl := len20_len hc
  have := ev_cps cs (by omega) asciiC (fun k m => spec_AsciiAll.l0 k cs (cs.length : Int) m) true ?_ ?_
  · rw [Bool.and_true] at this; exact this
  · refine Ev.step (g := fun _ => some true) (fun k => ?_) (Ev.const _)
    simp only [spec_AsciiAll.l0]; rw [if_neg (by omega)]
  · intro m x r' hx hr'
    have hm := lt_of_get hx
    refine Ev.step (g := fun k => spec_AsciiAll.l1 k cs (cs.length : Int) (m : Int) x (x.length : Int) 0) (fun k => ?_) (asciiw_l1 cs m (by omega) x (len20_mem hc (mem_of_get hx)) r' hr')
    simp only [spec_AsciiAll.l0]; rw [if_pos (by omega), if_pos (by omega), if_pos (by omega), rd2 hx]

theorem termsw_l1 (x0 cs : List (List (List ByteArray))) (i : Nat) (hi : i < 9223372036854775807) (c : List (List ByteArray)) (hl : c.length ≤ 4294967295) (r : Bool) :
    ∀ (d j : Nat) (n : Int), c.length - j = d → j ≤ c.length → Ev (fun k => laws_terms.l0 k x0 (wl n (c.drop j)) cs (cs.length : Int) ((i + 1 : Nat) : Int)) r → Ev (fun k => laws_terms.l1 k x0 n cs (cs.length : Int) (i : Int) c (c.length : Int) (j : Int)) r := by
  intro d
  induction d with
  | zero =>
    intro j n hd hj h
    obtain rfl : j = c.length := by omega
    rw [List.drop_length] at h
    refine Ev.step (g := fun k => laws_terms.l0 k x0 n cs (cs.length : Int) ((i + 1 : Nat) : Int)) (fun k => ?_) h
    simp only [laws_terms.l1]; rw [if_neg (by omega), w64 i hi]
  | succ d ih =>
    intro j n hd hj h
    have hj' : j < c.length := by omega
    rw [List.drop_eq_getElem_cons hj'] at h
    refine Ev.step (g := fun k => laws_terms.l1 k x0 (wrap64 (n + (c[j].length : Int))) cs (cs.length : Int) (i : Int) c (c.length : Int) ((j + 1 : Nat) : Int)) (fun k => ?_) (ih (j + 1) _ (by omega) (by omega) h)
    simp only [laws_terms.l1]; rw [if_pos (by omega), if_pos (by omega), if_pos (by omega), rd1 (List.getElem?_eq_getElem hj'), w64 j (by omega)]
theorem termsw_l0 (x0 cs : List (List (List ByteArray))) (h0 : len20 x0 = true) (hc : len20 cs = true) :
    ∀ (d i : Nat) (n : Int), cs.length - i = d → i ≤ cs.length → Ev (fun k => laws_terms.l0 k x0 n cs (cs.length : Int) (i : Int)) (decide (wll n (cs.drop i) ≤ 2000) && asciiCs x0) := by
  have hl := len20_len hc
  intro d
  induction d with
  | zero =>
    intro i n hd hi
    obtain rfl : i = cs.length := by omega
    rw [List.drop_length]
    by_cases hn : n ≤ 2000
    · refine Ev.step (g := fun k => (spec_AsciiAll.f k x0).bind fun t => some t) (fun k => ?_) ?_
      · simp only [laws_terms.l0]; rw [if_neg (by omega), if_pos hn]
      · rw [decide_eq_true (show wll n [] ≤ 2000 from hn), Bool.true_and]
        exact Ev.bind (asciiwAll_ev x0 h0) (Ev.const _)
    · refine Ev.step (g := fun _ => some false) (fun k => ?_) ?_
      · simp only [laws_terms.l0]; rw [if_neg (by omega), if_neg hn]
      · rw [decide_eq_false (show ¬ wll n [] ≤ 2000 from hn), Bool.false_and]
        exact Ev.const _
  | succ d ih =>
    intro i n hd hi
    have hi' : i < cs.length := by omega
    rw [List.drop_eq_getElem_cons hi']
    refine Ev.step (g := fun k => laws_terms.l1 k x0 (wrap64 (n + (cs[i].length : Int))) cs (cs.length : Int) (i : Int) cs[i] (cs[i].length : Int) ((0 : Nat) : Int)) (fun k => ?_) ?_
    · simp only [laws_terms.l0]; rw [if_pos (by omega), if_pos (by omega), if_pos (by omega), rd2 (List.getElem?_eq_getElem hi')]; rfl
    · exact termsw_l1 x0 cs i (by omega) cs[i] (len19_len (len20_mem hc (List.getElem_mem hi'))) _ cs[i].length 0 _ (by omega) (by omega) (ih (i + 1) _ (by omega) (by omega))
theorem termsw_ev (cs : List (List (List ByteArray))) (tags : List ByteArray) (hc : len20 cs = true) : Ev (fun k => laws_terms.f k cs tags) (decide (wll (wrap64 ((tags.length : Int) + (cs.length : Int))) cs ≤ 2000) && asciiCs cs) := by
  unfold laws_terms.f
  have := termsw_l0 cs cs hc hc cs.length 0 (wrap64 ((tags.length : Int) + (cs.length : Int))) (by omega) (by omega)
  rwa [List.drop_zero] at this
theorem termsw_calls (A0 : Option Addr) (c0 : Nat) (A1 : Option Addr) (c1 : Nat) (w : World) (cs : List (List (List ByteArray))) (tags : List ByteArray) (hf : len20 cs = true) (hr0 : Kd.C (Kd.slice 24 (Kd.slice 9 Kd.string)) w A0 cs.length cs) (hc0 : cs.length ≤ c0) (hr1 : Kd.C Kd.string w A1 tags.length tags) (hc1 : tags.length ≤ c1) :
    Calls Tryd.prog 10 #[.slice A0 cs.length c0, .slice A1 tags.length c1] w fun e w' => e = .returned (.bool (termsB cs tags)) ∧ Below w.heap.size w w' := by
  obtain ⟨k, hk⟩ := (termsw_ev cs tags hf).ex
  exact (laws_terms.calls k A0 c0 cs A1 c1 tags _ w hr0 hc0 hr1 hc1 hk).mono fun e w' ⟨h1, h2⟩ => ⟨h1, h2.below⟩
theorem termsB_ascii {cs : List (List (List ByteArray))} {c : List (List ByteArray)} {o : List ByteArray} {name : ByteArray} {tags : List ByteArray} (h : termsB (cs ++ [c, [o, [name]]]) tags = true) : asciiCs cs = true ∧ asciiC c = true ∧ asciiO o = true ∧ asciiB name = true := by
  rw [termsB, Bool.and_eq_true] at h
  have h2 := h.2
  simp only [asciiCs, List.all_append, List.all_cons, List.all_nil, Bool.and_true, Bool.and_eq_true] at h2
  obtain ⟨h3, h4, h5⟩ := h2
  simp only [asciiC, asciiO, List.all_cons, List.all_nil, Bool.and_true, Bool.and_eq_true] at h5
  exact ⟨h3, h4, h5.1, h5.2⟩
theorem evalO_append (o tags : List ByteArray) (t : ByteArray) : evalO (o ++ [t]) tags = (evalO o tags && evalT t tags) := by simp [evalO]
theorem evalC_append (c : List (List ByteArray)) (tags : List ByteArray) (o : List ByteArray) : evalC (c ++ [o]) tags = (evalC c tags || evalO o tags) := by simp [evalC]
theorem evalCs_append (cs : List (List (List ByteArray))) (tags : List ByteArray) (c : List (List ByteArray)) : evalCs (cs ++ [c]) tags = (evalCs cs tags && evalC c tags) := by simp [evalCs]
def notT (s : ByteArray) : ByteArray := (⟨#[33]⟩ : ByteArray) ++ s
theorem notT_toList (s : ByteArray) : (notT s).data.toList = 33 :: s.data.toList := by unfold notT; simp
theorem ascii_not {s : ByteArray} (h : asciiB s = true) : asciiB (notT s) = true := by
  unfold asciiB; rw [notT_toList]
  exact (List.all_cons ..).trans (by rw [show asciiB s = s.data.toList.all fun b => decide (b.toNat < 128) from rfl] at h; rw [h]; rfl)
theorem eval_not {s : ByteArray} {tags : List ByteArray} (h1 : validB s = true) (h2 : validB (notT s) = true) : evalT (notT s) tags = !evalT s tags := by
  have hp : Lib.hasPrefix s.data.toList [33] = false := by
    cases h : Lib.hasPrefix s.data.toList [33] with
    | false => rfl
    | true =>
      exfalso
      have h3 : Lib.hasPrefix (notT s).data.toList [33, 33] = true := by
        rw [notT_toList]
        unfold Lib.hasPrefix at h ⊢
        cases hs : s.data.toList with
        | nil => rw [hs] at h; simp [List.isPrefixOf] at h
        | cons c t => rw [hs] at h; simp [List.isPrefixOf] at h ⊢; exact h
      unfold validB at h2
      rw [h3] at h2
      simp at h2
  have n1 : negT s = false := hp
  have n2 : negT (notT s) = true := by
    unfold negT; rw [notT_toList]; simp [Lib.hasPrefix, List.isPrefixOf]
  have m1 : nameT s = s := by
    apply ba_ext
    unfold nameT Lib.trimPrefix
    rw [hp]; rfl
  have m2 : nameT (notT s) = s := by
    apply ba_ext
    unfold nameT Lib.trimPrefix
    rw [notT_toList]
    simp [Lib.hasPrefix, List.isPrefixOf]
  unfold evalT
  rw [h1, h2, n1, n2, m1, m2]
  cases listedB tags s <;> rfl
end Go.Proofs.YtlmmjchdfngdgaaDoor.Pure
