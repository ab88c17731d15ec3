/- Plain laws of options and constraints: what the specification's loops compute. -/
import Derived.Test.YtlmmjchdfngdgaaDoorPt
namespace Go.Proofs.YtlmmjchdfngdgaaDoor.Pure
open Go.RowKit Go.Proofs.YtlmmjchdfngdgaaDoor.Q Go.Proofs.YtlmmjchdfngdgaaDoorW.PrintWords Go.Proofs.YtlmmjchdfngdgaaDoorW.PrintLast
theorem rd1 {l : List (List ByteArray)} {i : Nat} {x : List ByteArray} (h : l[i]? = some x) : rd_L1 l (i : Int) = x := by unfold rd_L1; simp [List.getD, h]
theorem rd2 {l : List (List (List ByteArray))} {i : Nat} {x : List (List ByteArray)} (h : l[i]? = some x) : rd_L2 l (i : Int) = x := by unfold rd_L2; simp [List.getD, h]
theorem mem_of_get {α : Type} {l : List α} {i : Nat} {x : α} (h : l[i]? = some x) : x ∈ l := List.mem_of_getElem? h
/-- A loop over a list, told by what is left of it: all. -/
theorem ev_cps {α : Type} (l : List α) (hl : l.length < 9223372036854775807) (V : α → Bool) (F : Nat → Int → Option Bool) (r : Bool)
    (hend : Ev (fun k => F k (l.length : Int)) r)
    (hstep : ∀ (i : Nat) (x : α) (r' : Bool), l[i]? = some x → Ev (fun k => F k ((i + 1 : Nat) : Int)) r' → Ev (fun k => F k (i : Int)) (V x && r')) :
    Ev (fun k => F k 0) (l.all V && r) := by
  have key : ∀ (d i : Nat), l.length - i = d → i ≤ l.length → Ev (fun k => F k (i : Int)) ((l.drop i).all V && r) := by
    intro d
    induction d with
    | zero =>
      intro i hd hi
      obtain rfl : i = l.length := by omega
      rw [List.drop_length, List.all_nil, Bool.true_and]
      exact hend
    | succ d ih =>
      intro i hd hi
      have hi' : i < l.length := by omega
      rw [List.drop_eq_getElem_cons hi', List.all_cons, Bool.and_assoc]
      exact hstep i _ _ (List.getElem?_eq_getElem hi') (ih (i + 1) (by omega) (by omega))
  have := key l.length 0 (by omega) (by omega)
  rwa [List.drop_zero] at this
/-- A loop that folds a list. -/
theorem ev_fold {α σ β : Type} (l : List α) (S : Nat → σ → α → σ) (I : Nat → σ → Prop) (F : Nat → σ → Int → Option β) (fin : σ → β)
    (hend : ∀ s, I l.length s → Ev (fun k => F k s (l.length : Int)) (fin s))
    (hstep : ∀ (i : Nat) (x : α) (s : σ) (r : β), l[i]? = some x → I i s → I (i + 1) (S i s x) ∧ (Ev (fun k => F k (S i s x) ((i + 1 : Nat) : Int)) r → Ev (fun k => F k s (i : Int)) r))
    (s0 : σ) (h0 : I 0 s0) : Ev (fun k => F k s0 0) (fin ((l.foldl (fun (p : Nat × σ) x => (p.1 + 1, S p.1 p.2 x)) (0, s0)).2)) := by
  have key : ∀ (d i : Nat) (s : σ), l.length - i = d → i ≤ l.length → I i s → Ev (fun k => F k s (i : Int)) (fin (((l.drop i).foldl (fun (p : Nat × σ) x => (p.1 + 1, S p.1 p.2 x)) (i, s)).2)) := by
    intro d
    induction d with
    | zero =>
      intro i s hd hi hs
      obtain rfl : i = l.length := by omega
      rw [List.drop_length, List.foldl_nil]
      exact hend s hs
    | succ d ih =>
      intro i s hd hi hs
      have hi' : i < l.length := by omega
      rw [List.drop_eq_getElem_cons hi', List.foldl_cons]
      obtain ⟨h1, h2⟩ := hstep i _ s (fin (((l.drop (i + 1)).foldl (fun (p : Nat × σ) x => (p.1 + 1, S p.1 p.2 x)) (i + 1, S i s l[i])).2)) (List.getElem?_eq_getElem hi') hs
      exact h2 (ih (i + 1) _ (by omega) (by omega) h1)
  have := key l.length 0 s0 (by omega) (by omega) h0
  rwa [List.drop_zero] at this

theorem okO_mem {o : List ByteArray} (h : okO o = true) {t : ByteArray} (ht : t ∈ o) : asciiB t = true ∧ t.size ≤ 140737488355328 := by
  have := List.all_eq_true.1 h t ht
  simpa using this
theorem okC_mem {c : List (List ByteArray)} (h : okC c = true) {o : List ByteArray} (ho : o ∈ c) : okO o = true ∧ o.length < 4294967296 := by
  have := List.all_eq_true.1 h o ho
  simpa using this
theorem okCs_mem {cs : List (List (List ByteArray))} (h : okCs cs = true) {c : List (List ByteArray)} (hc : c ∈ cs) : okC c = true ∧ c.length < 4294967296 := by
  have := List.all_eq_true.1 h c hc
  simpa using this

/-! ### terms under tags -/
theorem listed_ev (l : List ByteArray) (hl : l.length < 9223372036854775807) (n : ByteArray) : Ev (fun k => spec_tagsListed.f k l n) (listedB l n) := by
  unfold spec_tagsListed.f listedB
  refine ev_any l hl _ (fun k i => spec_tagsListed.l0 k n l (l.length : Int) i) (fun k => ?_) (fun i x h => ⟨fun _ => some (decide (x = n)), Ev.const _, fun k => ?_⟩)
  · simp only [spec_tagsListed.l0]; rw [if_neg (by omega)]
  · have := lt_of_get h
    simp only [spec_tagsListed.l0, Option.bind_some]
    rw [if_pos (by omega), if_pos (by omega), if_pos (by omega), rdS h]
    by_cases e : x = n
    · subst e; rw [if_pos rfl, decide_eq_true rfl, if_pos rfl]
    · rw [if_neg (fun h' => e (ba_ext (by simpa [Lib.toList_data] using h'))), decide_eq_false e, if_neg (by simp)]
theorem termEval_ev (s : ByteArray) (l : List ByteArray) (hl : l.length < 9223372036854775807) (hs : s.size < 9223372036854775807) (ha : asciiB s = true) : Ev (fun k => spec_TermEvaluate.f k s l) (evalT s l) := by
  unfold spec_TermEvaluate.f evalT
  simp only [parts_eq, Option.bind_some]
  refine Ev.bind (g := fun k t => if t = true then (spec_tagsListed.f k l (nameT s)).bind fun u => some (u != negT s) else some false) (valid_ev s hs ha) ?_
  cases validB s with
  | false => simp only [Bool.false_and]; exact Ev.const _
  | true =>
    simp only [if_true, Bool.true_and]
    refine Ev.bind (g := fun _ u => some (u != negT s)) (listed_ev l hl (nameT s)) ?_
    have e : (listedB l (nameT s) == !(negT s)) = (listedB l (nameT s) != negT s) := by cases listedB l (nameT s) <;> cases negT s <;> rfl
    rw [e]; exact Ev.const _
theorem optEval_ev (tags : List ByteArray) (ht : tags.length < 9223372036854775807) (o : List ByteArray) (hl : o.length < 9223372036854775807) (ho : okO o = true) : Ev (fun k => spec_OptionEvaluate.f k o tags) (evalO o tags) := by
  unfold spec_OptionEvaluate.f evalO
  refine ev_all o hl _ (fun k i => spec_OptionEvaluate.l0 k tags o (o.length : Int) i) (fun k => ?_) (fun i x h => ⟨fun k => spec_TermEvaluate.f k x tags, ?_, fun k => ?_⟩)
  · simp only [spec_OptionEvaluate.l0]; rw [if_neg (by omega)]
  · obtain ⟨h1, h2⟩ := okO_mem ho (mem_of_get h)
    exact termEval_ev x tags ht (by omega) h1
  · have := lt_of_get h
    simp only [spec_OptionEvaluate.l0]
    rw [if_pos (by omega), if_pos (by omega), if_pos (by omega), rdS h]
theorem conEval_ev (tags : List ByteArray) (ht : tags.length < 9223372036854775807) (c : List (List ByteArray)) (hl : c.length < 9223372036854775807) (hc : okC c = true) : Ev (fun k => spec_ConstraintEvaluate.f k c tags) (evalC c tags) := by
  unfold spec_ConstraintEvaluate.f evalC
  refine ev_any c hl _ (fun k i => spec_ConstraintEvaluate.l0 k tags c (c.length : Int) i) (fun k => ?_) (fun i x h => ⟨fun k => spec_OptionEvaluate.f k x tags, ?_, fun k => ?_⟩)
  · simp only [spec_ConstraintEvaluate.l0]; rw [if_neg (by omega)]
  · obtain ⟨h1, h2⟩ := okC_mem hc (mem_of_get h)
    exact optEval_ev tags ht x (by omega) h1
  · have := lt_of_get h
    simp only [spec_ConstraintEvaluate.l0]
    rw [if_pos (by omega), if_pos (by omega), if_pos (by omega), rd1 h]
theorem consEval_ev (tags : List ByteArray) (ht : tags.length < 9223372036854775807) (c : List (List (List ByteArray))) (hl : c.length < 9223372036854775807) (hc : okCs c = true) : Ev (fun k => spec_ConstraintsEvaluate.f k c tags) (evalCs c tags) := by
  unfold spec_ConstraintsEvaluate.f evalCs
  refine ev_all c hl _ (fun k i => spec_ConstraintsEvaluate.l0 k tags c (c.length : Int) i) (fun k => ?_) (fun i x h => ⟨fun k => spec_ConstraintEvaluate.f k x tags, ?_, fun k => ?_⟩)
  · simp only [spec_ConstraintsEvaluate.l0]; rw [if_neg (by omega)]
  · obtain ⟨h1, h2⟩ := okCs_mem hc (mem_of_get h)
    exact conEval_ev tags ht x (by omega) h1
  · have := lt_of_get h
    simp only [spec_ConstraintsEvaluate.l0]
    rw [if_pos (by omega), if_pos (by omega), if_pos (by omega), rd2 h]

/-! ### validity -/
theorem optValid_ev (o : List ByteArray) (hl : o.length < 9223372036854775807) (ho : okO o = true) : Ev (fun k => spec_OptionValid.f k o) (validO o) := by
  unfold spec_OptionValid.f validO
  refine ev_all o hl _ (fun k i => spec_OptionValid.l0 k o (o.length : Int) i) (fun k => ?_) (fun i x h => ⟨fun k => spec_TermValid.f k x, ?_, fun k => ?_⟩)
  · simp only [spec_OptionValid.l0]; rw [if_neg (by omega)]
  · obtain ⟨h1, h2⟩ := okO_mem ho (mem_of_get h)
    exact valid_ev x (by omega) h1
  · have := lt_of_get h
    simp only [spec_OptionValid.l0]
    rw [if_pos (by omega), if_pos (by omega), if_pos (by omega), rdS h]
theorem conValid_ev (c : List (List ByteArray)) (hl : c.length < 9223372036854775807) (hc : okC c = true) : Ev (fun k => spec_ConstraintValid.f k c) (validC c) := by
  unfold spec_ConstraintValid.f validC
  refine ev_all c hl _ (fun k i => spec_ConstraintValid.l0 k c (c.length : Int) i) (fun k => ?_) (fun i x h => ⟨fun k => spec_OptionValid.f k x, ?_, fun k => ?_⟩)
  · simp only [spec_ConstraintValid.l0]; rw [if_neg (by omega)]
  · obtain ⟨h1, h2⟩ := okC_mem hc (mem_of_get h)
    exact optValid_ev x (by omega) h1
  · have := lt_of_get h
    simp only [spec_ConstraintValid.l0]
    rw [if_pos (by omega), if_pos (by omega), if_pos (by omega), rd1 h]
theorem consValid_ev (c : List (List (List ByteArray))) (hl : c.length < 9223372036854775807) (hc : okCs c = true) : Ev (fun k => spec_ConstraintsValid.f k c) (validCs c) := by
  unfold spec_ConstraintsValid.f validCs
  refine ev_all c hl _ (fun k i => spec_ConstraintsValid.l0 k c (c.length : Int) i) (fun k => ?_) (fun i x h => ⟨fun k => spec_ConstraintValid.f k x, ?_, fun k => ?_⟩)
  · simp only [spec_ConstraintsValid.l0]; rw [if_neg (by omega)]
  · obtain ⟨h1, h2⟩ := okCs_mem hc (mem_of_get h)
    exact conValid_ev x (by omega) h1
  · have := lt_of_get h
    simp only [spec_ConstraintsValid.l0]
    rw [if_pos (by omega), if_pos (by omega), if_pos (by omega), rd2 h]

/-! ### sizes -/
def fit7 (l : List ByteArray) : Bool := decide (l.length ≤ 2147483647) && l.all fun s => decide (s.size ≤ 2147483647)
def fit19 (l : List (List ByteArray)) : Bool := decide (l.length ≤ 2147483647) && l.all fit7
def fit20 (l : List (List (List ByteArray))) : Bool := decide (l.length ≤ 2147483647) && l.all fit19
theorem fit7_ev (l : List ByteArray) : Ev (fun k => laws_zzFits7.f k l) (fit7 l) := by
  unfold laws_zzFits7.f fit7
  by_cases hl : (l.length : Int) > 2147483647
  · simp only [if_pos hl]; rw [decide_eq_false (by omega), Bool.false_and]; exact Ev.const _
  · simp only [if_neg hl]; rw [decide_eq_true (by omega), Bool.true_and]
    refine ev_all l (by omega) _ (fun k i => laws_zzFits7.l0 k l (l.length : Int) i) (fun k => ?_) (fun i x h => ⟨fun _ => some (decide (x.size ≤ 2147483647)), Ev.const _, fun k => ?_⟩)
    · simp only [laws_zzFits7.l0]; rw [if_neg (by omega)]
    · have := lt_of_get h
      simp only [laws_zzFits7.l0, Option.bind_some]
      rw [if_pos (by omega), if_pos (by omega), if_pos (by omega), rdS h]
      by_cases e : x.size ≤ 2147483647
      · rw [if_neg (by omega), decide_eq_true e, if_pos rfl]
      · rw [if_pos (by omega), decide_eq_false e, if_neg (by simp)]
theorem fit19_ev (l : List (List ByteArray)) : Ev (fun k => laws_zzFits19.f k l) (fit19 l) := by
  unfold laws_zzFits19.f fit19
  by_cases hl : (l.length : Int) > 2147483647
  · simp only [if_pos hl]; rw [decide_eq_false (by omega), Bool.false_and]; exact Ev.const _
  · simp only [if_neg hl]; rw [decide_eq_true (by omega), Bool.true_and]
    refine ev_all l (by omega) _ (fun k i => laws_zzFits19.l0 k l (l.length : Int) i) (fun k => ?_) (fun i x h => ⟨fun k => laws_zzFits7.f k x, fit7_ev x, fun k => ?_⟩)
    · simp only [laws_zzFits19.l0]; rw [if_neg (by omega)]
    · have := lt_of_get h
      simp only [laws_zzFits19.l0]
      rw [if_pos (by omega), if_pos (by omega), if_pos (by omega), rd1 h]
theorem fit20_ev (l : List (List (List ByteArray))) : Ev (fun k => laws_zzFits20.f k l) (fit20 l) := by
  unfold laws_zzFits20.f fit20
  by_cases hl : (l.length : Int) > 2147483647
  · simp only [if_pos hl]; rw [decide_eq_false (by omega), Bool.false_and]; exact Ev.const _
  · simp only [if_neg hl]; rw [decide_eq_true (by omega), Bool.true_and]
    refine ev_all l (by omega) _ (fun k i => laws_zzFits20.l0 k l (l.length : Int) i) (fun k => ?_) (fun i x h => ⟨fun k => laws_zzFits19.f k x, fit19_ev x, fun k => ?_⟩)
    · simp only [laws_zzFits20.l0]; rw [if_neg (by omega)]
    · have := lt_of_get h
      simp only [laws_zzFits20.l0]
      rw [if_pos (by omega), if_pos (by omega), if_pos (by omega), rd2 h]
theorem fit7_len {l : List ByteArray} (h : fit7 l = true) : l.length ≤ 2147483647 := by simp only [fit7, Bool.and_eq_true, decide_eq_true_eq] at h; exact h.1
theorem fit7_mem {l : List ByteArray} (h : fit7 l = true) {t : ByteArray} (ht : t ∈ l) : t.size ≤ 2147483647 := by
  simp only [fit7, Bool.and_eq_true, decide_eq_true_eq] at h
  simpa using List.all_eq_true.1 h.2 t ht
theorem fit19_len {l : List (List ByteArray)} (h : fit19 l = true) : l.length ≤ 2147483647 := by simp only [fit19, Bool.and_eq_true, decide_eq_true_eq] at h; exact h.1
theorem fit19_mem {l : List (List ByteArray)} (h : fit19 l = true) {t : List ByteArray} (ht : t ∈ l) : fit7 t = true := by
  simp only [fit19, Bool.and_eq_true, decide_eq_true_eq] at h
  exact List.all_eq_true.1 h.2 t ht
theorem fit20_len {l : List (List (List ByteArray))} (h : fit20 l = true) : l.length ≤ 2147483647 := by simp only [fit20, Bool.and_eq_true, decide_eq_true_eq] at h; exact h.1
theorem fit20_mem {l : List (List (List ByteArray))} (h : fit20 l = true) {t : List (List ByteArray)} (ht : t ∈ l) : fit19 t = true := by
  simp only [fit20, Bool.and_eq_true, decide_eq_true_eq] at h
  exact List.all_eq_true.1 h.2 t ht

/-! ### bytes below 128 -/
def asciiO (o : List ByteArray) : Bool := o.all asciiB
def asciiC (c : List (List ByteArray)) : Bool := c.all asciiO
def asciiCs (cs : List (List (List ByteArray))) : Bool := cs.all asciiC
theorem ascii_ev (s : ByteArray) (hs : s.size < 9223372036854775807) : Ev (fun k => spec_Ascii.f k s) (asciiB s) := by
  unfold spec_Ascii.f asciiB
  have hl : s.data.toList.length = s.size := (Lib.size_eq s).symm
  refine ev_all s.data.toList (by omega) _ (fun k i => spec_Ascii.l0 k s i) (fun k => ?_) (fun i x h => ⟨fun _ => some (decide (x.toNat < 128)), Ev.const _, fun k => ?_⟩)
  · simp only [spec_Ascii.l0]; rw [if_neg (by omega)]
  · have hi := lt_of_get h
    have hi' : i < s.size := by omega
    have e : bt s (i : Int) = (x.toNat : Int) := by
      unfold bt
      rw [dif_pos (show ((i : Int)).toNat < s.size by simpa using hi')]
      have : s[((i : Int)).toNat]'(by simpa using hi') = x := by
        show s.data[((i : Int)).toNat]'_ = x
        have h2 := h
        rw [Array.getElem?_toList] at h2
        exact (Array.getElem?_eq_some_iff.1 h2).2
      rw [this]
    simp only [spec_Ascii.l0, Option.bind_some]
    rw [if_pos (by omega), if_pos (by omega), e]
    by_cases c : x.toNat < 128
    · rw [if_neg (by omega), decide_eq_true c, if_pos rfl]
    · rw [if_pos (by omega), decide_eq_false c, if_neg (by simp)]
theorem ascii_l2 (cs : List (List (List ByteArray))) (i : Nat) (c : List (List ByteArray)) (j : Nat) (o : List ByteArray) (ho : fit7 o = true) (hj : j < 9223372036854775807) (r : Bool)
    (h : Ev (fun k => spec_AsciiAll.l1 k cs (cs.length : Int) (i : Int) c (c.length : Int) ((j + 1 : Nat) : Int)) r) :
    Ev (fun k => spec_AsciiAll.l2 k cs (cs.length : Int) (i : Int) c (c.length : Int) (j : Int) o (o.length : Int) 0) (asciiO o && r) := by
  have hl := fit7_len ho
  refine ev_cps o (by omega) asciiB (fun k m => spec_AsciiAll.l2 k cs (cs.length : Int) (i : Int) c (c.length : Int) (j : Int) o (o.length : Int) m) r ?_ ?_
  · refine Ev.step (g := fun k => spec_AsciiAll.l1 k cs (cs.length : Int) (i : Int) c (c.length : Int) ((j + 1 : Nat) : Int)) (fun k => ?_) h
    simp only [spec_AsciiAll.l2]; rw [if_neg (by omega), w64 j hj]
  · intro m x r' hx hr'
    have hm := lt_of_get hx
    refine Ev.step (g := fun k => (spec_Ascii.f k x).bind fun t => if t = true then spec_AsciiAll.l2 k cs (cs.length : Int) (i : Int) c (c.length : Int) (j : Int) o (o.length : Int) ((m + 1 : Nat) : Int) else some false) (fun k => ?_) ?_
    · simp only [spec_AsciiAll.l2]; rw [if_pos (by omega), if_pos (by omega), if_pos (by omega), rdS hx, w64 m (by omega)]
    · refine Ev.bind (ascii_ev x (by have := fit7_mem ho (mem_of_get hx); omega)) ?_
      cases asciiB x with
      | true => simpa using hr'
      | false => simpa using Ev.const false
theorem ascii_l1 (cs : List (List (List ByteArray))) (i : Nat) (hi : i < 9223372036854775807) (c : List (List ByteArray)) (hc : fit19 c = true) (r : Bool)
    (h : Ev (fun k => spec_AsciiAll.l0 k cs (cs.length : Int) ((i + 1 : Nat) : Int)) r) :
    Ev (fun k => spec_AsciiAll.l1 k cs (cs.length : Int) (i : Int) c (c.length : Int) 0) (asciiC c && r) := by
  have hl := fit19_len hc
  refine ev_cps c (by omega) asciiO (fun k m => spec_AsciiAll.l1 k cs (cs.length : Int) (i : Int) c (c.length : Int) m) r ?_ ?_
  · refine Ev.step (g := fun k => spec_AsciiAll.l0 k cs (cs.length : Int) ((i + 1 : Nat) : Int)) (fun k => ?_) h
    simp only [spec_AsciiAll.l1]; rw [if_neg (by omega), w64 i hi]
  · intro m x r' hx hr'
    have hm := lt_of_get hx
    refine Ev.step (g := fun k => spec_AsciiAll.l2 k cs (cs.length : Int) (i : Int) c (c.length : Int) (m : Int) x (x.length : Int) 0) (fun k => ?_) (ascii_l2 cs i c m x (fit19_mem hc (mem_of_get hx)) (by omega) r' hr')
    simp only [spec_AsciiAll.l1]; rw [if_pos (by omega), if_pos (by omega), if_pos (by omega), rd1 hx]
theorem asciiAll_ev (cs : List (List (List ByteArray))) (hc : fit20 cs = true) : Ev (fun k => spec_AsciiAll.f k cs) (asciiCs cs) := by
  have hl := fit20_len hc
  have := ev_cps cs (by omega) asciiC (fun k m => spec_AsciiAll.l0 k cs (cs.length : Int) m) true ?_ ?_
  · rw [Bool.and_true] at this; exact this
  · refine Ev.step (g := fun _ => some true) (fun k => ?_) (Ev.const _)
    simp only [spec_AsciiAll.l0]; rw [if_neg (by omega)]
  · intro m x r' hx hr'
    have hm := lt_of_get hx
    refine Ev.step (g := fun k => spec_AsciiAll.l1 k cs (cs.length : Int) (m : Int) x (x.length : Int) 0) (fun k => ?_) (ascii_l1 cs m (by omega) x (fit20_mem hc (mem_of_get hx)) r' hr')
    simp only [spec_AsciiAll.l0]; rw [if_pos (by omega), if_pos (by omega), if_pos (by omega), rd2 hx]

/-! ### how many terms -/
def wl (n : Int) (c : List (List ByteArray)) : Int := c.foldl (fun n o => wrap64 (n + (o.length : Int))) n
def wll (n : Int) (cs : List (List (List ByteArray))) : Int := cs.foldl (fun n c => wl (wrap64 (n + (c.length : Int))) c) n
theorem terms_l1 (x0 cs : List (List (List ByteArray))) (i : Nat) (hi : i < 9223372036854775807) (c : List (List ByteArray)) (hl : c.length ≤ 2147483647) (r : Bool) :
    ∀ (d j : Nat) (n : Int), c.length - j = d → j ≤ c.length → Ev (fun k => laws_terms.l0 k x0 (wl n (c.drop j)) cs (cs.length : Int) ((i + 1 : Nat) : Int)) r → Ev (fun k => laws_terms.l1 k x0 n cs (cs.length : Int) (i : Int) c (c.length : Int) (j : Int)) r := by
  intro d
  induction d with
  | zero =>
    intro j n hd hj h
    obtain rfl : j = c.length := by omega
    rw [List.drop_length] at h
    refine Ev.step (g := fun k => laws_terms.l0 k x0 n cs (cs.length : Int) ((i + 1 : Nat) : Int)) (fun k => ?_) h
    simp only [laws_terms.l1]; rw [if_neg (by omega), w64 i hi]
  | succ d ih =>
    intro j n hd hj h
    have hj' : j < c.length := by omega
    rw [List.drop_eq_getElem_cons hj'] at h
    refine Ev.step (g := fun k => laws_terms.l1 k x0 (wrap64 (n + (c[j].length : Int))) cs (cs.length : Int) (i : Int) c (c.length : Int) ((j + 1 : Nat) : Int)) (fun k => ?_) (ih (j + 1) _ (by omega) (by omega) h)
    simp only [laws_terms.l1]; rw [if_pos (by omega), if_pos (by omega), if_pos (by omega), rd1 (List.getElem?_eq_getElem hj'), w64 j (by omega)]
theorem terms_l0 (x0 cs : List (List (List ByteArray))) (h0 : fit20 x0 = true) (hc : fit20 cs = true) :
    ∀ (d i : Nat) (n : Int), cs.length - i = d → i ≤ cs.length → Ev (fun k => laws_terms.l0 k x0 n cs (cs.length : Int) (i : Int)) (decide (wll n (cs.drop i) ≤ 2000) && asciiCs x0) := by
  have hl := fit20_len hc
  intro d
  induction d with
  | zero =>
    intro i n hd hi
    obtain rfl : i = cs.length := by omega
    rw [List.drop_length]
    by_cases hn : n ≤ 2000
    · refine Ev.step (g := fun k => (spec_AsciiAll.f k x0).bind fun t => some t) (fun k => ?_) ?_
      · simp only [laws_terms.l0]; rw [if_neg (by omega), if_pos hn]
      · rw [decide_eq_true (show wll n [] ≤ 2000 from hn), Bool.true_and]
        exact Ev.bind (asciiAll_ev x0 h0) (Ev.const _)
    · refine Ev.step (g := fun _ => some false) (fun k => ?_) ?_
      · simp only [laws_terms.l0]; rw [if_neg (by omega), if_neg hn]
      · rw [decide_eq_false (show ¬ wll n [] ≤ 2000 from hn), Bool.false_and]
        exact Ev.const _
  | succ d ih =>
    intro i n hd hi
    have hi' : i < cs.length := by omega
    rw [List.drop_eq_getElem_cons hi']
    refine Ev.step (g := fun k => laws_terms.l1 k x0 (wrap64 (n + (cs[i].length : Int))) cs (cs.length : Int) (i : Int) cs[i] (cs[i].length : Int) ((0 : Nat) : Int)) (fun k => ?_) ?_
    · simp only [laws_terms.l0]; rw [if_pos (by omega), if_pos (by omega), if_pos (by omega), rd2 (List.getElem?_eq_getElem hi')]; rfl
    · exact terms_l1 x0 cs i (by omega) cs[i] (fit19_len (fit20_mem hc (List.getElem_mem hi'))) _ cs[i].length 0 _ (by omega) (by omega) (ih (i + 1) _ (by omega) (by omega))
theorem terms_ev (cs : List (List (List ByteArray))) (tags : List ByteArray) (hc : fit20 cs = true) : Ev (fun k => laws_terms.f k cs tags) (decide (wll (wrap64 ((tags.length : Int) + (cs.length : Int))) cs ≤ 2000) && asciiCs cs) := by
  unfold laws_terms.f
  have := terms_l0 cs cs hc hc cs.length 0 (wrap64 ((tags.length : Int) + (cs.length : Int))) (by omega) (by omega)
  rwa [List.drop_zero] at this
theorem okO_of {o : List ByteArray} (h : fit7 o = true) (ha : asciiO o = true) : okO o = true := by
  refine List.all_eq_true.2 fun t ht => ?_
  have h1 := fit7_mem h ht
  have h2 := List.all_eq_true.1 ha t ht
  rw [h2, decide_eq_true (by omega)]; rfl
theorem okC_of {c : List (List ByteArray)} (h : fit19 c = true) (ha : asciiC c = true) : okC c = true := by
  refine List.all_eq_true.2 fun t ht => ?_
  have h1 := fit7_len (fit19_mem h ht)
  rw [okO_of (fit19_mem h ht) (List.all_eq_true.1 ha t ht), decide_eq_true (by omega)]; rfl
theorem okCs_of {c : List (List (List ByteArray))} (h : fit20 c = true) (ha : asciiCs c = true) : okCs c = true := by
  refine List.all_eq_true.2 fun t ht => ?_
  have h1 := fit19_len (fit20_mem h ht)
  rw [okC_of (fit20_mem h ht) (List.all_eq_true.1 ha t ht), decide_eq_true (by omega)]; rfl
theorem okTags_of {l : List ByteArray} (h : fit7 l = true) : okTags l = true := by
  refine List.all_eq_true.2 fun t ht => ?_
  have h1 := fit7_mem h ht
  exact decide_eq_true (by omega)
end Go.Proofs.YtlmmjchdfngdgaaDoor.Pure
