/- Plain laws of texts: how options and constraints are written. -/
import Derived.Test.YtlmmjchdfngdgaaDoorPv
namespace Go.Proofs.YtlmmjchdfngdgaaDoor.Pure
open Go.RowKit Go.Proofs.YtlmmjchdfngdgaaDoor.Q Go.Proofs.YtlmmjchdfngdgaaDoorW.PrintWords Go.Proofs.YtlmmjchdfngdgaaDoorW.PrintLast
def wO (o : List ByteArray) : Nat := (o.map fun t => t.size + 1).sum
def wC (c : List (List ByteArray)) : Nat := 10 + (c.map fun o => 1 + wO o).sum
def wCs (cs : List (List (List ByteArray))) : Nat := (cs.map wC).sum
def stepO (i : Nat) (s x : ByteArray) : ByteArray := if i > 0 then s ++ (⟨#[44]⟩ : ByteArray) ++ x else s ++ x
theorem textO_ev (o : List ByteArray) (hl : o.length < 9223372036854775807) (hw : wO o < 9223372036854775807) : Ev (fun k => spec_OptionText.f k o) ((o.foldl (fun (p : Nat × ByteArray) x => (p.1 + 1, stepO p.1 p.2 x)) (0, ⟨#[]⟩)).2) := by
  unfold spec_OptionText.f
  refine ev_fold o stepO (fun i s => s.size + wO (o.drop i) ≤ wO o) (fun k s i => spec_OptionText.l0 k s o (o.length : Int) i) id (fun s hs => ?_) (fun i x s r h hI => ?_) _ (by rw [List.drop_zero]; show 0 + wO o ≤ wO o; omega)
  · refine Ev.step (g := fun _ => some s) (fun k => ?_) (Ev.const _)
    simp only [spec_OptionText.l0]; rw [if_neg (by omega)]
  · have hi := lt_of_get h
    obtain ⟨_, hx⟩ := List.getElem?_eq_some_iff.1 h
    have hI' : s.size + (x.size + 1 + wO (o.drop (i + 1))) ≤ wO o := by
      have e : wO (o.drop i) = x.size + 1 + wO (o.drop (i + 1)) := by
        rw [List.drop_eq_getElem_cons hi, hx]; simp [wO]
      omega
    have e44 : (⟨#[44]⟩ : ByteArray).size = 1 := rfl
    constructor
    · show (stepO i s x).size + wO (o.drop (i + 1)) ≤ wO o
      unfold stepO
      split
      · simp only [ByteArray.size_append, e44]; omega
      · simp only [ByteArray.size_append]; omega
    · intro h2
      refine Ev.step (g := fun k => spec_OptionText.l0 k (stepO i s x) o (o.length : Int) ((i + 1 : Nat) : Int)) (fun k => ?_) h2
      simp only [spec_OptionText.l0]
      rw [if_pos (by omega), if_pos (by omega), if_pos (by omega), rdS h, w64 i (by omega)]
      unfold stepO
      by_cases c : i > 0
      · rw [if_pos (by omega), if_pos (by omega), if_pos (by simp only [ByteArray.size_append, e44]; omega), if_pos c]
      · rw [if_neg (by omega), if_pos (by omega), if_neg c]
theorem foldO_behind : ∀ (o : List ByteArray) (i : Nat) (s : ByteArray), 0 < i → ((o.foldl (fun (p : Nat × ByteArray) x => (p.1 + 1, stepO p.1 p.2 x)) (i, s)).2).data.toList = s.data.toList ++ (o.map fun x => 44 :: x.data.toList).flatten
  | [], i, s, _ => by simp
  | x :: o, i, s, hi => by
    rw [List.foldl_cons, foldO_behind o (i + 1) _ (by omega)]
    simp [stepO, hi]
theorem join_cons : ∀ (x : List UInt8) (l : List (List UInt8)), Lib.join (x :: l) [44] = x ++ (l.map fun y => 44 :: y).flatten
  | x, [] => by simp [Lib.join, List.intercalate]
  | x, y :: l => by
    have := join_cons y l
    simp only [Lib.join, List.intercalate] at this ⊢
    rw [List.intersperse_cons_cons, List.flatten_cons, List.flatten_cons, this]
    simp
theorem textO_eq (o : List ByteArray) : ((o.foldl (fun (p : Nat × ByteArray) x => (p.1 + 1, stepO p.1 p.2 x)) (0, ⟨#[]⟩)).2) = textO o := by
  apply ba_ext
  cases o with
  | nil => rfl
  | cons x o =>
    rw [List.foldl_cons, foldO_behind o (0 + 1) _ (by omega)]
    unfold textO
    rw [List.map_cons, join_cons]
    simp [stepO, List.map_map, Function.comp_def]
theorem join_len : ∀ (l : List (List UInt8)), (Lib.join l [44]).length ≤ (l.map fun t => t.length + 1).sum
  | [] => by simp [Lib.join, List.intercalate]
  | x :: l => by
    have h : ∀ (l : List (List UInt8)), ((l.map fun y => (44 : UInt8) :: y).flatten).length = (l.map fun t => t.length + 1).sum := by
      intro l
      induction l with
      | nil => rfl
      | cons y l ih => simp [ih]; omega
    rw [join_cons, List.length_append, h, List.map_cons, List.sum_cons]
    omega
theorem joinO_len (o : List ByteArray) : (Lib.join (o.map (·.data.toList)) [44]).length ≤ wO o := by
  refine Nat.le_trans (join_len _) ?_
  rw [List.map_map]
  refine Nat.le_of_eq ?_
  unfold wO
  refine congrArg List.sum (List.map_congr_left fun t _ => ?_)
  rw [Lib.size_eq]; rfl
theorem textO_size (o : List ByteArray) : (textO o).size ≤ wO o := by
  rw [Lib.size_eq]
  show (Lib.join (o.map (·.data.toList)) [44]).toArray.toList.length ≤ wO o
  simpa using joinO_len o
theorem optText_ev (o : List ByteArray) (hl : o.length < 9223372036854775807) (hw : wO o < 9223372036854775807) : Ev (fun k => spec_OptionText.f k o) (textO o) := by
  have := textO_ev o hl hw
  rwa [textO_eq] at this
theorem fold_snd {α σ : Type} (S : σ → α → σ) : ∀ (l : List α) (i : Nat) (s : σ), ((l.foldl (fun (p : Nat × σ) x => (p.1 + 1, S p.2 x)) (i, s)).2) = l.foldl S s
  | [], _, _ => rfl
  | x :: l, i, s => by rw [List.foldl_cons, List.foldl_cons, fold_snd S l]
theorem mem_sum {α : Type} (f : α → Nat) : ∀ (l : List α) {x : α}, x ∈ l → f x ≤ (l.map f).sum
  | y :: l, x, h => by
    rw [List.map_cons, List.sum_cons]
    rcases List.mem_cons.1 h with rfl | h
    · omega
    · have := mem_sum f l h; omega
theorem conText_ev (c : List (List ByteArray)) (hl : c.length < 9223372036854775807) (hlo : ∀ o ∈ c, o.length < 9223372036854775807) (hw : wC c < 9223372036854775807) : Ev (fun k => spec_ConstraintText.f k c) (textC c) ∧ (textC c).size ≤ wC c := by
  have hh : headC.size = 9 := rfl
  have e10 : (⟨#[10]⟩ : ByteArray).size = 1 := rfl
  have e32 : (⟨#[32]⟩ : ByteArray).size = 1 := rfl
  have hsz : ∀ (l : List (List ByteArray)) (s : ByteArray), (l.foldl (fun s o => s ++ ((⟨#[32]⟩ : ByteArray) ++ textO o)) s).size ≤ s.size + (l.map fun o => 1 + wO o).sum := by
    intro l
    induction l with
    | nil => intro s; simp
    | cons o l ih =>
      intro s
      rw [List.foldl_cons, List.map_cons, List.sum_cons]
      refine Nat.le_trans (ih _) ?_
      have := textO_size o
      simp only [ByteArray.size_append, e32]
      omega
  refine ⟨?_, ?_⟩
  · unfold spec_ConstraintText.f
    have h := ev_fold c (fun _ s o => s ++ ((⟨#[32]⟩ : ByteArray) ++ textO o)) (fun i s => s.size + ((c.drop i).map fun o => 1 + wO o).sum + 1 ≤ wC c) (fun k s i => spec_ConstraintText.l0 k s c (c.length : Int) i) (fun s => s ++ (⟨#[10]⟩ : ByteArray)) (fun s hs => ?_) (fun i x s r h hI => ?_) headC (by rw [List.drop_zero, hh]; unfold wC; omega)
    · rw [fold_snd (fun s o => s ++ ((⟨#[32]⟩ : ByteArray) ++ textO o))] at h
      exact h
    · refine Ev.step (g := fun _ => some (s ++ (⟨#[10]⟩ : ByteArray))) (fun k => ?_) (Ev.const _)
      simp only [spec_ConstraintText.l0]; rw [if_neg (by omega), if_pos (by omega)]
    · have hi := lt_of_get h
      obtain ⟨_, hx⟩ := List.getElem?_eq_some_iff.1 h
      have e : ((c.drop i).map fun o => 1 + wO o).sum = 1 + wO x + ((c.drop (i + 1)).map fun o => 1 + wO o).sum := by
        rw [List.drop_eq_getElem_cons hi, hx]; simp
      have ht := textO_size x
      constructor
      · simp only [ByteArray.size_append, e32]; omega
      · intro h2
        refine Ev.step (g := fun k => (spec_OptionText.f k x).bind fun t => if 1 + t.size ≤ 9223372036854775807 then (if s.size + ((⟨#[32]⟩ : ByteArray) ++ t).size ≤ 9223372036854775807 then spec_ConstraintText.l0 k (s ++ ((⟨#[32]⟩ : ByteArray) ++ t)) c (c.length : Int) ((i + 1 : Nat) : Int) else none) else none) (fun k => ?_) ?_
        · simp only [spec_ConstraintText.l0]
          rw [if_pos (by omega), if_pos (by omega), if_pos (by omega), rd1 h, w64 i (by omega)]
        · refine Ev.bind (optText_ev x (hlo x (mem_of_get h)) (by omega)) ?_
          have c1 : 1 + (textO x).size ≤ 9223372036854775807 := by omega
          have c2 : s.size + ((⟨#[32]⟩ : ByteArray) ++ textO x).size ≤ 9223372036854775807 := by simp only [ByteArray.size_append, e32]; omega
          simp only [if_pos c1, if_pos c2]
          exact h2
  · unfold textC linesC wC
    have := hsz c headC
    rw [hh] at this
    simp only [ByteArray.size_append, e10]
    omega
theorem consText_ev (cs : List (List (List ByteArray))) (hl : cs.length < 9223372036854775807) (hlc : ∀ c ∈ cs, c.length < 9223372036854775807 ∧ ∀ o ∈ c, o.length < 9223372036854775807) (hw : wCs cs < 9223372036854775807) : Ev (fun k => spec_ConstraintsText.f k cs) (textCs cs) := by
  unfold spec_ConstraintsText.f
  have h := ev_fold cs (fun _ s c => s ++ textC c) (fun i s => s.size + wCs (cs.drop i) ≤ wCs cs) (fun k s i => spec_ConstraintsText.l0 k s cs (cs.length : Int) i) id (fun s hs => ?_) (fun i x s r h hI => ?_) (⟨#[]⟩ : ByteArray) (by rw [List.drop_zero]; show 0 + wCs cs ≤ wCs cs; omega)
  · rw [fold_snd (fun s c => s ++ textC c)] at h
    exact h
  · refine Ev.step (g := fun _ => some s) (fun k => ?_) (Ev.const _)
    simp only [spec_ConstraintsText.l0]; rw [if_neg (by omega)]
  · have hi := lt_of_get h
    obtain ⟨_, hx⟩ := List.getElem?_eq_some_iff.1 h
    have e : wCs (cs.drop i) = wC x + wCs (cs.drop (i + 1)) := by
      rw [List.drop_eq_getElem_cons hi, hx]; simp [wCs]
    obtain ⟨h1, h2⟩ := hlc x (mem_of_get h)
    obtain ⟨h3, h4⟩ := conText_ev x h1 h2 (by omega)
    constructor
    · show (s ++ textC x).size + wCs (cs.drop (i + 1)) ≤ wCs cs
      simp only [ByteArray.size_append]; omega
    · intro h5
      refine Ev.step (g := fun k => (spec_ConstraintText.f k x).bind fun t => if s.size + t.size ≤ 9223372036854775807 then spec_ConstraintsText.l0 k (s ++ t) cs (cs.length : Int) ((i + 1 : Nat) : Int) else none) (fun k => ?_) ?_
      · simp only [spec_ConstraintsText.l0]
        rw [if_pos (by omega), if_pos (by omega), if_pos (by omega), rd2 h, w64 i (by omega)]
      · refine Ev.bind h3 ?_
        have c1 : s.size + (textC x).size ≤ 9223372036854775807 := by omega
        simp only [if_pos c1]
        exact h5
/-! ### how many -/
def nC (c : List (List ByteArray)) : Nat := c.length + (c.map List.length).sum
def nCs (cs : List (List (List ByteArray))) : Nat := cs.length + (cs.map nC).sum
theorem wO_le {o : List ByteArray} (h : fit7 o = true) : wO o ≤ 2147483648 * o.length := by
  have h2 : ∀ t ∈ o, t.size ≤ 2147483647 := fun t ht => fit7_mem h ht
  clear h
  induction o with
  | nil => simp [wO]
  | cons t o ih =>
    have h3 := h2 t (.head _)
    have h4 := ih fun x hx => h2 x (.tail _ hx)
    simp only [wO, List.map_cons, List.sum_cons, List.length_cons] at h4 ⊢
    omega
theorem wC_le {c : List (List ByteArray)} (h : fit19 c = true) : wC c ≤ 10 + 2147483648 * nC c := by
  have h2 : ∀ t ∈ c, wO t ≤ 2147483648 * t.length := fun t ht => wO_le (fit19_mem h ht)
  clear h
  unfold wC nC
  have : (c.map fun o => 1 + wO o).sum ≤ 2147483648 * (c.length + (c.map List.length).sum) := by
    induction c with
    | nil => simp
    | cons t o ih =>
      have h3 := h2 t (.head _)
      have h4 := ih fun x hx => h2 x (.tail _ hx)
      simp only [List.map_cons, List.sum_cons, List.length_cons] at h4 ⊢
      omega
  omega
theorem wCs_le {cs : List (List (List ByteArray))} (h : fit20 cs = true) : wCs cs ≤ 2147483648 * nCs cs := by
  have h2 : ∀ t ∈ cs, wC t ≤ 10 + 2147483648 * nC t := fun t ht => wC_le (fit20_mem h ht)
  clear h
  unfold wCs nCs
  induction cs with
  | nil => simp
  | cons t o ih =>
    have h3 := h2 t (.head _)
    have h4 := ih fun x hx => h2 x (.tail _ hx)
    simp only [List.map_cons, List.sum_cons, List.length_cons] at h4 ⊢
    omega
theorem wl_eq : ∀ (c : List (List ByteArray)) (n : Nat), n + (c.map List.length).sum < 9223372036854775807 → wl (n : Int) c = ((n + (c.map List.length).sum : Nat) : Int)
  | [], n, _ => by simp [wl]
  | o :: c, n, h => by
    rw [List.map_cons, List.sum_cons] at h ⊢
    have e : wrap64 ((n : Int) + (o.length : Int)) = ((n + o.length : Nat) : Int) := by unfold wrap64; omega
    show wl (wrap64 ((n : Int) + (o.length : Int))) c = _
    rw [e, wl_eq c (n + o.length) (by omega)]
    congr 1; omega
theorem wll_eq : ∀ (cs : List (List (List ByteArray))) (n : Nat), n + (cs.map nC).sum < 9223372036854775807 → wll (n : Int) cs = ((n + (cs.map nC).sum : Nat) : Int)
  | [], n, _ => by simp [wll]
  | c :: cs, n, h => by
    rw [List.map_cons, List.sum_cons] at h ⊢
    unfold nC at h
    have e : wrap64 ((n : Int) + (c.length : Int)) = ((n + c.length : Nat) : Int) := by unfold wrap64; omega
    show wll (wl (wrap64 ((n : Int) + (c.length : Int))) c) cs = _
    rw [e, wl_eq c (n + c.length) (by omega), wll_eq cs _ (by unfold nC; omega)]
    congr 1; unfold nC; omega
theorem cntC_eq (cs : List (List (List ByteArray))) : cntC cs = (cs.map List.length).sum := by
  unfold cntC
  have : ∀ (cs : List (List (List ByteArray))) (n : Nat), cs.foldl (fun n c => n + c.length) n = n + (cs.map List.length).sum := by
    intro cs
    induction cs with
    | nil => intro n; simp
    | cons c cs ih => intro n; rw [List.foldl_cons, ih]; simp; omega
  rw [this]; omega
theorem cntC_le (cs : List (List (List ByteArray))) : cntC cs ≤ nCs cs := by
  rw [cntC_eq]; unfold nCs
  have : (cs.map List.length).sum ≤ (cs.map nC).sum := by
    induction cs with
    | nil => simp
    | cons c cs ih => simp only [List.map_cons, List.sum_cons]; unfold nC; unfold nC at ih; omega
  omega
theorem shortO_of {o : List ByteArray} (h : wO o ≤ 140737488355328) : shortO o = true := decide_eq_true (Nat.le_trans (joinO_len o) h)
end Go.Proofs.YtlmmjchdfngdgaaDoor.Pure
