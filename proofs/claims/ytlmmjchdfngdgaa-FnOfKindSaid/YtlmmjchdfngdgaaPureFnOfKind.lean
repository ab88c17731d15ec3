/- The plain law behind FnOfKind: the masks of one kind, as the reference tells them. -/
import Derived.Test.YtlmmjchdfngdgaaArgFnOfKind
import Derived.Test.YtlmmjchdfngdgaaPureFnMerge
namespace Go.Proofs.Ytlmmjchdfngdgaa.Pure
open Go.RowKit Go.Proofs.Ytlmmjchdfngdgaa.Q Go.Proofs.YtlmmjchdfngdgaaW.PrintWords Go.Proofs.YtlmmjchdfngdgaaW.PrintLast

theorem rd95 (l : List S95) (i : Nat) (h : i < l.length) : rd_T95 l (i : Int) = l[i] := by
  unfold rd_T95; simp [List.getD, List.getElem?_eq_getElem h]
def insL (p : S95) : List S95 → List S95
  | [] => [p]
  | y :: r => if p.f0 < y.f0 then p :: y :: r else if p.f0 = y.f0 then p :: r else y :: insL p r
theorem insL_map (p : S95) : ∀ l : List S95, (insL p l).map pr95 = insP p.f0 p.f1 (l.map pr95)
  | [] => rfl
  | y :: r => by
    have e : pr95 y = (y.f0, y.f1) := rfl
    unfold insL
    rw [List.map_cons, e]
    simp only [insP]
    by_cases h1 : p.f0 < y.f0
    · rw [if_pos h1, if_pos h1]; rfl
    · rw [if_neg h1, if_neg h1]
      by_cases h2 : p.f0 = y.f0
      · rw [if_pos h2, if_pos h2]; rfl
      · rw [if_neg h2, if_neg h2, List.map_cons, insL_map p r, e]
theorem insL_length (p : S95) : ∀ l : List S95, (insL p l).length ≤ l.length + 1
  | [] => by simp [insL]
  | y :: r => by
    unfold insL
    split
    · simp
    · split
      · simp
      · have := insL_length p r; simp; omega
theorem mk_pr95 (l : List S95) : (l.map pr95).map mk95 = l := by rw [List.map_map]; exact List.map_id _
theorem pr_mk95 (l : List (Int × Int)) : (l.map mk95).map pr95 = l := by rw [List.map_map]; exact List.map_id _

/-! ### maskAdd -/
theorem add_placed (l : List S95) (id m : Int) (hl : l.length < 4294967296) : ∀ (d i : Nat) (o : List S95), l.length - i = d → i ≤ l.length → o.length ≤ i + 1 → Ev (fun k => spec_maskAdd.l0 k l id m o true (i : Int)) (o ++ l.drop i) := by
  intro d
  induction d with
  | zero =>
    intro i o hd hi ho
    obtain rfl : i = l.length := by omega
    refine Ev.step (g := fun _ => some o) (fun k => ?_) (by rw [List.drop_length, List.append_nil]; exact Ev.const _)
    simp only [spec_maskAdd.l0]
    rw [if_neg (by omega), if_pos trivial]
  | succ d ih =>
    intro i o hd hi ho
    have hi' : i < l.length := by omega
    have h := ih (i + 1) (o ++ [l[i]]) (by omega) (by omega) (by simp; omega)
    rw [List.append_assoc, show [l[i]] ++ l.drop (i + 1) = l.drop i from (List.drop_eq_getElem_cons hi').symm] at h
    refine Ev.step (g := fun k => spec_maskAdd.j1 k l id m o true (i : Int) false) (fun k => ?_) (Ev.step (g := fun k => spec_maskAdd.l0 k l id m (o ++ [l[i]]) true ((i + 1 : Nat) : Int)) (fun k => ?_) h)
    · simp only [spec_maskAdd.l0]
      rw [if_pos (by omega), if_pos trivial]
    · simp only [spec_maskAdd.j1]
      rw [if_neg (by simp), if_pos (by omega), if_pos (by omega), if_pos (by omega), rd95 _ _ hi', w64 _ (by omega)]
theorem add_open (l : List S95) (id m : Int) (hl : l.length < 4294967296) (hne : ∀ q ∈ l, q.f0 ≠ id) : ∀ (d i : Nat) (o : List S95), l.length - i = d → i ≤ l.length → o.length ≤ i → Ev (fun k => spec_maskAdd.l0 k l id m o false (i : Int)) (o ++ insL ⟨id, m⟩ (l.drop i)) := by
  intro d
  induction d with
  | zero =>
    intro i o hd hi ho
    obtain rfl : i = l.length := by omega
    refine Ev.step (g := fun _ => some (o ++ [⟨id, m⟩])) (fun k => ?_) (by rw [List.drop_length]; exact Ev.const _)
    simp only [spec_maskAdd.l0]
    rw [if_neg (by omega), if_neg (by simp), if_pos (by omega)]
  | succ d ih =>
    intro i o hd hi ho
    have hi' : i < l.length := by omega
    have hq := hne l[i] (List.getElem_mem hi')
    rw [List.drop_eq_getElem_cons hi']
    by_cases c : l[i].f0 ≥ id
    · have hp := add_placed l id m hl (l.length - (i + 1)) (i + 1) (o ++ [⟨id, m⟩] ++ [l[i]]) rfl (by omega) (by simp; omega)
      have hins : o ++ insL ⟨id, m⟩ (l[i] :: l.drop (i + 1)) = o ++ [⟨id, m⟩] ++ [l[i]] ++ l.drop (i + 1) := by
        unfold insL
        rw [if_pos (by show id < l[i].f0; omega)]
        simp
      rw [hins]
      refine Ev.step (g := fun k => spec_maskAdd.j1 k l id m o false (i : Int) true) (fun k => ?_) (Ev.step (g := fun k => spec_maskAdd.l0 k l id m (o ++ [⟨id, m⟩] ++ [l[i]]) true ((i + 1 : Nat) : Int)) (fun k => ?_) hp)
      · simp only [spec_maskAdd.l0]
        rw [if_pos (by omega), if_neg (by simp), if_pos (by omega), rd95 _ _ hi', decide_eq_true c]
      · simp only [spec_maskAdd.j1]
        rw [if_pos trivial, if_pos (by omega), if_pos (by omega), rd95 _ _ hi', if_neg hq, if_pos (by omega)]
        simp only [Option.bind_some]
        rw [if_pos (by simp; omega), w64 _ (by omega)]
    · have h := ih (i + 1) (o ++ [l[i]]) (by omega) (by omega) (by simp; omega)
      have hins : o ++ insL ⟨id, m⟩ (l[i] :: l.drop (i + 1)) = o ++ [l[i]] ++ insL ⟨id, m⟩ (l.drop (i + 1)) := by
        conv => lhs; unfold insL
        rw [if_neg (by show ¬ id < l[i].f0; omega), if_neg (by show ¬ id = l[i].f0; omega)]
        simp
      rw [hins]
      refine Ev.step (g := fun k => spec_maskAdd.j1 k l id m o false (i : Int) false) (fun k => ?_) (Ev.step (g := fun k => spec_maskAdd.l0 k l id m (o ++ [l[i]]) false ((i + 1 : Nat) : Int)) (fun k => ?_) h)
      · simp only [spec_maskAdd.l0]
        rw [if_pos (by omega), if_neg (by simp), if_pos (by omega), rd95 _ _ hi', decide_eq_false c]
      · simp only [spec_maskAdd.j1]
        rw [if_neg (by simp), if_pos (by omega), if_pos (by omega), if_pos (by omega), rd95 _ _ hi', w64 _ (by omega)]
theorem maskAdd_ev (l : List S95) (p : S95) (hl : l.length < 4294967296) (hne : ∀ q ∈ l, q.f0 ≠ p.f0) : Ev (fun k => spec_maskAdd.f k l p.f0 p.f1) (if p.f1 = 0 then l else insL p l) := by
  unfold spec_maskAdd.f
  by_cases c : p.f1 = 0
  · simp only [if_pos c]; exact Ev.const _
  · simp only [if_neg c]
    exact add_open l p.f0 p.f1 hl hne l.length 0 [] (by omega) (by omega) (by simp)

/-! ### Tidy -/
def tidyG : List S95 → List S95 → List S95
  | [], out => out
  | p :: r, out => tidyG r (if (r.all fun q => decide (q.f0 ≠ p.f0)) = true then (if p.f1 = 0 then out else insL p out) else out)
theorem tidy_l1 (x0 x3 : List S95) (n : Nat) (hn : n < x0.length) (hl0 : x0.length < 4294967296) (hl3 : x3.length < 4294967296) (R : List S95) (hne : ∀ q ∈ x3, q.f0 ≠ x0[n].f0)
    (h1 : ((x0.drop (n + 1)).all fun q => decide (q.f0 ≠ x0[n].f0)) = true → Ev (fun k => spec_Tidy.l0 k x0 (if x0[n].f1 = 0 then x3 else insL x0[n] x3) ((n + 1 : Nat) : Int)) R)
    (h2 : ((x0.drop (n + 1)).all fun q => decide (q.f0 ≠ x0[n].f0)) = false → Ev (fun k => spec_Tidy.l0 k x0 x3 ((n + 1 : Nat) : Int)) R) :
    ∀ (d j : Nat) (b : Bool), x0.length - j = d → j ≤ x0.length → (b && (x0.drop j).all fun q => decide (q.f0 ≠ x0[n].f0)) = ((x0.drop (n + 1)).all fun q => decide (q.f0 ≠ x0[n].f0)) → Ev (fun k => spec_Tidy.l1 k x0 x3 (n : Int) b (j : Int)) R := by
  intro d
  induction d with
  | zero =>
    intro j b hd hj hall
    obtain rfl : j = x0.length := by omega
    rw [List.drop_length] at hall
    simp only [List.all_nil, Bool.and_true] at hall
    cases b with
    | true =>
      refine Ev.step (g := fun k => (spec_maskAdd.f k x3 x0[n].f0 x0[n].f1).bind fun t262 => (spec_Tidy.l0 k x0 t262 ((n + 1 : Nat) : Int))) (fun k => ?_) (Ev.bind (g := fun k t262 => spec_Tidy.l0 k x0 t262 ((n + 1 : Nat) : Int)) (maskAdd_ev x3 x0[n] hl3 hne) (h1 hall.symm))
      simp only [spec_Tidy.l1]
      rw [if_neg (by omega), if_pos trivial, if_pos (by omega), if_pos (by omega), rd95 _ _ hn, w64 _ (by omega)]
    | false =>
      refine Ev.step (g := fun k => spec_Tidy.l0 k x0 x3 ((n + 1 : Nat) : Int)) (fun k => ?_) (h2 hall.symm)
      simp only [spec_Tidy.l1]
      rw [if_neg (by omega), if_neg (by simp), w64 _ (by omega)]
  | succ d ih =>
    intro j b hd hj hall
    have hj' : j < x0.length := by omega
    rw [List.drop_eq_getElem_cons hj', List.all_cons, ← Bool.and_assoc] at hall
    refine Ev.step (g := fun k => spec_Tidy.l1 k x0 x3 (n : Int) (b && decide (x0[j].f0 ≠ x0[n].f0)) ((j + 1 : Nat) : Int)) (fun k => ?_) (ih (j + 1) _ (by omega) (by omega) hall)
    simp only [spec_Tidy.l1]
    rw [if_pos (by omega), w64 _ (by omega)]
    cases b with
    | true =>
      rw [if_pos rfl, if_pos (by omega), if_pos (by omega), if_pos (by omega), rd95 _ _ hn, rd95 _ _ hj', Bool.true_and]
      congr 1
      by_cases e : x0[j].f0 = x0[n].f0
      · simp [e]
      · simp [e]
    | false => rw [if_neg (by simp), Bool.false_and]
theorem tidy_l0 (x0 : List S95) (hl0 : x0.length < 4294967295) : ∀ (d n : Nat) (x3 : List S95), x0.length - n = d → n ≤ x0.length → x3.length ≤ n → (∀ q ∈ x3, ∀ p ∈ x0.drop n, q.f0 ≠ p.f0) → Ev (fun k => spec_Tidy.l0 k x0 x3 (n : Int)) (tidyG (x0.drop n) x3) := by
  intro d
  induction d with
  | zero =>
    intro n x3 hd hn hl hf
    obtain rfl : n = x0.length := by omega
    refine Ev.step (g := fun _ => some x3) (fun k => ?_) (by rw [List.drop_length]; exact Ev.const _)
    simp only [spec_Tidy.l0]
    rw [if_neg (by omega)]
  | succ d ih =>
    intro n x3 hd hn hl hf
    have hn' : n < x0.length := by omega
    rw [List.drop_eq_getElem_cons hn'] at hf ⊢
    have hf1 : ∀ q ∈ x3, ∀ p ∈ x0.drop (n + 1), q.f0 ≠ p.f0 := fun q hq p hp => hf q hq p (List.mem_cons_of_mem _ hp)
    refine Ev.step (g := fun k => spec_Tidy.l1 k x0 x3 (n : Int) true ((n + 1 : Nat) : Int)) (fun k => ?_) (tidy_l1 x0 x3 n hn' (by omega) (by omega) _ (fun q hq => hf q hq _ List.mem_cons_self) (fun ht => ?_) (fun hff => ?_) (x0.length - (n + 1)) (n + 1) true rfl (by omega) (by rw [Bool.true_and]))
    · simp only [spec_Tidy.l0]
      rw [if_pos (by omega), w64 _ (by omega)]
    · unfold tidyG
      rw [if_pos ht]
      by_cases c : x0[n].f1 = 0
      · rw [if_pos c]; exact ih (n + 1) x3 (by omega) (by omega) (by omega) hf1
      · rw [if_neg c]
        refine ih (n + 1) _ (by omega) (by omega) (by have := insL_length x0[n] x3; omega) (fun q hq p hp => ?_)
        have hq' : pr95 q ∈ insP x0[n].f0 x0[n].f1 (x3.map pr95) := by rw [← insL_map]; exact List.mem_map_of_mem hq
        have hm : ∀ (l : List (Int × Int)) (y : Int × Int), y ∈ insP x0[n].f0 x0[n].f1 l → y = (x0[n].f0, x0[n].f1) ∨ y ∈ l := by
          intro l
          induction l with
          | nil => intro y hy; simp [insP] at hy; exact Or.inl hy
          | cons z r ih2 =>
            intro y hy
            unfold insP at hy
            split at hy
            · rcases List.mem_cons.1 hy with h | h
              · exact Or.inl h
              · exact Or.inr h
            · split at hy
              · rcases List.mem_cons.1 hy with h | h
                · exact Or.inl h
                · exact Or.inr (List.mem_cons_of_mem _ h)
              · rcases List.mem_cons.1 hy with h | h
                · exact Or.inr (by simp [h])
                · rcases ih2 y h with h | h
                  · exact Or.inl h
                  · exact Or.inr (List.mem_cons_of_mem _ h)
        rcases hm _ _ hq' with h | h
        · have e : q.f0 = x0[n].f0 := congrArg Prod.fst h
          have := List.all_eq_true.1 ht p hp
          have := of_decide_eq_true this
          rw [e]; exact fun e2 => this e2.symm
        · obtain ⟨q', hq1, hq2⟩ := List.mem_map.1 h
          have e : q'.f0 = q.f0 := congrArg Prod.fst hq2
          rw [← e]; exact hf1 q' hq1 p hp
    · unfold tidyG
      rw [if_neg (by rw [hff]; simp)]
      exact ih (n + 1) x3 (by omega) (by omega) (by omega) hf1
theorem tidy_ev (l : List S95) (h : l.length < 4294967295) : Ev (fun k => spec_Tidy.f k l) (tidyG l []) := by
  have := tidy_l0 l h l.length 0 [] (by omega) (by omega) (by simp) (by simp)
  exact this

/-! ### what Tidy keeps -/
def lastC : List S95 → Int → Option Int
  | [], _ => none
  | p :: r, x => match lastC r x with
    | some c => some c
    | none => if p.f0 = x then some p.f1 else none
theorem lastC_none : ∀ (l : List S95) (x : Int), lastC l x = none ↔ (l.all fun q => decide (q.f0 ≠ x)) = true
  | [], x => by simp [lastC]
  | p :: r, x => by
    have ih := lastC_none r x
    unfold lastC
    rw [List.all_cons, Bool.and_eq_true, ← ih]
    cases lastC r x with
    | some c => simp
    | none => by_cases e : p.f0 = x <;> simp [e]
theorem plain_last : ∀ (l : List S95) (r : List (Int × Int)), r.Pairwise (fun a b => a.1 < b.1) → (l.foldl (fun r p => insP p.f0 p.f1 r) r).Pairwise (fun a b => a.1 < b.1) ∧ ∀ x c, (x, c) ∈ l.foldl (fun r p => insP p.f0 p.f1 r) r ↔ (lastC l x = some c ∨ (lastC l x = none ∧ (x, c) ∈ r))
  | [], r, h => ⟨h, fun x c => by simp [lastC]⟩
  | p :: l, r, h => by
    obtain ⟨h1, h2⟩ := plain_last l (insP p.f0 p.f1 r) (sorted_insP _ _ r h)
    refine ⟨h1, fun x c => ?_⟩
    rw [List.foldl_cons, h2 x c, mem_insP _ _ r h]
    simp only [lastC]
    cases hl : lastC l x with
    | some c' => simp
    | none =>
      by_cases e : p.f0 = x
      · subst e; simp; exact eq_comm
      · rw [if_neg e]
        simp only [reduceCtorEq, false_or, true_and, Prod.mk.injEq]
        exact ⟨fun hh => hh.elim (fun hh => absurd hh.1.symm e) (fun hh => hh.1), fun hh => Or.inr ⟨hh, fun e2 => e e2.symm⟩⟩
theorem tidy_last : ∀ (l o : List S95), (o.map pr95).Pairwise (fun a b => a.1 < b.1) → (∀ q ∈ o, ∀ p ∈ l, q.f0 ≠ p.f0) → ((tidyG l o).map pr95).Pairwise (fun a b => a.1 < b.1) ∧ ∀ x c, (x, c) ∈ (tidyG l o).map pr95 ↔ ((x, c) ∈ o.map pr95 ∨ (lastC l x = some c ∧ c ≠ 0))
  | [], o, h, _ => ⟨h, fun x c => by simp [tidyG, lastC]⟩
  | p :: l, o, h, hf => by
    have hf1 : ∀ q ∈ o, ∀ p' ∈ l, q.f0 ≠ p'.f0 := fun q hq p' hp => hf q hq p' (List.mem_cons_of_mem _ hp)
    have hfp : ∀ c, (p.f0, c) ∉ o.map pr95 := fun c hc => by
      obtain ⟨q, hq, e⟩ := List.mem_map.1 hc
      exact hf q hq p (by simp) (congrArg Prod.fst e)
    unfold tidyG
    by_cases ha : (l.all fun q => decide (q.f0 ≠ p.f0)) = true
    · have hn := (lastC_none l p.f0).2 ha
      rw [if_pos ha]
      by_cases c0 : p.f1 = 0
      · rw [if_pos c0]
        obtain ⟨h1, h2⟩ := tidy_last l o h hf1
        refine ⟨h1, fun x c => ?_⟩
        rw [h2 x c]
        simp only [lastC]
        cases hl : lastC l x with
        | some c' => simp
        | none =>
          by_cases e : p.f0 = x
          · subst e; simp [c0]; intro e1 e2; exact absurd e1.symm e2
          · simp [e]
      · rw [if_neg c0]
        have hs : ((insL p o).map pr95).Pairwise (fun a b => a.1 < b.1) := by rw [insL_map]; exact sorted_insP _ _ _ h
        obtain ⟨h1, h2⟩ := tidy_last l (insL p o) hs (fun q hq p' hp' => by
          have hq' : pr95 q ∈ insP p.f0 p.f1 (o.map pr95) := by rw [← insL_map]; exact List.mem_map_of_mem hq
          rcases (mem_insP _ _ _ h _).1 hq' with h3 | h3
          · have e : q.f0 = p.f0 := congrArg Prod.fst h3
            have := of_decide_eq_true (List.all_eq_true.1 ha p' hp')
            rw [e]; exact fun e2 => this e2.symm
          · obtain ⟨q', hq1, hq2⟩ := List.mem_map.1 h3.1
            have e : q'.f0 = q.f0 := congrArg Prod.fst hq2
            rw [← e]; exact hf1 q' hq1 p' hp')
        refine ⟨h1, fun x c => ?_⟩
        rw [h2 x c, insL_map, mem_insP _ _ _ h]
        simp only [lastC]
        by_cases e : p.f0 = x
        · subst e
          rw [hn]
          simp only [reduceCtorEq, false_and, or_false, if_true, Option.some.injEq, Prod.mk.injEq, true_and, ne_eq, not_true_eq_false, and_false]
          constructor
          · rintro rfl; exact Or.inr ⟨rfl, c0⟩
          · rintro (h3 | ⟨h3, _⟩)
            · exact absurd h3 (hfp c)
            · exact h3.symm
        · have hx : ¬ ((x, c) = (p.f0, p.f1)) := fun e2 => e (congrArg Prod.fst e2).symm
          have ne : ¬ (x = p.f0) := fun e2 => e e2.symm
          cases hl : lastC l x with
          | some c' => simp only [hx, ne, false_or, not_false_eq_true, and_true, Ne]
          | none => simp only [hx, ne, if_neg e, false_or, not_false_eq_true, and_true, reduceCtorEq, Ne, false_and]
    · have ha' : (l.all fun q => decide (q.f0 ≠ p.f0)) = false := by simpa using ha
      rw [if_neg ha]
      obtain ⟨h1, h2⟩ := tidy_last l o h hf1
      refine ⟨h1, fun x c => ?_⟩
      rw [h2 x c]
      simp only [lastC]
      cases hl : lastC l x with
      | some c' => simp
      | none =>
        by_cases e : p.f0 = x
        · subst e
          exact absurd ((lastC_none l p.f0).1 hl) ha
        · simp [e]
def nz (p : Int × Int) : Bool := decide (p.2 ≠ 0)
theorem tidy_eq (l : List S95) : tidyG l [] = ((plainL l).filter nz).map mk95 := by
  obtain ⟨h1, h2⟩ := tidy_last l [] (by simp) (by simp)
  obtain ⟨h3, h4⟩ := plain_last l [] (by simp)
  have : (tidyG l []).map pr95 = (plainL l).filter nz := by
    refine sorted_ext _ _ h1 (List.Pairwise.filter _ h3) (fun p => ?_)
    obtain ⟨x, c⟩ := p
    rw [h2 x c, List.mem_filter]
    unfold plainL
    rw [h4 x c]
    simp [nz]
  rw [← mk_pr95 (tidyG l []), this]
theorem plainL_mk (s : List (Int × Int)) (h : s.Pairwise (fun a b => a.1 < b.1)) : plainL (s.map mk95) = s := by
  unfold plainL
  rw [List.foldl_map]
  have := fold_sorted s [] (by simpa using h)
  simpa [mk95] using this
theorem plainL_length (l : List S95) : (plainL l).length ≤ l.length := by
  have ins : ∀ (x c : Int) (r : List (Int × Int)), (insP x c r).length ≤ r.length + 1 := by
    intro x c r
    induction r with
    | nil => simp [insP]
    | cons y r ih =>
      unfold insP
      split
      · simp
      · split
        · simp
        · simp; omega
  have key : ∀ (l : List S95) (r : List (Int × Int)), (l.foldl (fun r p => insP p.f0 p.f1 r) r).length ≤ r.length + l.length := by
    intro l
    induction l with
    | nil => intro r; simp
    | cons p l ih => intro r; have := ih (insP p.f0 p.f1 r); have := ins p.f0 p.f1 r; rw [List.foldl_cons, List.length_cons]; omega
  have := key l []
  simpa [plainL] using this

/-! ### the reference's OfKind, and the law -/
def kindB (kd : Int) (p : S95) : Bool := decide ((p.f0 / 256) % 256 = kd)
theorem ofKind_l0 (t : List S95) (kd : Int) (ht : t.length < 4294967296) : ∀ (d i : Nat) (o : List S95), t.length - i = d → i ≤ t.length → o.length ≤ i → Ev (fun k => spec_OfKind.l0 k t kd o (i : Int)) (o ++ (t.drop i).filter (kindB kd)) := by
  intro d
  induction d with
  | zero =>
    intro i o hd hi ho
    obtain rfl : i = t.length := by omega
    refine Ev.step (g := fun _ => some o) (fun k => ?_) (by rw [List.drop_length, List.filter_nil, List.append_nil]; exact Ev.const _)
    simp only [spec_OfKind.l0]
    rw [if_neg (by omega)]
  | succ d ih =>
    intro i o hd hi ho
    have hi' : i < t.length := by omega
    rw [List.drop_eq_getElem_cons hi', List.filter_cons]
    by_cases c : kindB kd t[i] = true
    · have h := ih (i + 1) (o ++ [t[i]]) (by omega) (by omega) (by simp; omega)
      rw [if_pos c]
      rw [List.append_assoc] at h
      refine Ev.step (g := fun k => spec_OfKind.l0 k t kd (o ++ [t[i]]) ((i + 1 : Nat) : Int)) (fun k => ?_) h
      simp only [spec_OfKind.l0, spec_IDParts.f, Option.bind_some]
      rw [if_pos (by omega), if_pos (by omega), rd95 _ _ hi', if_pos (of_decide_eq_true c), if_pos (by omega), w64 _ (by omega)]
    · have h := ih (i + 1) o (by omega) (by omega) (by omega)
      rw [if_neg c]
      refine Ev.step (g := fun k => spec_OfKind.l0 k t kd o ((i + 1 : Nat) : Int)) (fun k => ?_) h
      simp only [spec_OfKind.l0, spec_IDParts.f, Option.bind_some]
      rw [if_pos (by omega), if_pos (by omega), rd95 _ _ hi', if_neg (fun e => c (decide_eq_true e)), w64 _ (by omega)]
theorem same_l0 (l : List S95) (hl : l.length < 4294967296) : ∀ (d i : Nat), l.length - i = d → i ≤ l.length → Ev (fun k => spec_SameLive.l0 k l l (i : Int)) true := by
  intro d
  induction d with
  | zero =>
    intro i hd hi
    refine Ev.step (g := fun _ => some true) (fun k => ?_) (Ev.const _)
    simp only [spec_SameLive.l0]
    rw [if_neg (by omega)]
  | succ d ih =>
    intro i hd hi
    refine Ev.step (g := fun k => spec_SameLive.l0 k l l ((i + 1 : Nat) : Int)) (fun k => ?_) (ih (i + 1) (by omega) (by omega))
    simp only [spec_SameLive.l0]
    rw [if_pos (by omega), if_pos (by omega), if_pos (by omega), w64 _ (by omega), if_neg (by simp)]
theorem same_ev (l : List S95) (hl : l.length < 4294967296) : Ev (fun k => spec_SameLive.f k l l) true := by
  unfold spec_SameLive.f
  simp only [if_true]
  exact same_l0 l hl l.length 0 (by omega) (by omega)
theorem okL_of {l : List S95} (h : fnOfKindArg.L55 l) : okL l = true := by
  refine List.all_eq_true.2 fun p hp => ?_
  obtain ⟨h1, h2⟩ := h.2 p hp
  rw [of_wf32 h1, of_wf16 h2]; rfl
theorem FnOfKind : fnOfKindArg.PureIs := by
  intro x0 kd h0 _
  refine Ev.some ?_
  unfold laws_FnOfKind.f
  by_cases c0 : (x0.length : Int) > 2147483647
  · simp only [if_pos c0]; exact Ev.const _
  simp only [if_neg c0]
  by_cases c1 : (x0.length : Int) > 2000
  · simp only [if_pos c1]; exact Ev.const _
  simp only [if_neg c1]
  have hpl := plainL_length x0
  have hsort : (plainL x0).Pairwise (fun a b => a.1 < b.1) := (plain_last x0 [] (by simp)).1
  obtain ⟨s, hs⟩ : ∃ s, s = (plainL x0).filter (keepB kd) := ⟨_, rfl⟩
  have hss : s.Pairwise (fun a b => a.1 < b.1) := by rw [hs]; exact List.Pairwise.filter _ hsort
  have hsl : s.length ≤ x0.length := by rw [hs]; exact Nat.le_trans (List.length_filter_le _ _) hpl
  have hsn : s.filter nz = s := by
    rw [List.filter_eq_self]
    intro p hp
    rw [hs] at hp
    have := of_decide_eq_true (List.mem_filter.1 hp).2
    exact decide_eq_true this.2
  have ht : tidyG (s.map mk95) [] = s.map mk95 := by rw [tidy_eq, plainL_mk s hss, hsn]
  have hi : impl_OfKind.f x0 kd = some (s.map mk95) := by
    unfold impl_OfKind.f
    rw [if_pos ⟨by omega, okL_of h0⟩, hs]
  have hk : (tidyG x0 []).filter (kindB kd) = s.map mk95 := by
    rw [tidy_eq, List.filter_map, List.filter_filter, hs]
    congr 1
    congr 1
    funext p
    rw [Bool.eq_iff_iff]
    simp [keepB, kindB, nz, mk95, Function.comp]
    intro _; exact decide_eq_true_iff
  have htl : (tidyG x0 []).length ≤ x0.length := by
    rw [tidy_eq, List.length_map]; exact Nat.le_trans (List.length_filter_le _ _) hpl
  have hspec : Ev (fun k => spec_OfKind.f k x0 kd) (s.map mk95) := by
    unfold spec_OfKind.f
    have h2 := ofKind_l0 (tidyG x0 []) kd (by omega) (tidyG x0 []).length 0 [] (by omega) (by omega) (by simp)
    rw [List.drop_zero, List.nil_append, hk] at h2
    exact Ev.bind (g := fun k t265 => spec_OfKind.l0 k t265 kd [] 0) (tidy_ev x0 (by omega)) h2
  have hml : (s.map mk95).length < 4294967295 := by rw [List.length_map]; omega
  have ht1 := tidy_ev (s.map mk95) hml
  rw [ht] at ht1
  rw [hi]
  simp only [Option.bind_some]
  refine Ev.bind (g := fun k t279 => (spec_OfKind.f k x0 kd).bind fun t282 => ((spec_Tidy.f k t282).bind fun t285 => ((spec_SameLive.f k t279 t285).bind fun t288 => (some t288)))) ht1 ?_
  refine Ev.bind (g := fun k t282 => ((spec_Tidy.f k t282).bind fun t285 => ((spec_SameLive.f k (s.map mk95) t285).bind fun t288 => (some t288)))) hspec ?_
  refine Ev.bind (g := fun k t285 => ((spec_SameLive.f k (s.map mk95) t285).bind fun t288 => (some t288))) ht1 ?_
  exact Ev.bind (g := fun _ t288 => some t288) (same_ev _ (by omega)) (Ev.const _)
end Go.Proofs.Ytlmmjchdfngdgaa.Pure
