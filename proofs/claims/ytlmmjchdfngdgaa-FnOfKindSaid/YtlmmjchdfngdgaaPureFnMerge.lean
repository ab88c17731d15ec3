/- The plain law behind FnMerge: two allocations merged as the reference merges them. -/
import Derived.Test.YtlmmjchdfngdgaaArgFnMerge
namespace Go.Proofs.Ytlmmjchdfngdgaa.Pure
open Go.RowKit Go.Proofs.Ytlmmjchdfngdgaa.Q Go.Proofs.YtlmmjchdfngdgaaW.PrintWords Go.Proofs.YtlmmjchdfngdgaaW.PrintLast

/-- From some fuel on. -/
def Ev {α : Type} (f : Nat → Option α) (r : α) : Prop := ∃ k0, ∀ k, k0 ≤ k → f k = some r
theorem Ev.step {α : Type} {f g : Nat → Option α} {r : α} (h : ∀ k, f (k + 1) = g k) (hg : Ev g r) : Ev f r := by
  obtain ⟨k0, hk⟩ := hg
  refine ⟨k0 + 1, fun k hk' => ?_⟩
  obtain ⟨m, rfl⟩ : ∃ m, k = m + 1 := ⟨k - 1, by omega⟩
  rw [h]; exact hk m (by omega)
theorem Ev.const {α : Type} (r : α) : Ev (fun _ => some r) r := ⟨0, fun _ _ => rfl⟩
theorem Ev.bind {α β : Type} {f : Nat → Option α} {g : Nat → α → Option β} {a : α} {r : β} (hf : Ev f a) (hg : Ev (fun k => g k a) r) : Ev (fun k => (f k).bind fun x => g k x) r := by
  obtain ⟨k0, h0⟩ := hf
  obtain ⟨k1, h1⟩ := hg
  exact ⟨k0 + k1, fun k hk => by show (f k).bind _ = _; rw [h0 k (by omega)]; exact h1 k (by omega)⟩
theorem w64 (i : Nat) (h : i < 9223372036854775807) : wrap64 ((i : Int) + 1) = ((i + 1 : Nat) : Int) := by unfold wrap64; omega
theorem rd53 (l : List S53) (i : Nat) (h : i < l.length) : rd_T53 l (i : Int) = l[i] := by
  unfold rd_T53; simp [List.getD, List.getElem?_eq_getElem h]

/-- p laid into l, which is in the order of its keys. -/
def insS (p : S53) : List S53 → List S53
  | [] => [p]
  | y :: r => if p.f0 < y.f0 then p :: y :: r else if p.f0 = y.f0 then p :: r else y :: insS p r
theorem insS_map (p : S53) : ∀ l : List S53, (insS p l).map pr53 = insP p.f0 p.f1 (l.map pr53)
  | [] => rfl
  | y :: r => by
    have e : pr53 y = (y.f0, y.f1) := rfl
    unfold insS
    rw [List.map_cons, e]
    simp only [insP]
    by_cases h1 : p.f0 < y.f0
    · rw [if_pos h1, if_pos h1]; rfl
    · rw [if_neg h1, if_neg h1]
      by_cases h2 : p.f0 = y.f0
      · rw [if_pos h2, if_pos h2]; rfl
      · rw [if_neg h2, if_neg h2, List.map_cons, insS_map p r, e]
theorem insS_end (p : S53) : ∀ l : List S53, (∀ q ∈ l, q.f0 < p.f0) → insS p l = l ++ [p]
  | [], _ => rfl
  | y :: r, h => by
    have hy := h y (by simp)
    unfold insS
    rw [if_neg (by omega), if_neg (by omega), insS_end p r (fun q hq => h q (by simp [hq]))]; rfl
theorem insS_at (p : S53) : ∀ (l : List S53) (i : Nat) (hi : i < l.length), (∀ j (h : j < i), (l[j]'(by omega)).f0 < p.f0) → ¬ (l[i].f0 < p.f0) → insS p l = if l[i].f0 = p.f0 then l.set i p else l.take i ++ [p] ++ l.drop i
  | [], i, hi, _, _ => by simp at hi
  | y :: r, 0, hi, _, hn => by
    unfold insS
    simp only [List.getElem_cons_zero] at hn ⊢
    by_cases h2 : y.f0 = p.f0
    · rw [if_neg (by omega), if_pos h2.symm, if_pos h2]; rfl
    · rw [if_pos (by omega), if_neg h2]; rfl
  | y :: r, i + 1, hi, h, hn => by
    have hy := h 0 (by omega)
    simp only [List.getElem_cons_zero] at hy
    unfold insS
    have hi' : i < r.length := by simpa using hi
    have ih := insS_at p r i hi' (fun j hj => by have := h (j + 1) (by omega); simpa using this) (by simpa using hn)
    rw [if_neg (by omega), if_neg (by omega), ih]
    simp only [List.getElem_cons_succ]
    by_cases h2 : r[i].f0 = p.f0
    · rw [if_pos h2, if_pos h2]; rfl
    · rw [if_neg h2, if_neg h2]; rfl
theorem insS_length (p : S53) : ∀ l : List S53, (insS p l).length ≤ l.length + 1
  | [] => by simp [insS]
  | y :: r => by
    unfold insS
    split
    · simp
    · split
      · simp
      · have := insS_length p r; simp; omega
def plainS (l : List S53) : List S53 := l.foldl (fun r p => insS p r) []
theorem fold_map : ∀ (l r : List S53), (l.foldl (fun r p => insS p r) r).map pr53 = l.foldl (fun r p => insP p.f0 p.f1 r) (r.map pr53)
  | [], r => rfl
  | p :: l, r => by rw [List.foldl_cons, List.foldl_cons, fold_map l, insS_map]
theorem mk_pr (l : List S53) : (l.map pr53).map mk53 = l := by rw [List.map_map]; exact List.map_id _
theorem plainS_eq (l : List S53) : plainS l = (plainP l).map mk53 := by
  have h := fold_map l []
  rw [← mk_pr (plainS l)]
  unfold plainS plainP
  rw [h]; rfl
theorem plainS_map (l : List S53) : (plainS l).map pr53 = plainP l := fold_map l []

/-- The inner loop lays the element in. -/
theorem pairs_l1 (x0 x3 : List S53) (n : Nat) (hn : n < x0.length) (hl3 : x3.length < 4294967296) (R : List S53) (hnext : Ev (fun k => spec_pairsOf.l0 k x0 (insS x0[n] x3) (wrap64 ((n : Int) + 1))) R) :
    ∀ (d i : Nat), x3.length - i = d → i ≤ x3.length → (∀ j (h : j < x3.length), j < i → x3[j].f0 < x0[n].f0) → Ev (fun k => spec_pairsOf.l1 k x0 x3 (n : Int) (i : Int)) R := by
  intro d
  induction d with
  | zero =>
    intro i hd hi hall
    obtain rfl : i = x3.length := by omega
    have hins : insS x0[n] x3 = x3 ++ [x0[n]] := insS_end _ _ (fun q hq => by
      obtain ⟨j, hj, rfl⟩ := List.getElem_of_mem hq
      exact hall j hj hj)
    refine Ev.step (g := fun k => spec_pairsOf.l0 k x0 (insS x0[n] x3) (wrap64 ((n : Int) + 1))) (fun k => ?_) hnext
    simp only [spec_pairsOf.l1]
    rw [if_neg (by omega), if_pos (by omega), if_pos (by omega)]
    simp only [Option.bind_some, List.nil_append, List.length_nil, Nat.zero_add, Int.toNat_natCast, List.take_length, List.drop_length, List.length_append, List.length_singleton]
    rw [if_pos (by omega), if_pos (by omega), if_pos (by omega), if_pos (by omega), if_pos (by omega), rd53 _ _ hn, hins, List.append_nil]
  | succ d ih =>
    intro i hd hi hall
    have hi3 : i < x3.length := by omega
    by_cases c : x3[i].f0 < x0[n].f0
    · refine Ev.step (g := fun k => spec_pairsOf.l1 k x0 x3 (n : Int) ((i + 1 : Nat) : Int)) (fun k => ?_) (ih (i + 1) (by omega) (by omega) (fun j h hj => ?_))
      · simp only [spec_pairsOf.l1]
        rw [if_pos (by omega), if_pos (by omega), if_pos (by omega), if_pos (by omega), rd53 _ _ hn, rd53 _ _ hi3, if_pos c, w64 _ (by omega)]
      · by_cases e : j = i
        · subst e; exact c
        · exact hall j h (by omega)
    · have hins := insS_at x0[n] x3 i hi3 (fun j hj => hall j (by omega) hj) c
      refine Ev.step (g := fun k => spec_pairsOf.l0 k x0 (insS x0[n] x3) (wrap64 ((n : Int) + 1))) (fun k => ?_) hnext
      simp only [spec_pairsOf.l1]
      rw [if_pos (by omega), if_pos (by omega), if_pos (by omega), if_pos (by omega), rd53 _ _ hn, rd53 _ _ hi3, if_neg c, hins]
      by_cases e : x3[i].f0 = x0[n].f0
      · rw [if_pos e, if_pos e, e]
        simp only [Int.toNat_natCast]
      · rw [if_neg e, if_neg e]
        simp only [Option.bind_some, List.nil_append, List.length_nil, Nat.zero_add, Int.toNat_natCast, List.length_append, List.length_singleton, List.length_take, List.length_drop]
        rw [if_pos (by omega), if_pos (by omega), if_pos (by omega), if_pos (by omega)]
theorem pairs_l0 (x0 : List S53) (hl0 : x0.length < 4294967295) : ∀ (d n : Nat) (x3 : List S53), x0.length - n = d → n ≤ x0.length → x3.length ≤ n → Ev (fun k => spec_pairsOf.l0 k x0 x3 (n : Int)) ((x0.drop n).foldl (fun r p => insS p r) x3) := by
  intro d
  induction d with
  | zero =>
    intro n x3 hd hn hl
    obtain rfl : n = x0.length := by omega
    refine Ev.step (g := fun _ => some x3) (fun k => ?_) (by rw [List.drop_length]; exact Ev.const _)
    simp only [spec_pairsOf.l0]
    rw [if_neg (by omega)]
  | succ d ih =>
    intro n x3 hd hn hl
    have hn' : n < x0.length := by omega
    rw [List.drop_eq_getElem_cons hn', List.foldl_cons]
    have h := ih (n + 1) (insS x0[n] x3) (by omega) (by omega) (by have := insS_length x0[n] x3; omega)
    refine Ev.step (g := fun k => spec_pairsOf.l1 k x0 x3 (n : Int) ((0 : Nat) : Int)) (fun k => ?_) (pairs_l1 x0 x3 n hn' (by omega) _ (by rw [w64 _ (by omega)]; exact h) x3.length 0 (by omega) (by omega) (fun j _ hj => by omega))
    simp only [spec_pairsOf.l0]
    rw [if_pos (by omega)]
    rfl
theorem pairs_ev (l : List S53) (h : l.length < 4294967295) : Ev (fun k => spec_pairsOf.f k l) (plainS l) := by
  have := pairs_l0 l h l.length 0 [] (by omega) (by omega) (by simp)
  exact this

/-! ### the reference's merge -/
def hitS (p q : S53) : Bool := decide (p.f0 = q.f0 ∧ p.f1 ≠ q.f1)
theorem merge_l1 (x0 x1 : List S53) (n : Nat) (hn : n < x0.length) (hl1 : x1.length < 4294967296) (R : List S53 × Bool)
    (hnext : (x1.any (hitS x0[n])) = false → Ev (fun k => spec_Merge.l0 k x0 x1 (wrap64 ((n : Int) + 1))) R) (hR : (x1.any (hitS x0[n])) = true → R = ([], false)) :
    ∀ (d i : Nat), x1.length - i = d → i ≤ x1.length → (x1.any (hitS x0[n])) = ((x1.drop i).any (hitS x0[n])) → Ev (fun k => spec_Merge.l1 k x0 x1 (n : Int) (i : Int)) R := by
  intro d
  induction d with
  | zero =>
    intro i hd hi hall
    obtain rfl : i = x1.length := by omega
    refine Ev.step (g := fun k => spec_Merge.l0 k x0 x1 (wrap64 ((n : Int) + 1))) (fun k => ?_) (hnext (by rw [hall, List.drop_length]; rfl))
    simp only [spec_Merge.l1]
    rw [if_neg (by omega)]
  | succ d ih =>
    intro i hd hi hall
    have hi1 : i < x1.length := by omega
    rw [List.drop_eq_getElem_cons hi1, List.any_cons] at hall
    by_cases c : hitS x0[n] x1[i] = true
    · rw [c, Bool.true_or] at hall
      obtain ⟨c0, c1⟩ := of_decide_eq_true c
      rw [hR hall]
      refine Ev.step (g := fun _ => some ([], false)) (fun k => ?_) (Ev.const _)
      simp only [spec_Merge.l1]
      rw [if_pos (by omega), if_pos (by omega), if_pos (by omega), if_pos (by omega), rd53 _ _ hn, rd53 _ _ hi1, if_pos c0, if_neg c1]
    · replace c : hitS x0[n] x1[i] = false := by simpa using c
      rw [c, Bool.false_or] at hall
      refine Ev.step (g := fun k => spec_Merge.l1 k x0 x1 (n : Int) ((i + 1 : Nat) : Int)) (fun k => ?_) (ih (i + 1) (by omega) (by omega) hall)
      simp only [spec_Merge.l1]
      rw [if_pos (by omega), if_pos (by omega), if_pos (by omega), if_pos (by omega), rd53 _ _ hn, rd53 _ _ hi1, w64 _ (by omega)]
      by_cases c0 : x0[n].f0 = x1[i].f0
      · rw [if_pos c0, if_pos (by have := of_decide_eq_false c; exact Classical.byContradiction fun h => this ⟨c0, h⟩)]
      · rw [if_neg c0]
theorem merge_l0 (x0 x1 : List S53) (hl0 : x0.length < 2147483647) (hl1 : x1.length < 2147483647) (R : List S53 × Bool)
    (hR0 : (x0.any fun p => x1.any (hitS p)) = true → R = ([], false)) (hR1 : (x0.any fun p => x1.any (hitS p)) = false → R = (plainS (x0 ++ x1), true)) :
    ∀ (d n : Nat), x0.length - n = d → n ≤ x0.length → ((x0.any fun p => x1.any (hitS p)) = ((x0.drop n).any fun p => x1.any (hitS p))) → Ev (fun k => spec_Merge.l0 k x0 x1 (n : Int)) R := by
  intro d
  induction d with
  | zero =>
    intro n hd hn hall
    obtain rfl : n = x0.length := by omega
    have hf : (x0.any fun p => x1.any (hitS p)) = false := by rw [hall, List.drop_length]; rfl
    rw [hR1 hf]
    refine Ev.step (g := fun k => (spec_pairsOf.f k (x0 ++ x1)).bind fun t219 => (some (t219, true))) (fun k => ?_) (Ev.bind (g := fun _ t => some (t, true)) (pairs_ev (x0 ++ x1) (by rw [List.length_append]; omega)) (Ev.const _))
    simp only [spec_Merge.l0]
    rw [if_neg (by omega)]
    simp only [Option.bind_some, List.nil_append, List.length_nil, Nat.zero_add]
    rw [if_pos (by omega), if_pos (by omega)]
  | succ d ih =>
    intro n hd hn hall
    have hn' : n < x0.length := by omega
    rw [List.drop_eq_getElem_cons hn', List.any_cons] at hall
    refine Ev.step (g := fun k => spec_Merge.l1 k x0 x1 (n : Int) ((0 : Nat) : Int)) (fun k => ?_) (merge_l1 x0 x1 n hn' (by omega) R (fun hf => ?_) (fun ht => hR0 (by rw [hall, ht, Bool.true_or])) x1.length 0 (by omega) (by omega) (by rw [List.drop_zero]))
    · simp only [spec_Merge.l0]
      rw [if_pos (by omega)]
      rfl
    · rw [w64 _ (by omega)]
      exact ih (n + 1) (by omega) (by omega) (by rw [hall, hf, Bool.false_or])

theorem insP_last (x c : Int) : ∀ l : List (Int × Int), (∀ q ∈ l, q.1 < x) → insP x c l = l ++ [(x, c)]
  | [], _ => rfl
  | y :: r, h => by
    have hy := h y (by simp)
    unfold insP
    rw [if_neg (by omega), if_neg (by omega), insP_last x c r (fun q hq => h q (by simp [hq]))]; rfl
theorem fold_sorted : ∀ (s r : List (Int × Int)), (r ++ s).Pairwise (fun a b => a.1 < b.1) → s.foldl (fun r p => insP p.1 p.2 r) r = r ++ s
  | [], r, _ => by simp
  | p :: s, r, h => by
    have hl : ∀ q ∈ r, q.1 < p.1 := fun q hq => (List.pairwise_append.1 h).2.2 q hq p (by simp)
    rw [List.foldl_cons, insP_last _ _ _ hl, fold_sorted s (r ++ [(p.1, p.2)]) (by rw [List.append_assoc]; exact h), List.append_assoc]; rfl
theorem plainP_mk (s : List (Int × Int)) (h : s.Pairwise (fun a b => a.1 < b.1)) : plainP (s.map mk53) = s := by
  unfold plainP
  rw [List.foldl_map]
  have := fold_sorted s [] (by simpa using h)
  simpa [mk53] using this
open Go.Maps in
theorem plain_same {D E : DataW Unit} {r : List (Int × Int)} (h : Plain .u32 D r) (k : Plain .u32 E r) (x : Int) : Maps.has D (.int .u32 x) = Maps.has E (.int .u32 x) ∧ ∀ z, D.atKey (.int .u32 x) z = E.atKey (.int .u32 x) z := by
  have hh : Maps.has D (.int .u32 x) = Maps.has E (.int .u32 x) := by rw [Bool.eq_iff_iff, ← h.mem, ← k.mem]
  refine ⟨hh, fun z => ?_⟩
  cases hc : Maps.has D (.int .u32 x) with
  | true =>
    obtain ⟨c, hm⟩ := (h.mem x).2 hc
    rw [h.val _ hm z, k.val _ hm z]
  | false => rw [atKey_of_not_has hc, atKey_of_not_has (by rw [← hh]; exact hc)]
theorem plain_twice (l0 l1 : List S53) : plainP (plainS l0 ++ plainS l1) = plainP (l0 ++ l1) := by
  have o1 := over_append (plainS l0) (plainS l1)
  have o2 := over_append l0 l1
  have p0 : Plain .u32 (mapP (plainS l0)) (plainP l0) := by
    have := plainP_spec (plainS l0)
    rwa [plainS_eq, plainP_mk _ (plainP_spec l0).sorted, ← plainS_eq] at this
  have p1 : Plain .u32 (mapP (plainS l1)) (plainP l1) := by
    have := plainP_spec (plainS l1)
    rwa [plainS_eq, plainP_mk _ (plainP_spec l1).sorted, ← plainS_eq] at this
  have s0 := plain_same p0 (plainP_spec l0)
  have s1 := plain_same p1 (plainP_spec l1)
  refine plain_unique (plainP_spec _) (plainP_spec _) (fun x => ?_) (fun x z => ?_)
  · rw [o1.has, o2.has, (s0 x).1, (s1 x).1]
  · cases hB : Go.Maps.has (mapP l1) (.int .u32 x) with
    | true => rw [o1.new _ z (by rw [(s1 x).1]; exact hB), o2.new _ z hB, (s1 x).2]
    | false => rw [o1.old _ z (by rw [(s1 x).1]; exact hB), o2.old _ z hB, (s0 x).2]
theorem clashS (l0 l1 : List S53) : ((plainS l0).any fun p => (plainS l1).any (hitS p)) = clashP l0 l1 := by
  unfold clashP
  rw [plainS_eq, plainS_eq, List.any_map]
  congr 1
  funext p
  simp only [Function.comp, List.any_map]
  rfl
theorem plainS_length (l : List S53) : (plainS l).length ≤ l.length := by
  have key : ∀ (l r : List S53), (l.foldl (fun r p => insS p r) r).length ≤ r.length + l.length := by
    intro l
    induction l with
    | nil => intro r; simp
    | cons p l ih => intro r; have := ih (insS p r); have := insS_length p r; rw [List.foldl_cons, List.length_cons]; omega
  have := key l []
  simpa [plainS] using this
theorem merge_ev (l0 l1 : List S53) (h0 : l0.length ≤ 2000) (h1 : l1.length ≤ 2000) : Ev (fun k => spec_Merge.f k l0 l1) (if clashP l0 l1 = true then ([], false) else ((plainP (l0 ++ l1)).map mk53, true)) := by
  unfold spec_Merge.f
  have a0 := plainS_length l0
  have a1 := plainS_length l1
  refine Ev.bind (pairs_ev l0 (by omega)) (Ev.bind (pairs_ev l1 (by omega)) ?_)
  refine merge_l0 (plainS l0) (plainS l1) (by omega) (by omega) _ (fun h => ?_) (fun h => ?_) (plainS l0).length 0 (by omega) (by omega) (by rw [List.drop_zero])
  · rw [clashS] at h; rw [if_pos h]
  · rw [clashS] at h; rw [if_neg (by rw [h]; simp), plainS_eq (plainS l0 ++ plainS l1), plain_twice]

/-! ### the law -/
theorem law_l0 (l : List S53) (hl : l.length < 4294967296) : ∀ (d i : Nat), l.length - i = d → i ≤ l.length → Ev (fun k => laws_FnMerge.l0 k l l (l.length : Int) (i : Int)) true := by
  intro d
  induction d with
  | zero =>
    intro i hd hi
    refine Ev.step (g := fun _ => some true) (fun k => ?_) (Ev.const _)
    simp only [laws_FnMerge.l0]
    rw [if_neg (by omega)]
  | succ d ih =>
    intro i hd hi
    refine Ev.step (g := fun k => laws_FnMerge.l0 k l l (l.length : Int) ((i + 1 : Nat) : Int)) (fun k => ?_) (ih (i + 1) (by omega) (by omega))
    simp only [laws_FnMerge.l0]
    rw [if_pos (by omega), if_pos (by omega), if_pos (by omega), if_pos (by omega), w64 _ (by omega), if_neg (by simp)]
theorem law_j2 (l : List S53) (hl : l.length < 4294967296) : Ev (fun k => laws_FnMerge.j2 k l l false) true := by
  refine Ev.step (g := fun k => laws_FnMerge.l0 k l l (l.length : Int) ((0 : Nat) : Int)) (fun k => ?_) (law_l0 l hl l.length 0 (by omega) (by omega))
  simp only [laws_FnMerge.j2]
  rw [if_neg (by simp)]; rfl
theorem Ev.some {α : Type} {f : Nat → Option α} {r : α} (h : Ev f r) : ∃ k, f k = some r := by
  obtain ⟨k0, hk⟩ := h
  exact ⟨k0, hk k0 (Nat.le_refl _)⟩
theorem okP_of {l : List S53} (h : fnMergeArg.L48 l) : okP l = true := by
  refine List.all_eq_true.2 fun p hp => ?_
  obtain ⟨h1, h2⟩ := h.2 p hp
  rw [of_wf32 h1, of_wf32 h2]; rfl
theorem FnMerge : fnMergeArg.PureIs := by
  intro x0 x1 h0 h1
  refine Ev.some ?_
  unfold laws_FnMerge.f
  by_cases c0 : (x0.length : Int) > 2147483647
  · simp only [if_pos c0]
    refine Ev.step (g := fun _ => Option.some true) (fun k => ?_) (Ev.const _)
    simp only [laws_FnMerge.j0]; rw [if_pos trivial]
  simp only [if_neg c0]
  by_cases c1 : (x1.length : Int) > 2147483647
  · refine Ev.step (g := fun _ => Option.some true) (fun k => ?_) (Ev.const _)
    simp only [laws_FnMerge.j0]; rw [if_pos (by simpa using c1)]
  by_cases c2 : (x0.length : Int) > 2000
  · refine Ev.step (g := fun k => laws_FnMerge.j1 k x0 x1 true) (fun k => ?_) (Ev.step (g := fun _ => Option.some true) (fun k => ?_) (Ev.const _))
    · simp only [laws_FnMerge.j0]; rw [if_neg (by simpa using c1), if_pos c2]
    · simp only [laws_FnMerge.j1]; rw [if_pos trivial]
  by_cases c3 : (x1.length : Int) > 2000
  · refine Ev.step (g := fun k => laws_FnMerge.j1 k x0 x1 true) (fun k => ?_) (Ev.step (g := fun _ => Option.some true) (fun k => ?_) (Ev.const _))
    · simp only [laws_FnMerge.j0]; rw [if_neg (by simpa using c1), if_neg c2, decide_eq_true c3]
    · simp only [laws_FnMerge.j1]; rw [if_pos trivial]
  obtain ⟨R, hR⟩ : ∃ R, R = (if clashP x0 x1 = true then (([] : List S53), false) else ((plainP (x0 ++ x1)).map mk53, true)) := ⟨_, rfl⟩
  have hi : impl_Merge.f x0 x1 = Option.some R := by
    unfold impl_Merge.f
    rw [if_pos ⟨by omega, okP_of h0, okP_of h1⟩, hR]
    split <;> rfl
  have hs := merge_ev x0 x1 (by omega) (by omega)
  rw [← hR] at hs
  have hRl : R.1.length < 4294967296 := by
    have := plainS_length (x0 ++ x1)
    rw [plainS_eq, List.length_append] at this
    rw [hR]; split
    · simp
    · show ((plainP (x0 ++ x1)).map mk53).length < _; omega
  refine Ev.step (g := fun k => laws_FnMerge.j1 k x0 x1 false) (fun k => ?_) (Ev.step (g := fun k => (spec_Merge.f k x0 x1).bind fun bt230 => (if (R.2 != bt230.2) = true then (laws_FnMerge.j2 k R.1 bt230.1 true) else (laws_FnMerge.j2 k R.1 bt230.1 ((R.1.length : Int) != (bt230.1.length : Int))))) (fun k => ?_) (Ev.bind (g := fun k bt230 => (if (R.2 != bt230.2) = true then (laws_FnMerge.j2 k R.1 bt230.1 true) else (laws_FnMerge.j2 k R.1 bt230.1 ((R.1.length : Int) != (bt230.1.length : Int))))) hs ?_))
  · simp only [laws_FnMerge.j0]; rw [if_neg (by simpa using c1), if_neg c2, decide_eq_false c3]
  · simp only [laws_FnMerge.j1]; rw [if_neg (by simp), hi]; rfl
  · have e1 : (R.2 != R.2) = false := by simp
    have e2 : ((R.1.length : Int) != (R.1.length : Int)) = false := by simp
    simp only [e1, e2]
    exact law_j2 R.1 hRl
end Go.Proofs.Ytlmmjchdfngdgaa.Pure
