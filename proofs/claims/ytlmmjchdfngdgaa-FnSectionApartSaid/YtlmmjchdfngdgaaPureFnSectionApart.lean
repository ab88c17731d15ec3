/- The plain law behind FnSectionApart: what a section holds lies apart, and ahead of its end. -/
import Derived.Test.YtlmmjchdfngdgaaArgFnSectionApart
import Derived.Test.YtlmmjchdfngdgaaPureFnOverlaps
namespace Go.Proofs.Ytlmmjchdfngdgaa.Pure
open Go.RowKit Go.Proofs.Ytlmmjchdfngdgaa.Q Go.Proofs.YtlmmjchdfngdgaaW.PrintWords Go.Proofs.YtlmmjchdfngdgaaW.PrintLast

theorem fits16 (a b c d : Int) (s : ByteArray) (e : Int) : laws_zzFits16.f a b c d s e = some (decide (s.size ≤ 2147483647)) := by
  unfold laws_zzFits16.f laws_zzFits14.f laws_zzFits11.f
  by_cases h : (s.size : Int) > 2147483647
  · rw [if_pos h, decide_eq_false (by omega)]; rfl
  · rw [if_neg h, decide_eq_true (by omega)]; rfl
theorem fits_l0 (l : List S39) (hl : l.length ≤ 9223372036854775806) (d : Nat) : ∀ (k : Nat) (i : Int), 0 ≤ i → i ≤ l.length → (l.length : Int) - i = d → d + 5 ≤ k →
    ∃ b, laws_zzFits15.l0 k l l.length i = some b ∧ (b = true → ∀ j : Nat, i ≤ j → j < l.length → (rd_T39 l j).f1.f1.f2.size ≤ 2147483647) := by
  induction d with
  | zero =>
    intro k i h0 h1 hd hk
    obtain ⟨k, rfl⟩ : ∃ m, k = m + 1 := ⟨k - 1, by omega⟩
    exact ⟨true, by simp only [laws_zzFits15.l0]; rw [if_neg (by omega)], fun _ j h2 h3 => by omega⟩
  | succ d ih =>
    intro k i h0 h1 hd hk
    obtain ⟨k, rfl⟩ : ∃ m, k = m + 1 := ⟨k - 1, by omega⟩
    have hlt : i < (l.length : Int) := by omega
    have hw : wrap64 (i + 1) = i + 1 := by unfold wrap64; omega
    simp only [laws_zzFits15.l0]
    rw [if_pos hlt, if_pos h0, if_pos hlt, hw, fits16]
    simp only [Option.bind_some]
    by_cases c : (rd_T39 l i).f1.f1.f2.size ≤ 2147483647
    · obtain ⟨b, hb, hall⟩ := ih k (i + 1) (by omega) (by omega) (by omega) (by omega)
      rw [if_pos (decide_eq_true c)]
      refine ⟨b, hb, fun hbt j h2 h3 => ?_⟩
      by_cases e : (j : Int) = i
      · rw [e]; exact c
      · exact hall hbt j (by omega) h3
    · rw [if_neg (by rw [decide_eq_false c]; simp)]
      exact ⟨false, rfl, fun h => by cases h⟩

/-- What is kept of the section. -/
structure Inv (n : Nat) (st : List Dt × Int) : Prop where
  s0 : 0 ≤ st.2
  s1 : st.2 ≤ 1073741824 + n * 2147483656
  d : ∀ d ∈ st.1, -1073741824 ≤ d.1 ∧ 0 ≤ cBytes d.2.1 d.2.2.2 ∧ d.1 + cBytes d.2.1 d.2.2.2 ≤ st.2
  o : st.1.Pairwise (fun a b => a.1 + cBytes a.2.1 a.2.2.2 ≤ b.1 ∨ b.1 + cBytes b.2.1 b.2.2.2 ≤ a.1)
theorem wr_id {x : Int} (h0 : -9223372036854775808 ≤ x) (h1 : x ≤ 9223372036854775807) : wrap64 x = x := by unfold wrap64; omega
theorem mxI_ge (a b : Int) : a ≤ mxI a b ∧ b ≤ mxI a b ∧ (mxI a b = a ∨ mxI a b = b) := by
  unfold mxI
  split
  · exact ⟨by omega, by omega, Or.inr rfl⟩
  · exact ⟨by omega, by omega, Or.inl rfl⟩
theorem inv_add {n : Nat} (hn : n ≤ 2000) {ds : List Dt} {size : Int} (h : Inv n (ds, size)) (x : Dt) (h0 : -1073741824 ≤ x.1) (h1 : x.1 ≤ 1073741824 + n * 2147483656) (hc : 0 ≤ cBytes x.2.1 x.2.2.2) (hm : cBytes x.2.1 x.2.2.2 ≤ 2147483655)
    (ha : ∀ d ∈ ds, d.1 + cBytes d.2.1 d.2.2.2 ≤ x.1 ∨ x.1 + cBytes x.2.1 x.2.2.2 ≤ d.1) : Inv (n + 1) (ds ++ [x], mxI size (wrap64 (x.1 + cBytes x.2.1 x.2.2.2))) := by
  have hw : wrap64 (x.1 + cBytes x.2.1 x.2.2.2) = x.1 + cBytes x.2.1 x.2.2.2 := wr_id (by omega) (by omega)
  rw [hw]
  obtain ⟨m1, m2, m3⟩ := mxI_ge size (x.1 + cBytes x.2.1 x.2.2.2)
  have s0 := h.s0
  have s1 := h.s1
  simp only at s0 s1
  refine ⟨by show 0 ≤ mxI _ _; omega, by show mxI _ _ ≤ _; rcases m3 with e | e <;> rw [e] <;> push_cast <;> omega, fun d hd => ?_, ?_⟩
  · rcases List.mem_append.1 hd with hd | hd
    · obtain ⟨d1, d2, d3⟩ := h.d d hd
      exact ⟨d1, d2, by show _ ≤ mxI _ _; simp only at d3; omega⟩
    · have e : d = x := by simpa using hd
      rw [e]; exact ⟨h0, hc, m2⟩
  · show (ds ++ [x]).Pairwise _
    rw [List.pairwise_append]
    exact ⟨h.o, by simp, fun a ha' b hb => by
      have e : b = x := by simpa using hb
      rw [e]; exact ha a ha'⟩
theorem ovB_false {o n o' n' : Int} (h0 : -1073741824 ≤ o) (h1 : o + n ≤ 9000000000000000000) (h2 : 0 ≤ n) (g0 : -1073741824 ≤ o') (g1 : o' + n' ≤ 9000000000000000000) (g2 : 0 ≤ n') : ovB o n o' n' = false ↔ (o' + n' ≤ o ∨ o + n ≤ o') := by
  unfold ovB
  rw [wr_id (by omega) (by omega), wr_id (by omega) (by omega)]
  by_cases c : o' + n' ≤ o
  · rw [if_pos c]; simp [c]
  · rw [if_neg c]
    by_cases c2 : o + n ≤ o'
    · rw [if_pos c2]; simp [c2]
    · rw [if_neg c2]; simp [c, c2]
theorem inv_step {n : Nat} (hn : n ≤ 2000) {st : List Dt × Int} (h : Inv n st) (x : S39) (hx : okStep x) (hs : x.f1.f1.f2.size ≤ 2147483647) : Inv (n + 1) (stepS st x) := by
  obtain ⟨ds, size⟩ := st
  have s0 := h.s0
  have s1 := h.s1
  simp only at s0 s1
  have same : ∀ z, size ≤ z → z ≤ 1073741824 + (n + 1 : Nat) * 2147483656 → Inv (n + 1) (ds, z) := fun z h1 h2 =>
    ⟨by show 0 ≤ z; omega, h2, fun d hd => by obtain ⟨a, b, c⟩ := h.d d hd; exact ⟨a, b, by show _ ≤ z; simp only at c; omega⟩, h.o⟩
  obtain ⟨x0, x1, xb, o0, o1, z0, z1⟩ := hx
  have hcl := cBytes_le x.f1.f1.f0 x.f1.f1.f2
  unfold stepS
  by_cases c2 : x.f0 = 2
  · rw [if_pos c2]
    obtain ⟨m1, m2, m3⟩ := mxI_ge size x.f2
    exact same _ m1 (by rcases m3 with e | e <;> rw [e] <;> push_cast <;> omega)
  rw [if_neg c2]
  by_cases hc : isC x.f1.f1.f0 = true
  · rw [if_pos hc]
    have hp := cBytes_pos x.f1.f1.f0 x.f1.f1.f2 hc
    by_cases c0 : x.f0 = 0
    · rw [if_pos c0]
      by_cases hh : hits ds x.f1.f0 (cBytes x.f1.f1.f0 x.f1.f1.f2) = true
      · rw [if_pos hh]; exact same size (Int.le_refl _) (by push_cast; omega)
      · rw [if_neg hh]
        have hh' : hits ds x.f1.f0 (cBytes x.f1.f1.f0 x.f1.f1.f2) = false := by simpa using hh
        refine inv_add hn h (x.f1.f0, x.f1.f1.f0, x.f1.f1.f1, x.f1.f1.f2) o0 (by show x.f1.f0 ≤ _; omega) hp (by show cBytes x.f1.f1.f0 x.f1.f1.f2 ≤ _; omega) (fun d hd => ?_)
        obtain ⟨d1, d2, d3⟩ := h.d d hd
        have hov : ovB x.f1.f0 (cBytes x.f1.f1.f0 x.f1.f1.f2) d.1 (cBytes d.2.1 d.2.2.2) = false := by
          have := List.any_eq_false.1 hh' d hd
          simpa using this
        simp only at d3
        exact (ovB_false o0 (by omega) hp d1 (by omega) d2).1 hov
    · rw [if_neg c0]
      by_cases c1 : x.f0 = 1
      · rw [if_pos c1]
        refine inv_add hn h (size, x.f1.f1.f0, x.f1.f1.f1, x.f1.f1.f2) (by show _ ≤ size; omega) (by show size ≤ _; omega) hp (by show cBytes x.f1.f1.f0 x.f1.f1.f2 ≤ _; omega) (fun d hd => Or.inl ?_)
        have := (h.d d hd).2.2
        exact this
      · rw [if_neg c1]; exact same size (Int.le_refl _) (by push_cast; omega)
  · rw [if_neg hc]; exact same size (Int.le_refl _) (by push_cast; omega)
theorem inv_run : ∀ (l : List S39) (n : Nat) (st : List Dt × Int), n + l.length ≤ 2001 → Inv n st → (∀ x ∈ l, okStep x ∧ x.f1.f1.f2.size ≤ 2147483647) → Inv (n + l.length) (l.foldl stepS st)
  | [], n, st, _, h, _ => h
  | x :: l, n, st, hn, h, hx => by
    have h1 := inv_step (by simp at hn; omega) h x (hx x (by simp)).1 (hx x (by simp)).2
    have := inv_run l (n + 1) _ (by simp at hn ⊢; omega) h1 (fun y hy => hx y (by simp [hy]))
    rw [List.foldl_cons, List.length_cons, show n + (l.length + 1) = n + 1 + l.length by omega]
    exact this
theorem apt_of {l : List S39} (hl : l.length ≤ 2000) (h : ∀ x ∈ l, okStep x ∧ x.f1.f1.f2.size ≤ 2147483647) : Apt (runS l).1 (runS l).2 := by
  have hI : Inv (0 + l.length) (runS l) := inv_run l 0 ([], 0) (by omega) ⟨by simp, by simp, by simp, by simp⟩ h
  have s1 := hI.s1
  have hsz : (runS l).2 ≤ 5000000000000 := by push_cast at s1; omega
  refine ⟨fun d hd => ?_, fun i j d d' hi hj hlt => ?_⟩
  · obtain ⟨d1, d2, d3⟩ := hI.d d hd
    rw [wr_id (by omega) (by omega)]; exact d3
  · obtain ⟨d1, d2, d3⟩ := hI.d d (List.mem_of_getElem? hi)
    obtain ⟨e1, e2, e3⟩ := hI.d d' (List.mem_of_getElem? hj)
    obtain ⟨hi1, hi2⟩ := List.getElem?_eq_some_iff.1 hi
    obtain ⟨hj1, hj2⟩ := List.getElem?_eq_some_iff.1 hj
    have hp := List.pairwise_iff_getElem.1 hI.o j i hj1 hi1 hlt
    rw [hi2, hj2] at hp
    exact ⟨(ovB_false d1 (by omega) d2 e1 (by omega) e2).2 hp, (ovB_false e1 (by omega) e2 d1 (by omega) d2).2 hp.symm⟩
theorem rd39 (l : List S39) (x : S39) (hx : x ∈ l) : ∃ j : Nat, j < l.length ∧ rd_T39 l (j : Int) = x := by
  obtain ⟨j, hj, e⟩ := List.getElem_of_mem hx
  exact ⟨j, hj, by unfold rd_T39; simp [List.getD, List.getElem?_eq_getElem hj, e]⟩
theorem FnSectionApart : fnSectionApartArg.PureIs := by
  intro l h0
  have hlen : l.length ≤ 9223372036854775806 := by have := h0.1; omega
  obtain ⟨b, hb, hb2⟩ := fits_l0 l hlen l.length (l.length + 5) 0 (by omega) (by omega) (by omega) (by omega)
  obtain ⟨kn, hk, hk2⟩ := known_l0 l hlen l.length (l.length + 5) 0 (by omega) (by omega) (by omega) (by omega)
  refine ⟨l.length + 5, ?_⟩
  unfold laws_FnSectionApart.f laws_zzFits15.f spec_DataKnown.f
  by_cases c : (l.length : Int) > 2147483647
  · rw [if_pos c]; rfl
  rw [if_neg c, hb]
  simp only [Option.bind_some]
  cases b with
  | false => rw [if_pos rfl]
  | true =>
    rw [if_neg (by simp)]
    by_cases c2 : l.length > 2000
    · rw [if_pos c2]
    rw [if_neg c2, hk]
    simp only [Option.bind_some]
    cases kn with
    | false => rw [if_pos rfl]
    | true =>
      rw [if_neg (by simp), if_pos]
      refine apt_of (by omega) (fun x hx => ?_)
      obtain ⟨j, hj, e⟩ := rd39 l x hx
      rw [← e]
      exact ⟨hk2 rfl j (by omega) hj, hb2 rfl j (by omega) hj⟩
end Go.Proofs.Ytlmmjchdfngdgaa.Pure
