/- The plain law behind FnOverlaps: the package's word on two data is the reference's, whichever is asked first. -/
import Derived.Test.YtlmmjchdfngdgaaArgFnOverlaps
import Derived.Test.YtlmmjchdfngdgaaPureFnBytes
namespace Go.Proofs.Ytlmmjchdfngdgaa.Pure
open Go.RowKit Go.Proofs.Ytlmmjchdfngdgaa.Q Go.Proofs.YtlmmjchdfngdgaaW.PrintWords Go.Proofs.YtlmmjchdfngdgaaW.PrintLast

theorem spec_ConstOK_eq (a b : Int) (s : ByteArray) : spec_ConstOK.f a b s = some (isC a) := by
  unfold spec_ConstOK.f isC
  by_cases h : a ≥ 1
  · rw [if_pos h]
    congr 1
    rw [Bool.eq_iff_iff]
    simp
    omega
  · rw [if_neg h]
    congr 1
    rw [Bool.eq_iff_iff]
    simp
    omega

theorem cBytes_pos (a : Int) (s : ByteArray) (h : isC a = true) : 0 ≤ cBytes a s := by
  have hk : 1 ≤ a ∧ a ≤ 11 := of_decide_eq_true h
  unfold cBytes
  repeat' split
  all_goals omega
theorem cBytes_le (a : Int) (s : ByteArray) : cBytes a s ≤ s.size + 8 := by
  unfold cBytes
  repeat' split
  all_goals omega

/-- What DataKnown asks of a step. -/
def okStep (x : S39) : Prop :=
  0 ≤ x.f0 ∧ x.f0 ≤ 2 ∧ (isC x.f1.f1.f0 = true → cBytes x.f1.f1.f0 x.f1.f1.f2 ≠ 0) ∧ -1073741824 ≤ x.f1.f0 ∧ x.f1.f0 ≤ 1073741824 ∧ -1073741824 ≤ x.f2 ∧ x.f2 ≤ 1073741824

theorem known_l0 (l : List S39) (hl : l.length ≤ 9223372036854775806) (d : Nat) : ∀ (k : Nat) (i : Int), 0 ≤ i → i ≤ l.length → (l.length : Int) - i = d → d + 5 ≤ k →
    ∃ b, spec_DataKnown.l0 k l l.length i = some b ∧ (b = true → ∀ j : Nat, i ≤ j → j < l.length → okStep (rd_T39 l j)) := by
  induction d with
  | zero =>
    intro k i h0 h1 hd hk
    obtain ⟨k, rfl⟩ : ∃ m, k = m + 1 := ⟨k - 1, by omega⟩
    exact ⟨true, by simp only [spec_DataKnown.l0]; rw [if_neg (by omega)], fun _ j h2 h3 => by omega⟩
  | succ d ih =>
    intro k i h0 h1 hd hk
    obtain ⟨k, rfl⟩ : ∃ m, k = m + 5 := ⟨k - 5, by omega⟩
    have hlt : i < (l.length : Int) := by omega
    have hw : wrap64 (i + 1) = i + 1 := by unfold wrap64; omega
    obtain ⟨b, hb, hall⟩ := ih (k + 4) (i + 1) (by omega) (by omega) (by omega) (by omega)
    simp only [spec_DataKnown.l0]
    rw [if_pos hlt, if_pos h0, if_pos hlt, hw, spec_ConstOK_eq, spec_Bytes_eq]
    obtain ⟨x, hx⟩ : ∃ x, x = rd_T39 l i := ⟨_, rfl⟩
    rw [← hx]
    have key : okStep x → b = true → ∀ j : Nat, i ≤ j → j < l.length → okStep (rd_T39 l j) := by
      intro hs hb j h2 h3
      by_cases e : (j : Int) = i
      · rw [e, ← hx]; exact hs
      · exact hall hb j (by omega) h3
    by_cases c1 : x.f0 < 0
    · rw [if_pos c1]; exact ⟨false, rfl, fun h => by cases h⟩
    rw [if_neg c1]
    by_cases c2 : x.f0 > 2
    · rw [if_pos c2]; exact ⟨false, rfl, fun h => by cases h⟩
    rw [if_neg c2]
    simp only [Option.bind_some]
    by_cases c3 : isC x.f1.f1.f0 = true
    · rw [if_pos c3]
      by_cases c4 : cBytes x.f1.f1.f0 x.f1.f1.f2 = 0
      · rw [if_pos c4]; exact ⟨false, rfl, fun h => by cases h⟩
      rw [if_neg c4]
      by_cases c5 : x.f1.f0 < -1073741824
      · rw [if_pos c5]; exact ⟨false, rfl, fun h => by cases h⟩
      rw [if_neg c5]
      by_cases c6 : x.f1.f0 > 1073741824
      · rw [if_pos c6]; exact ⟨false, rfl, fun h => by cases h⟩
      rw [if_neg c6]
      by_cases c7 : x.f2 < -1073741824
      · rw [if_pos c7]; exact ⟨false, rfl, fun h => by cases h⟩
      rw [if_neg c7]
      by_cases c8 : x.f2 > 1073741824
      · rw [if_pos c8]; exact ⟨false, rfl, fun h => by cases h⟩
      rw [if_neg c8]
      exact ⟨b, hb, key ⟨by omega, by omega, fun _ => c4, by omega, by omega, by omega, by omega⟩⟩
    · rw [if_neg c3]
      by_cases c5 : x.f1.f0 < -1073741824
      · rw [if_pos c5]; exact ⟨false, rfl, fun h => by cases h⟩
      rw [if_neg c5]
      by_cases c6 : x.f1.f0 > 1073741824
      · rw [if_pos c6]; exact ⟨false, rfl, fun h => by cases h⟩
      rw [if_neg c6]
      by_cases c7 : x.f2 < -1073741824
      · rw [if_pos c7]; exact ⟨false, rfl, fun h => by cases h⟩
      rw [if_neg c7]
      by_cases c8 : x.f2 > 1073741824
      · rw [if_pos c8]; exact ⟨false, rfl, fun h => by cases h⟩
      rw [if_neg c8]
      exact ⟨b, hb, key ⟨by omega, by omega, fun h => absurd h c3, by omega, by omega, by omega, by omega⟩⟩

theorem known_f (l : List S39) (hl : l.length ≤ 9223372036854775806) (k : Nat) (hk : l.length + 5 ≤ k) :
    ∃ b, spec_DataKnown.f k l = some b ∧ (b = true → ∀ j : Nat, j < l.length → okStep (rd_T39 l j)) := by
  obtain ⟨b, h1, h2⟩ := known_l0 l hl l.length k 0 (by omega) (by omega) (by omega) hk
  exact ⟨b, h1, fun hb j hj => h2 hb j (by omega) hj⟩

theorem spec_Interval_eq (k : Nat) (o a b : Int) (s : ByteArray) (h : isC a = true) : spec_Interval.f (k + 4) o a b s = some (o, wrap64 (o + cBytes a s)) := by
  unfold spec_Interval.f
  rw [spec_Bytes_eq]
  simp only [Option.bind_some]
  rw [if_neg (by have := cBytes_pos a s h; omega)]

/-- Two data, whose offsets and sizes are not far, overlap just where they have a byte in common. -/
theorem ov_eq (o1 n1 o2 n2 : Int) (h1 : -1073741824 ≤ o1 ∧ o1 ≤ 1073741824) (h2 : -1073741824 ≤ o2 ∧ o2 ≤ 1073741824) (h3 : 0 ≤ n1 ∧ n1 ≤ 2147483655) (h4 : 0 ≤ n2 ∧ n2 ≤ 2147483655) :
    ovB o1 n1 o2 n2 = (decide (o1 < o2 + n2) && decide (o2 < o1 + n1)) := by
  unfold ovB
  have e1 : wrap64 (o1 + n1) = o1 + n1 := by unfold wrap64; omega
  have e2 : wrap64 (o2 + n2) = o2 + n2 := by unfold wrap64; omega
  rw [e1, e2]
  by_cases c1 : o2 + n2 ≤ o1
  · rw [if_pos c1, decide_eq_false (by omega)]; rfl
  · rw [if_neg c1]
    by_cases c2 : o1 + n1 ≤ o2
    · rw [if_pos c2, decide_eq_true (by omega), decide_eq_false (by omega)]; rfl
    · rw [if_neg c2, decide_eq_true (by omega), decide_eq_true (by omega)]; rfl

theorem spec_Overlaps_eq (k : Nat) (o1 k1 b1 : Int) (s1 : ByteArray) (o2 k2 b2 : Int) (s2 : ByteArray) (h1 : -1073741824 ≤ o1 ∧ o1 ≤ 1073741824) (h2 : -1073741824 ≤ o2 ∧ o2 ≤ 1073741824) (h3 : s1.size ≤ 2147483647) (h4 : s2.size ≤ 2147483647) :
    spec_Overlaps.f (k + 5) o1 k1 b1 s1 o2 k2 b2 s2 = some (isC k1 && isC k2 && ovB o1 (cBytes k1 s1) o2 (cBytes k2 s2)) := by
  unfold spec_Overlaps.f
  rw [spec_ConstOK_eq, spec_ConstOK_eq]
  simp only [Option.bind_some]
  by_cases c1 : isC k1 = true
  · rw [if_pos c1, c1]
    by_cases c2 : isC k2 = true
    · rw [c2]
      simp only [spec_Overlaps.j0, Bool.not_true, Bool.false_eq_true, if_false]
      rw [spec_Interval_eq k _ _ _ _ c1, spec_Interval_eq k _ _ _ _ c2]
      simp only [Option.bind_some]
      have p1 := cBytes_pos k1 s1 c1
      have p2 := cBytes_pos k2 s2 c2
      have q1 := cBytes_le k1 s1
      have q2 := cBytes_le k2 s2
      have e1 : wrap64 (o1 + cBytes k1 s1) = o1 + cBytes k1 s1 := by unfold wrap64; omega
      have e2 : wrap64 (o2 + cBytes k2 s2) = o2 + cBytes k2 s2 := by unfold wrap64; omega
      rw [e1, e2, ov_eq _ _ _ _ h1 h2 (by omega) (by omega)]
      by_cases d1 : o1 < o2 + cBytes k2 s2
      · rw [if_pos d1, decide_eq_true d1]; simp
      · rw [if_neg d1, decide_eq_false d1]; simp
    · have c2' : isC k2 = false := by simpa using c2
      rw [c2']
      simp [spec_Overlaps.j0]
  · have c1' : isC k1 = false := by simpa using c1
    rw [if_neg c1, c1']
    simp [spec_Overlaps.j0]

theorem ov_comm (o1 n1 o2 n2 : Int) : ovB o1 n1 o2 n2 = ovB o2 n2 o1 n1 := by
  unfold ovB
  repeat' split
  all_goals rfl

theorem FnOverlaps : fnOverlapsArg.PureIs := by
  intro x y _ _
  refine ⟨12, ?_⟩
  unfold laws_FnOverlaps.f laws_zzFits14.f laws_zzFits11.f
  by_cases c1 : (x.f1.f2.size : Int) > 2147483647
  · simp [c1, laws_FnOverlaps.j0]
  by_cases c2 : (y.f1.f2.size : Int) > 2147483647
  · simp [c1, c2, laws_FnOverlaps.j0]
  simp only [c1, c2, if_false, Option.bind_some, if_true, Bool.not_true, laws_FnOverlaps.j0, Bool.false_eq_true]
  obtain ⟨b, hb, hall⟩ := known_f [(⟨0, ⟨x.f0, ⟨x.f1.f0, x.f1.f1, x.f1.f2⟩⟩, 0⟩ : S39), (⟨0, ⟨y.f0, ⟨y.f1.f0, y.f1.f1, y.f1.f2⟩⟩, 0⟩ : S39)] (by simp) 11 (by simp)
  rw [hb]
  simp only [Option.bind_some]
  by_cases c3 : b = true
  · rw [if_pos c3]
    have g1 := hall c3 0 (by simp)
    have g2 := hall c3 1 (by simp)
    obtain ⟨_, _, _, p1, p2, _⟩ := g1
    obtain ⟨_, _, _, p3, p4, _⟩ := g2
    have p1 : -1073741824 ≤ x.f0 := p1
    have p2 : x.f0 ≤ 1073741824 := p2
    have p3 : -1073741824 ≤ y.f0 := p3
    have p4 : y.f0 ≤ 1073741824 := p4
    rw [spec_Overlaps_eq 6 _ _ _ _ _ _ _ _ ⟨p1, p2⟩ ⟨p3, p4⟩ (by omega) (by omega)]
    unfold impl_Overlaps.f
    simp only [Option.bind_some, beq_self_eq_true, if_true]
    rw [ov_comm y.f0, Bool.and_comm (isC y.f1.f0)]
    simp
  · rw [if_neg c3]
end Go.Proofs.Ytlmmjchdfngdgaa.Pure
