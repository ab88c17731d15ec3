/- Plain laws of terms. -/
import Derived.Test.YtlmmjchdfngdgaaDoorQ5
namespace Go.Proofs.YtlmmjchdfngdgaaDoor.Pure
open Go.RowKit Go.Proofs.YtlmmjchdfngdgaaDoor.Q Go.Proofs.YtlmmjchdfngdgaaDoorW.PrintWords Go.Proofs.YtlmmjchdfngdgaaDoorW.PrintLast
def Ev {α : Type} (f : Nat → Option α) (r : α) : Prop := ∃ k0, ∀ k, k0 ≤ k → f k = some r
theorem Ev.step {α : Type} {f g : Nat → Option α} {r : α} (h : ∀ k, f (k + 1) = g k) (hg : Ev g r) : Ev f r := by
  obtain ⟨k0, hk⟩ := hg
  refine ⟨k0 + 1, fun k hk' => ?_⟩
  obtain ⟨m, rfl⟩ : ∃ m, k = m + 1 := ⟨k - 1, by omega⟩
  rw [h]; exact hk m (by omega)
theorem Ev.const {α : Type} (r : α) : Ev (fun _ => some r) r := ⟨0, fun _ _ => rfl⟩
theorem Ev.bind {α β : Type} {f : Nat → Option α} {g : Nat → α → Option β} {a : α} {r : β} (hf : Ev f a) (hg : Ev (fun k => g k a) r) : Ev (fun k => (f k).bind fun x => g k x) r := by
  obtain ⟨k0, h0⟩ := hf
  obtain ⟨k1, h1⟩ := hg
  exact ⟨k0 + k1, fun k hk => by show (f k).bind _ = _; rw [h0 k (by omega)]; exact h1 k (by omega)⟩
theorem w64 (i : Nat) (h : i < 9223372036854775807) : wrap64 ((i : Int) + 1) = ((i + 1 : Nat) : Int) := by unfold wrap64; omega
/-- A loop over a list that tells whether all of it is so. -/
theorem ev_all {α : Type} (l : List α) (hl : l.length < 9223372036854775807) (V : α → Bool) (F : Nat → Int → Option Bool)
    (hend : ∀ k, F (k + 1) (l.length : Int) = some true)
    (hstep : ∀ (i : Nat) (x : α), l[i]? = some x → ∃ g : Nat → Option Bool, Ev g (V x) ∧ ∀ k, F (k + 1) (i : Int) = (g k).bind fun t => if t = true then F k (wrap64 ((i : Int) + 1)) else some false) :
    Ev (fun k => F k 0) (l.all V) := by
  have key : ∀ (d i : Nat), l.length - i = d → i ≤ l.length → Ev (fun k => F k (i : Int)) ((l.drop i).all V) := by
    intro d
    induction d with
    | zero =>
      intro i hd hi
      obtain rfl : i = l.length := by omega
      rw [List.drop_length]
      exact Ev.step (g := fun _ => some true) hend (Ev.const _)
    | succ d ih =>
      intro i hd hi
      have hi' : i < l.length := by omega
      obtain ⟨g, hg, hF⟩ := hstep i l[i] (List.getElem?_eq_getElem hi')
      rw [List.drop_eq_getElem_cons hi', List.all_cons]
      refine Ev.step hF (Ev.bind (g := fun k t => if t = true then F k (wrap64 ((i : Int) + 1)) else some false) hg ?_)
      cases hv : V l[i] with
      | true =>
        simp only [if_true, Bool.true_and]
        rw [w64 i (by omega)]
        exact ih (i + 1) (by omega) (by omega)
      | false =>
        simp only [Bool.false_and]
        exact Ev.const _
  have := key l.length 0 (by omega) (by omega)
  rwa [List.drop_zero] at this
theorem ba_ext {a b : ByteArray} (h : a.data.toList = b.data.toList) : a = b := ByteArray.ext (Array.ext' h)
theorem parts_eq (s : ByteArray) : spec_TermParts.f s = some (negT s, nameT s) := by
  unfold spec_TermParts.f
  by_cases h0 : (s.size : Int) > 0
  · rw [if_pos h0, if_pos (by omega)]
    have hs : 0 < s.size := by omega
    obtain ⟨c, t, hl⟩ : ∃ c t, s.data.toList = c :: t := by
      cases hd : s.data.toList with
      | nil => have : s.size = 0 := by rw [Lib.size_eq, hd]; rfl
               omega
      | cons c t => exact ⟨c, t, rfl⟩
    have hb : bt s 0 = (c.toNat : Int) := by
      unfold bt
      rw [dif_pos (show (0 : Int).toNat < s.size by simpa using hs)]
      have : s[(0 : Int).toNat]'(by simpa using hs) = c := by
        show s.data[0]'_ = c
        have h2 : s.data.toList[0]? = some c := by rw [hl]; rfl
        rw [Array.getElem?_toList] at h2
        exact (Array.getElem?_eq_some_iff.1 h2).2
      rw [this]
    rw [hb]
    by_cases hc : (c.toNat : Int) = 33
    · have hc' : c = 33 := by
        have : c.toNat = 33 := by omega
        exact UInt8.toNat_inj.1 (by rw [this]; rfl)
      rw [if_pos hc, if_pos (by omega)]
      have hneg : negT s = true := by unfold negT Lib.hasPrefix; rw [hl, hc']; rfl
      have hname : nameT s = s.extract 1 s.size := by
        apply ba_ext
        unfold nameT Lib.trimPrefix Lib.hasPrefix
        rw [hl, hc']
        simp only [ByteArray.data_extract, Array.toList_extract, List.isPrefixOf]
        rw [hl, Lib.size_eq, hl]
        simp
      rw [hneg, hname]
    · rw [if_neg hc]
      have hc' : ¬ c = 33 := fun e => hc (by rw [e]; rfl)
      have hneg : negT s = false := by
        unfold negT Lib.hasPrefix; rw [hl]
        simp [List.isPrefixOf]
        exact fun e => hc' e.symm
      have hname : nameT s = s := by
        apply ba_ext
        have h2 : Lib.hasPrefix s.data.toList [33] = false := hneg
        unfold nameT Lib.trimPrefix
        rw [h2]; rfl
      rw [hneg, hname]
  · rw [if_neg h0]
    have hl : s.data.toList = [] := by
      have : s.size = 0 := by omega
      rw [Lib.size_eq] at this
      exact List.eq_nil_of_length_eq_zero this
    have hneg : negT s = false := by unfold negT Lib.hasPrefix; rw [hl]; rfl
    have hname : nameT s = s := by
      apply ba_ext
      unfold nameT Lib.trimPrefix Lib.hasPrefix
      rw [hl]; rfl
    rw [hneg, hname]
def okN (c : Int) : Bool := decide ((97 ≤ c ∧ c ≤ 122) ∨ (65 ≤ c ∧ c ≤ 90) ∨ (48 ≤ c ∧ c ≤ 57) ∨ c = 95 ∨ c = 46)
theorem okN_okc (c : Nat) (h : c < 128) : okN (c : Int) = okc c := by
  unfold okN okc Lib.isLetterL Lib.isUpperL Lib.isLowerL Lib.isDigitL
  rw [Bool.eq_iff_iff]
  simp only [Bool.or_eq_true, decide_eq_true_eq]
  omega
theorem valid_round (n : ByteArray) (i : Nat) (hi : i < n.size) (k : Nat) : spec_TermValid.l0 (k + 1) n (i : Int) = if okN (bt n (i : Int)) = true then spec_TermValid.l0 k n (wrap64 ((i : Int) + 1)) else some false := by
  simp only [spec_TermValid.l0]
  rw [if_pos (by omega), if_pos (by omega)]
  generalize spec_TermValid.l0 k n (wrap64 ((i : Int) + 1)) = X
  generalize bt n (i : Int) = c
  by_cases h : okN c = true
  · rw [if_pos h]
    have := of_decide_eq_true h
    repeat' split
    all_goals first | rfl | omega
  · rw [if_neg h]
    have := of_decide_eq_false (by simpa using h : okN c = false)
    repeat' split
    all_goals first | rfl | omega
theorem valid_l0 (n : ByteArray) (hn : n.size < 9223372036854775807) : ∀ (d i : Nat), n.size - i = d → i ≤ n.size → Ev (fun k => spec_TermValid.l0 k n (i : Int)) ((List.range' i (n.size - i)).all (fun j => okN (bt n (j : Int))) && (n.toList != ([] : List UInt8))) := by
  intro d
  induction d with
  | zero =>
    intro i hd hi
    rw [hd]
    refine Ev.step (g := fun _ => some (n.toList != ([] : List UInt8))) (fun k => ?_) (by simpa using Ev.const _)
    simp only [spec_TermValid.l0]
    rw [if_neg (by omega)]
  | succ d ih =>
    intro i hd hi
    have hi' : i < n.size := by omega
    rw [hd, List.range'_succ, List.all_cons]
    refine Ev.step (valid_round n i hi') ?_
    cases hv : okN (bt n (i : Int)) with
    | true =>
      simp only [if_true, Bool.true_and]
      rw [w64 i (by omega)]
      have := ih (i + 1) (by omega) (by omega)
      rwa [show n.size - (i + 1) = d by omega] at this
    | false =>
      simp only [Bool.false_and]
      exact Ev.const _
theorem all_bytes (n : ByteArray) (ha : asciiB n = true) : (List.range' 0 n.size).all (fun j => okN (bt n (j : Int))) = allOk n := by
  rw [Bool.eq_iff_iff, List.all_eq_true]
  constructor
  · intro h
    refine allOk_of fun i hi => ?_
    have := h i (by rw [List.mem_range'_1]; omega)
    have e : bt n (i : Int) = ((n[i]'hi).toNat : Int) := by unfold bt; rw [dif_pos (show ((i : Int)).toNat < n.size by simpa using hi)]; simp
    rw [e, okN_okc _ (ascii_at ha i hi)] at this
    exact this
  · intro h j hj
    rw [List.mem_range'_1] at hj
    have hj' : j < n.size := by omega
    have e : bt n (j : Int) = ((n[j]'hj').toNat : Int) := by unfold bt; rw [dif_pos (show ((j : Int)).toNat < n.size by simpa using hj')]; simp
    rw [e, okN_okc _ (ascii_at ha j hj')]
    exact allOk_at h j hj'
theorem toList_ne (n : ByteArray) : (n.toList != ([] : List UInt8)) = decide (n.size ≠ 0) := by
  rw [Lib.toList_data, Lib.size_eq]
  cases n.data.toList <;> simp
theorem valid_ev (s : ByteArray) (hs : s.size < 9223372036854775807) (ha : asciiB s = true) : Ev (fun k => spec_TermValid.f k s) (validB s) := by
  unfold spec_TermValid.f
  rw [parts_eq]
  simp only [Option.bind_some]
  have hn : (nameT s).size < 9223372036854775807 := Nat.lt_of_le_of_lt (name_size s) hs
  have h := valid_l0 (nameT s) hn (nameT s).size 0 (by omega) (by omega)
  rw [Nat.sub_zero, all_bytes _ (ascii_name ha), toList_ne] at h
  have e : validB s = (allOk (nameT s) && decide ((nameT s).size ≠ 0)) := by
    unfold validB
    cases hp : Lib.hasPrefix s.data.toList [33, 33] with
    | false => rw [Bool.not_false, Bool.true_and, Bool.and_comm]
    | true =>
      have hf : allOk (nameT s) = false := by
        obtain ⟨t, ht⟩ : ∃ t, s.data.toList = 33 :: 33 :: t := by
          have h2 : [33, 33] <+: s.data.toList := List.isPrefixOf_iff_prefix.1 hp
          obtain ⟨t, ht⟩ := h2
          exact ⟨t, ht.symm⟩
        unfold allOk nameT Lib.trimPrefix Lib.hasPrefix
        rw [ht]
        simp [List.isPrefixOf]
        intro h3
        exact absurd h3 (by decide)
      rw [hf]; rfl
  rw [e]
  exact h
theorem ev_any {α : Type} (l : List α) (hl : l.length < 9223372036854775807) (V : α → Bool) (F : Nat → Int → Option Bool)
    (hend : ∀ k, F (k + 1) (l.length : Int) = some false)
    (hstep : ∀ (i : Nat) (x : α), l[i]? = some x → ∃ g : Nat → Option Bool, Ev g (V x) ∧ ∀ k, F (k + 1) (i : Int) = (g k).bind fun t => if t = true then some true else F k (wrap64 ((i : Int) + 1))) :
    Ev (fun k => F k 0) (l.any V) := by
  have key : ∀ (d i : Nat), l.length - i = d → i ≤ l.length → Ev (fun k => F k (i : Int)) ((l.drop i).any V) := by
    intro d
    induction d with
    | zero =>
      intro i hd hi
      obtain rfl : i = l.length := by omega
      rw [List.drop_length]
      exact Ev.step (g := fun _ => some false) hend (Ev.const _)
    | succ d ih =>
      intro i hd hi
      have hi' : i < l.length := by omega
      obtain ⟨g, hg, hF⟩ := hstep i l[i] (List.getElem?_eq_getElem hi')
      rw [List.drop_eq_getElem_cons hi', List.any_cons]
      refine Ev.step hF (Ev.bind (g := fun k t => if t = true then some true else F k (wrap64 ((i : Int) + 1))) hg ?_)
      cases hv : V l[i] with
      | false =>
        simp only [Bool.false_eq_true, if_false, Bool.false_or]
        rw [w64 i (by omega)]
        exact ih (i + 1) (by omega) (by omega)
      | true =>
        simp only [Bool.true_or]
        exact Ev.const _
  have := key l.length 0 (by omega) (by omega)
  rwa [List.drop_zero] at this
theorem lt_of_get {α : Type} {l : List α} {i : Nat} {x : α} (h : l[i]? = some x) : i < l.length := (List.getElem?_eq_some_iff.1 h).1
theorem rdS {l : List ByteArray} {i : Nat} {x : ByteArray} (h : l[i]? = some x) : rdOf ByteArray.empty l (i : Int) = x := by unfold rdOf; simp [List.getD, h]
end Go.Proofs.YtlmmjchdfngdgaaDoor.Pure
