/- Plain laws of parsing: what the specification's functions compute. -/
import Derived.Test.YtlmmjchdfngdgaaDoorTr
import Derived.Test.YtlmmjchdfngdgaaDoorR3
namespace Go.Proofs.YtlmmjchdfngdgaaDoor.Pure
open Go.RowKit Go.Proofs.YtlmmjchdfngdgaaDoor.Q Go.Proofs.YtlmmjchdfngdgaaDoorW.PrintLast
open Go.Proofs.YtlmmjchdfngdgaaDoorW.PrintWords hiding Ev
set_option linter.unusedVariables false
set_option linter.unusedSimpArgs false
theorem bt_of (s : ByteArray) (i : Nat) (hl : i < s.data.toList.length) : bt s (i : Int) = (s.data.toList[i].toNat : Int) := by
  have hi' : i < s.size := by rw [Lib.size_eq]; exact hl
  unfold bt
  rw [dif_pos (show ((i : Int)).toNat < s.size by simpa using hi')]
  rfl
theorem rAscii_ev (s : ByteArray) (hs : s.size < 9223372036854775807) : Ev (fun k => R.spec_Ascii.f k s) (asciiB s) := by
  unfold R.spec_Ascii.f asciiB
  have hl : s.data.toList.length = s.size := (Lib.size_eq s).symm
  refine ev_all s.data.toList (by omega) _ (fun k i => R.spec_Ascii.l0 k s i) (fun k => ?_) (fun i x h => ⟨fun _ => some (decide (x.toNat < 128)), Ev.const _, fun k => ?_⟩)
  · simp only [R.spec_Ascii.l0]; rw [if_neg (by omega)]
  · obtain ⟨hi, hx⟩ := List.getElem?_eq_some_iff.1 h
    have e : bt s (i : Int) = (x.toNat : Int) := by rw [bt_of s i hi, hx]
    simp only [R.spec_Ascii.l0, Option.bind_some]
    rw [if_pos (by omega), if_pos (by omega), e]
    by_cases c : x.toNat < 128
    · rw [if_neg (by omega), decide_eq_true c, if_pos rfl]
    · rw [if_pos (by omega), decide_eq_false c, if_neg (by simp)]
theorem isSp_iff (x : UInt8) : Lib.isSp x = true ↔ (x.toNat = 32 ∨ (9 ≤ x.toNat ∧ x.toNat ≤ 13)) := by
  unfold Lib.isSp
  simp only [Bool.or_eq_true, beq_iff_eq, ← UInt8.toNat_inj]
  have : (9 : UInt8).toNat = 9 ∧ (10 : UInt8).toNat = 10 ∧ (11 : UInt8).toNat = 11 ∧ (12 : UInt8).toNat = 12 ∧ (13 : UInt8).toNat = 13 ∧ (32 : UInt8).toNat = 32 := by decide
  omega
theorem extract_one (s : ByteArray) (i : Nat) (hl : i < s.data.toList.length) : s.extract i (i + 1) = toB [s.data.toList[i]] := by
  apply ba_ext
  rw [toB_data]
  simp only [ByteArray.data_extract, Array.toList_extract, List.extract]
  rw [show i + 1 - i = 1 by omega, List.drop_eq_getElem_cons hl]
  rfl
theorem empty_of {s : ByteArray} (h : s.data.toList = []) : s = ⟨#[]⟩ := ba_ext h
theorem rFields_ev (s : ByteArray) (hs : s.size < 4294967296) : Ev (fun k => R.spec_tagsFields.f k s) (fsB s) := by
  have hlen : s.data.toList.length = s.size := (Lib.size_eq s).symm
  have key : ∀ (d i : Nat) (out : List ByteArray) (now : ByteArray), s.size - i = d → i ≤ s.size → out.length ≤ i → now.size ≤ i → Ev (fun k => R.spec_tagsFields.l0 k s out now (i : Int)) (out ++ (Lib.fieldsGo now.data.toList (s.data.toList.drop i)).map toB) := by
    intro d
    induction d with
    | zero =>
      intro i out now hd hi ho hn
      obtain rfl : i = s.size := by omega
      rw [← hlen, List.drop_length]
      by_cases h : now.data.toList = []
      · have e : Lib.fieldsGo now.data.toList [] = [] := by rw [h]; rfl
        rw [e, List.map_nil, List.append_nil, hlen]
        refine Ev.step (g := fun _ => some out) (fun k => ?_) (Ev.const _)
        simp only [R.spec_tagsFields.l0]
        rw [if_neg (by omega), if_pos (by rw [Lib.toList_data]; exact h)]
      · have e : Lib.fieldsGo now.data.toList [] = [now.data.toList] := by
          unfold Lib.fieldsGo
          rw [if_neg (by simpa using h)]
        rw [e, List.map_cons, List.map_nil, toB_of, hlen]
        refine Ev.step (g := fun _ => some (out ++ [now])) (fun k => ?_) (Ev.const _)
        simp only [R.spec_tagsFields.l0]
        rw [if_neg (by omega), if_neg (by rw [Lib.toList_data]; exact h), if_pos (by omega)]
    | succ d ih =>
      intro i out now hd hi ho hn
      have hi' : i < s.size := by omega
      have hl : i < s.data.toList.length := by omega
      have ew := w64 i (by omega)
      have eb := bt_of s i hl
      rw [List.drop_eq_getElem_cons hl]
      obtain ⟨x, hx⟩ : ∃ x, x = s.data.toList[i] := ⟨_, rfl⟩
      rw [← hx] at eb ⊢
      by_cases hsp : Lib.isSp x = true
      · have hsn := (isSp_iff x).1 hsp
        have st : ∀ k, R.spec_tagsFields.l0 (k + 1) s out now (i : Int) = R.spec_tagsFields.j1 k s out now (i : Int) false := fun k => by
          simp only [R.spec_tagsFields.l0]
          rw [if_pos (by omega), if_pos (by omega), eb]
          by_cases h32 : (x.toNat : Int) = 32
          · rw [if_pos h32]
          · rw [if_neg h32, if_neg (by omega), decide_eq_false (by omega)]
        refine Ev.step (g := fun k => R.spec_tagsFields.j1 k s out now (i : Int) false) st ?_
        by_cases h : now.data.toList = []
        · have e : Lib.fieldsGo now.data.toList (x :: s.data.toList.drop (i + 1)) = Lib.fieldsGo now.data.toList (s.data.toList.drop (i + 1)) := by
            rw [h]; conv => lhs; unfold Lib.fieldsGo
            rw [if_pos hsp]; rfl
          rw [e]
          refine Ev.step (g := fun k => R.spec_tagsFields.l0 k s out now ((i + 1 : Nat) : Int)) (fun k => ?_) (ih (i + 1) out now (by omega) (by omega) (by omega) (by omega))
          simp only [R.spec_tagsFields.j1, Bool.false_eq_true, if_false, ew]
          rw [if_pos (by rw [Lib.toList_data]; exact h)]
        · have e : Lib.fieldsGo now.data.toList (x :: s.data.toList.drop (i + 1)) = now.data.toList :: Lib.fieldsGo (⟨#[]⟩ : ByteArray).data.toList (s.data.toList.drop (i + 1)) := by
            conv => lhs; unfold Lib.fieldsGo
            rw [if_pos hsp, if_neg (by simpa using h)]
          rw [e, List.map_cons, toB_of]
          have := ih (i + 1) (out ++ [now]) ⟨#[]⟩ (by omega) (by omega) (by simp; omega) (show 0 ≤ i + 1 by omega)
          rw [List.append_assoc] at this
          refine Ev.step (g := fun k => R.spec_tagsFields.l0 k s (out ++ [now]) ⟨#[]⟩ ((i + 1 : Nat) : Int)) (fun k => ?_) this
          simp only [R.spec_tagsFields.j1, Bool.false_eq_true, if_false, ew]
          rw [if_neg (by rw [Lib.toList_data]; exact h), if_pos (by omega)]
      · have hsn : ¬ (x.toNat = 32 ∨ (9 ≤ x.toNat ∧ x.toNat ≤ 13)) := fun h => hsp ((isSp_iff x).2 h)
        have st : ∀ k, R.spec_tagsFields.l0 (k + 1) s out now (i : Int) = R.spec_tagsFields.j1 k s out now (i : Int) true := fun k => by
          simp only [R.spec_tagsFields.l0]
          rw [if_pos (by omega), if_pos (by omega), eb, if_neg (by omega)]
          by_cases h9 : (x.toNat : Int) < 9
          · rw [if_pos h9]
          · rw [if_neg h9, decide_eq_true (by omega)]
        refine Ev.step (g := fun k => R.spec_tagsFields.j1 k s out now (i : Int) true) st ?_
        have e : Lib.fieldsGo now.data.toList (x :: s.data.toList.drop (i + 1)) = Lib.fieldsGo (now ++ toB [x]).data.toList (s.data.toList.drop (i + 1)) := by
          conv => lhs; unfold Lib.fieldsGo
          rw [if_neg hsp]
          simp [toB]
        rw [e]
        have e1 : (toB [x]).size = 1 := rfl
        refine Ev.step (g := fun k => R.spec_tagsFields.l0 k s out (now ++ toB [x]) ((i + 1 : Nat) : Int)) (fun k => ?_) (ih (i + 1) out (now ++ toB [x]) (by omega) (by omega) (by omega) (by rw [ByteArray.size_append, e1]; omega))
        simp only [R.spec_tagsFields.j1, if_true, ew]
        rw [show ((i : Int)).toNat = i from rfl, show (((i + 1 : Nat) : Int)).toNat = i + 1 from rfl, extract_one s i hl, ← hx]
        rw [if_pos (by omega), if_pos (by omega), if_pos (by omega), if_pos (by rw [e1]; omega)]
  have := key s.size 0 [] ⟨#[]⟩ (by omega) (by omega) (Nat.le_refl _) (Nat.le_refl _)
  rw [List.drop_zero, List.nil_append] at this
  exact this
/-! ### commas -/
def preH (cur : List UInt8) : List (List UInt8) → List (List UInt8)
  | [] => [cur]
  | h :: r => (cur ++ h) :: r
theorem preH_nil {l : List (List UInt8)} (h : l ≠ []) : preH [] l = l := by
  cases l with
  | nil => exact absurd rfl h
  | cons x r => rfl
theorem preH_cons (cur : List UInt8) (b : UInt8) {l : List (List UInt8)} (h : l ≠ []) : preH cur (consHead b l) = preH (cur ++ [b]) l := by
  cases l with
  | nil => exact absurd rfl h
  | cons x r => simp [preH, consHead]
theorem rCommas_ev (s : ByteArray) (hs : s.size < 4294967296) : Ev (fun k => R.spec_tagsCommas.f k s) (splitB s) := by
  have hlen : s.data.toList.length = s.size := (Lib.size_eq s).symm
  have key : ∀ (d i : Nat) (out : List ByteArray) (now : ByteArray), s.size - i = d → i ≤ s.size → out.length ≤ i → now.size ≤ i → Ev (fun k => R.spec_tagsCommas.l0 k s out now (i : Int)) (out ++ (preH now.data.toList (splitL (s.data.toList.drop i))).map toB) := by
    intro d
    induction d with
    | zero =>
      intro i out now hd hi ho hn
      obtain rfl : i = s.size := by omega
      rw [← hlen, List.drop_length]
      have e : preH now.data.toList (splitL []) = [now.data.toList] := by simp [splitL, preH]
      rw [e, List.map_cons, List.map_nil, toB_of, hlen]
      refine Ev.step (g := fun _ => some (out ++ [now])) (fun k => ?_) (Ev.const _)
      simp only [R.spec_tagsCommas.l0]
      rw [if_neg (by omega), if_pos (by omega)]
    | succ d ih =>
      intro i out now hd hi ho hn
      have hi' : i < s.size := by omega
      have hl : i < s.data.toList.length := by omega
      have ew := w64 i (by omega)
      have eb := bt_of s i hl
      rw [List.drop_eq_getElem_cons hl]
      obtain ⟨x, hx⟩ : ∃ x, x = s.data.toList[i] := ⟨_, rfl⟩
      rw [← hx] at eb ⊢
      by_cases hc : x = 44
      · have e : preH now.data.toList (splitL (x :: s.data.toList.drop (i + 1))) = now.data.toList :: preH (⟨#[]⟩ : ByteArray).data.toList (splitL (s.data.toList.drop (i + 1))) := by
          rw [splitL, if_pos hc]
          have h := preH_nil (splitL_ne (s.data.toList.drop (i + 1)))
          show (now.data.toList ++ []) :: splitL (s.data.toList.drop (i + 1)) = now.data.toList :: preH [] (splitL (s.data.toList.drop (i + 1)))
          rw [List.append_nil, h]
        rw [e, List.map_cons, toB_of]
        have := ih (i + 1) (out ++ [now]) ⟨#[]⟩ (by omega) (by omega) (by simp; omega) (show 0 ≤ i + 1 by omega)
        rw [List.append_assoc] at this
        refine Ev.step (g := fun k => R.spec_tagsCommas.l0 k s (out ++ [now]) ⟨#[]⟩ ((i + 1 : Nat) : Int)) (fun k => ?_) this
        simp only [R.spec_tagsCommas.l0, ew]
        rw [if_pos (by omega), if_pos (by omega), eb, if_pos (by rw [hc]; rfl), if_pos (by omega)]
      · have e : preH now.data.toList (splitL (x :: s.data.toList.drop (i + 1))) = preH (now ++ toB [x]).data.toList (splitL (s.data.toList.drop (i + 1))) := by
          rw [splitL, if_neg hc, preH_cons _ _ (splitL_ne _)]
          simp [toB]
        rw [e]
        have e1 : (toB [x]).size = 1 := rfl
        refine Ev.step (g := fun k => R.spec_tagsCommas.l0 k s out (now ++ toB [x]) ((i + 1 : Nat) : Int)) (fun k => ?_) (ih (i + 1) out (now ++ toB [x]) (by omega) (by omega) (by omega) (by rw [ByteArray.size_append, e1]; omega))
        have hc' : ¬ ((x.toNat : Int) = 44) := fun h => hc (UInt8.toNat_inj.1 (by have : (44 : UInt8).toNat = 44 := rfl; omega))
        simp only [R.spec_tagsCommas.l0, ew]
        rw [if_pos (by omega), if_pos (by omega), eb, if_neg hc']
        rw [show ((i : Int)).toNat = i from rfl, show (((i + 1 : Nat) : Int)).toNat = i + 1 from rfl, extract_one s i hl, ← hx]
        rw [if_pos (by omega), if_pos (by omega), if_pos (by rw [e1]; omega)]
  have := key s.size 0 [] ⟨#[]⟩ (by omega) (by omega) (Nat.le_refl _) (Nat.le_refl _)
  rw [List.drop_zero, List.nil_append, preH_nil (splitL_ne _)] at this
  exact this
/-! ### validity, as in the other print -/
theorem rParts_eq (s : ByteArray) : R.spec_TermParts.f s = spec_TermParts.f s := rfl
theorem rTermValid_l0 : ∀ (k : Nat) (s : ByteArray) (i : Int), R.spec_TermValid.l0 k s i = spec_TermValid.l0 k s i
  | 0, _, _ => rfl
  | k + 1, s, i => by simp only [R.spec_TermValid.l0, spec_TermValid.l0, rTermValid_l0 k]
theorem rTermValid (k : Nat) (s : ByteArray) : R.spec_TermValid.f k s = spec_TermValid.f k s := by
  unfold R.spec_TermValid.f spec_TermValid.f
  rw [rParts_eq]
  simp only [rTermValid_l0]
theorem rOptValid_ev (o : List ByteArray) (hl : o.length < 9223372036854775807) (ho : okO o = true) : Ev (fun k => R.spec_OptionValid.f k o) (validO o) := by
  unfold R.spec_OptionValid.f validO
  refine ev_all o hl _ (fun k i => R.spec_OptionValid.l0 k o (o.length : Int) i) (fun k => ?_) (fun i x h => ⟨fun k => spec_TermValid.f k x, ?_, fun k => ?_⟩)
  · simp only [R.spec_OptionValid.l0]; rw [if_neg (by omega)]
  · have h1 := List.all_eq_true.1 ho x (List.mem_of_getElem? h)
    rw [Bool.and_eq_true, decide_eq_true_eq] at h1
    exact valid_ev x (by omega) h1.1
  · have := (List.getElem?_eq_some_iff.1 h).1
    have e : rdOf ByteArray.empty o (i : Int) = x := by unfold rdOf; simp [List.getD, h]
    simp only [R.spec_OptionValid.l0]
    rw [if_pos (by omega), if_pos (by omega), if_pos (by omega), e, rTermValid]
theorem rParseOption_ev (f : ByteArray) (hs : f.size < 4294967200) (ha : asciiB f = true) : Ev (fun k => R.spec_ParseOption.f k f) (splitB f, validO (splitB f)) := by
  unfold R.spec_ParseOption.f
  refine Ev.bind (g := fun k t => (R.spec_OptionValid.f k t).bind fun u => some (t, u)) (rCommas_ev f (by omega)) ?_
  refine Ev.bind (g := fun _ u => some (splitB f, u)) (rOptValid_ev (splitB f) (by have := splitB_len f; omega) (asciiB_pieces f ha (by omega))) (Ev.const _)
theorem rParse_ev (s : ByteArray) (hs : s.size < 4294967200) (ha : asciiB s = true) : Ev (fun k => R.spec_ParseConstraint.f k s) (parseC (fsB s)) := by
  unfold R.spec_ParseConstraint.f
  refine Ev.bind (g := fun k l => R.spec_ParseConstraint.l0 k [] l (l.length : Int) 0) (rFields_ev s (by omega)) ?_
  have hl : (fsB s).length < 4294967200 := Nat.lt_of_le_of_lt (fsB_len s) hs
  have hm : ∀ f ∈ fsB s, asciiB f = true ∧ f.size < 4294967200 := fun f hf => ⟨(fsB_mem s ha hf).1, Nat.lt_of_le_of_lt (fsB_mem s ha hf).2 hs⟩
  generalize fsB s = l at hl hm
  have key : ∀ (d i : Nat) (acc : List (List ByteArray)), l.length - i = d → i ≤ l.length → acc.length ≤ i → Ev (fun k => R.spec_ParseConstraint.l0 k acc l (l.length : Int) (i : Int)) (acc ++ (parseC (l.drop i)).1, (parseC (l.drop i)).2) := by
    intro d
    induction d with
    | zero =>
      intro i acc hd hi hc
      obtain rfl : i = l.length := by omega
      rw [List.drop_length]
      refine Ev.step (g := fun _ => some (acc, true)) (fun k => ?_) ?_
      · simp only [R.spec_ParseConstraint.l0]; rw [if_neg (by omega)]
      · simp only [parseC, List.append_nil]; exact Ev.const _
    | succ d ih =>
      intro i acc hd hi hc
      have hi' : i < l.length := by omega
      have e : rdOf ByteArray.empty l (i : Int) = l[i] := by unfold rdOf; simp [List.getD, List.getElem?_eq_getElem hi']
      obtain ⟨h1, h2⟩ := hm l[i] (List.getElem_mem hi')
      rw [List.drop_eq_getElem_cons hi', parseC]
      refine Ev.step (g := fun k => (R.spec_ParseOption.f k l[i]).bind fun bt => if bt.2 = true then (if acc.length < 5864062014805 then R.spec_ParseConstraint.l0 k (acc ++ [bt.1]) l (l.length : Int) ((i + 1 : Nat) : Int) else none) else some (acc, false)) (fun k => ?_) ?_
      · simp only [R.spec_ParseConstraint.l0]
        rw [if_pos (by omega), if_pos (by omega), if_pos (by omega), e, w64 i (by omega)]
      · refine Ev.bind (rParseOption_ev l[i] h2 h1) ?_
        cases hv : validO (splitB l[i]) with
        | false =>
          simp only [Bool.false_eq_true, if_false, List.append_nil]
          exact Ev.const _
        | true =>
          have := ih (i + 1) (acc ++ [splitB l[i]]) (by omega) (by omega) (by simp; omega)
          rw [List.append_assoc] at this
          have hlt : acc.length < 5864062014805 := by omega
          simp only [if_true, if_pos hlt]
          exact this
  have := key l.length 0 [] (by omega) (by omega) (Nat.le_refl _)
  rw [List.drop_zero, List.nil_append] at this
  exact this
/-! ### lists equal to themselves -/
theorem rTexts_ev (l : List ByteArray) (hl : l.length < 9223372036854775807) : Ev (fun k => R.laws_texts.f k l l) true := by
  unfold R.laws_texts.f
  simp only [if_true]
  have := ev_all l hl (fun _ => true) (fun k i => R.laws_texts.l0 k l l (l.length : Int) i) (fun k => ?_) (fun i x h => ⟨fun _ => some true, Ev.const _, fun k => ?_⟩)
  · rwa [show l.all (fun _ => true) = true by simp] at this
  · simp only [R.laws_texts.l0]; rw [if_neg (by omega)]
  · have := (List.getElem?_eq_some_iff.1 h).1
    simp only [R.laws_texts.l0, Option.bind_some, if_true]
    rw [if_pos (by omega), if_pos (by omega), if_pos (by omega), if_pos (by omega)]
theorem rOptions_ev (l : List (List ByteArray)) (hl : l.length < 9223372036854775807) (hin : ∀ o ∈ l, o.length < 9223372036854775807) : Ev (fun k => R.laws_options.f k l l) true := by
  unfold R.laws_options.f
  simp only [if_true]
  have := ev_all l hl (fun _ => true) (fun k i => R.laws_options.l0 k l l (l.length : Int) i) (fun k => ?_) (fun i x h => ⟨fun k => R.laws_texts.f k x x, rTexts_ev x (hin x (List.mem_of_getElem? h)), fun k => ?_⟩)
  · rwa [show l.all (fun _ => true) = true by simp] at this
  · simp only [R.laws_options.l0]; rw [if_neg (by omega)]
  · have := (List.getElem?_eq_some_iff.1 h).1
    have e : R.rd_L1 l (i : Int) = x := by unfold R.rd_L1; simp [List.getD, h]
    simp only [R.laws_options.l0]
    rw [if_pos (by omega), if_pos (by omega), if_pos (by omega), if_pos (by omega), e]
end Go.Proofs.YtlmmjchdfngdgaaDoor.Pure
