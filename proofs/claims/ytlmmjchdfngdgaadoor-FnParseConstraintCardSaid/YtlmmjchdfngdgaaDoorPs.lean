/- Plain laws of splitting at commas. -/
import Derived.Test.YtlmmjchdfngdgaaDoorRz
import Derived.Test.YtlmmjchdfngdgaaDoorPt
namespace Go.Proofs.YtlmmjchdfngdgaaDoor.Pure
open Go.RowKit Go.Proofs.YtlmmjchdfngdgaaDoorW.PrintWords Go.Proofs.YtlmmjchdfngdgaaDoorW.PrintLast
set_option linter.unusedVariables false
set_option linter.unusedSimpArgs false
def consHead (b : UInt8) : List (List UInt8) → List (List UInt8)
  | [] => [[b]]
  | h :: r => (b :: h) :: r
def splitL : List UInt8 → List (List UInt8)
  | [] => [[]]
  | b :: t => if b = 44 then [] :: splitL t else consHead b (splitL t)
def toB (l : List UInt8) : ByteArray := ⟨l.toArray⟩
theorem toB_data (l : List UInt8) : (toB l).data.toList = l := rfl
theorem toB_of (s : ByteArray) : toB s.data.toList = s := ba_ext rfl
def splitB (s : ByteArray) : List ByteArray := (splitL s.data.toList).map toB
def preC (l : List UInt8) : List UInt8 := l.takeWhile (fun b => decide (b ≠ 44))
theorem preC_ne {b : UInt8} (t : List UInt8) (h : ¬ b = 44) : preC (b :: t) = b :: preC t := by simp [preC, h]
theorem splitL_ne : ∀ l, splitL l ≠ []
  | [] => by simp [splitL]
  | b :: t => by
    unfold splitL
    split
    · simp
    · cases h : splitL t with
      | nil => exact absurd h (splitL_ne t)
      | cons x r => simp [consHead]
theorem splitL_step : ∀ l : List UInt8, splitL l = if (preC l).length < l.length then preC l :: splitL (l.drop ((preC l).length + 1)) else [l]
  | [] => by simp [splitL, preC]
  | b :: t => by
    by_cases h : b = 44
    · subst h
      simp [splitL, preC]
    · have ih := splitL_step t
      have e : preC (b :: t) = b :: preC t := by simp [preC, h]
      rw [e, splitL, if_neg h, ih]
      simp only [List.length_cons]
      by_cases h2 : (preC t).length < t.length
      · rw [if_pos h2, if_pos (by omega)]
        simp [consHead]
      · rw [if_neg h2, if_neg (by omega)]
        simp [consHead]
theorem preC_take (l : List UInt8) : preC l = l.take (preC l).length := by
  induction l with
  | nil => rfl
  | cons b t ih =>
    by_cases h : b = 44
    · subst h; simp [preC]
    · have e : preC (b :: t) = b :: preC t := by simp [preC, h]
      rw [e, List.length_cons, List.take_succ_cons, ← ih]
theorem preC_len (l : List UInt8) : (preC l).length ≤ l.length := by
  rw [preC_take]; simp; omega
/-- The first comma's place, or -1. -/
def idxC (s : ByteArray) : Int := if (preC s.data.toList).length < s.size then ((preC s.data.toList).length : Int) else -1
theorem split_here (s : ByteArray) (h : ¬ (preC s.data.toList).length < s.size) : splitB s = [s] := by
  unfold splitB
  rw [splitL_step, if_neg (by rw [← Lib.size_eq]; exact h)]
  simp [toB_of]
theorem split_more (s : ByteArray) (h : (preC s.data.toList).length < s.size) : splitB s = s.extract 0 (preC s.data.toList).length :: splitB (s.extract ((preC s.data.toList).length + 1) s.size) := by
  have hs : s.data.toList.length = s.size := (Lib.size_eq s).symm
  unfold splitB
  rw [splitL_step s.data.toList, if_pos (by omega), List.map_cons]
  congr 1
  · apply ba_ext
    rw [toB_data]
    simp only [ByteArray.data_extract, Array.toList_extract, List.extract]
    simpa using preC_take s.data.toList
  · congr 2
    simp only [ByteArray.data_extract, Array.toList_extract, List.extract]
    rw [List.take_of_length_le (by simp)]
theorem one_byte (s : ByteArray) (i : Nat) (hi : i < s.size) (hl : i < s.data.toList.length) : (s.extract i (i + 1)).toList = [s.data.toList[i]] := by
  rw [Lib.toList_data]
  simp only [ByteArray.data_extract, Array.toList_extract, List.extract]
  rw [show i + 1 - i = 1 by omega, List.drop_eq_getElem_cons hl]
  rfl
theorem index_ev (s : ByteArray) (hs : s.size < 9223372036854775806) : Ev (fun k => R.buildtags_zzIndex.f k s (⟨#[44]⟩ : ByteArray)) (idxC s) := by
  have hlen : s.data.toList.length = s.size := (Lib.size_eq s).symm
  have key : ∀ (d i : Nat), s.size - i = d → i ≤ s.size → Ev (fun k => R.buildtags_zzIndex.l0 k s (⟨#[44]⟩ : ByteArray) (i : Int)) (if i + (preC (s.data.toList.drop i)).length < s.size then ((i + (preC (s.data.toList.drop i)).length : Nat) : Int) else -1) := by
    intro d
    have e1 : ((⟨#[44]⟩ : ByteArray).size : Int) = 1 := rfl
    induction d with
    | zero =>
      intro i hd hi
      obtain rfl : i = s.size := by omega
      rw [if_neg (by omega)]
      refine Ev.step (g := fun _ => some (-1)) (fun k => ?_) (Ev.const _)
      simp only [R.buildtags_zzIndex.l0, e1]
      rw [if_neg (by rw [w64 _ (by omega)]; omega)]
    | succ d ih =>
      intro i hd hi
      have hi' : i < s.size := by omega
      have hl : i < s.data.toList.length := by omega
      have ew := w64 i (by omega)
      have e44 : (⟨#[44]⟩ : ByteArray).toList = [44] := by rw [Lib.toList_data]
      rw [List.drop_eq_getElem_cons hl]
      by_cases hx : s.data.toList[i] = 44
      · have e : preC (s.data.toList[i] :: s.data.toList.drop (i + 1)) = [] := by rw [hx]; simp [preC]
        rw [e, List.length_nil, Nat.add_zero, if_pos hi']
        refine Ev.step (g := fun _ => some (i : Int)) (fun k => ?_) (Ev.const _)
        simp only [R.buildtags_zzIndex.l0, e1, ew]
        rw [if_pos (by omega), if_pos (by omega), if_pos (by omega), if_pos (by rw [e44, show ((i : Int)).toNat = i from rfl, show (((i + 1 : Nat) : Int)).toNat = i + 1 from rfl, one_byte s i hi' hl, hx])]
      · have e : preC (s.data.toList[i] :: s.data.toList.drop (i + 1)) = s.data.toList[i] :: preC (s.data.toList.drop (i + 1)) := preC_ne _ hx
        rw [e, List.length_cons, show i + ((preC (s.data.toList.drop (i + 1))).length + 1) = (i + 1) + (preC (s.data.toList.drop (i + 1))).length by omega]
        refine Ev.step (g := fun k => R.buildtags_zzIndex.l0 k s (⟨#[44]⟩ : ByteArray) ((i + 1 : Nat) : Int)) (fun k => ?_) (ih (i + 1) (by omega) (by omega))
        simp only [R.buildtags_zzIndex.l0, e1, ew]
        rw [if_pos (by omega), if_pos (by omega), if_pos (by omega), if_neg (by rw [e44, show ((i : Int)).toNat = i from rfl, show (((i + 1 : Nat) : Int)).toNat = i + 1 from rfl, one_byte s i hi' hl]; simpa using hx)]
  have := key s.size 0 (by omega) (by omega)
  rw [List.drop_zero, Nat.zero_add] at this
  exact this
theorem index_calls (s : ByteArray) (w : World) (hs : s.size < 9223372036854775806) : Calls Tryd.prog 80 #[.string s, .string (⟨#[44]⟩ : ByteArray)] w fun e w' => e = .returned (.int .i64 (idxC s)) ∧ Below w.heap.size w w' := by
  obtain ⟨k, hk⟩ := (index_ev s hs)
  exact (R.buildtags_zzIndex.calls k s _ _ w (hk k (Nat.le_refl k))).mono fun e w' ⟨h1, h2⟩ => ⟨h1, h2.below⟩
end Go.Proofs.YtlmmjchdfngdgaaDoor.Pure
