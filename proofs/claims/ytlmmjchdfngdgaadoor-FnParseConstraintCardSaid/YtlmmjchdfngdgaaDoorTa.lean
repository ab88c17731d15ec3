/- Contracts of build-tag terms: validity, name, value under tags; for texts of ASCII. -/
import Derived.Test.YtlmmjchdfngdgaaDoorQ0
import Derived.Test.YtlmmjchdfngdgaaDoorShelf
import Derived.WalkLawsBesides
import Derived.Laws.RangeString
import Derived.Laws.RangeAny
import Derived.Lib.AppendIntMem
import Derived.Maps.Own
import Derived.Maps.OwnSet
import Derived.Maps.RangeWalk
namespace Go.Proofs.YtlmmjchdfngdgaaDoor.Q
open Go.RowKit Go.Maps Go.Proofs.YtlmmjchdfngdgaaDoorW.PrintWords Go.Proofs.YtlmmjchdfngdgaaDoorW.PrintLast Go.Proofs.YtlmmjchdfngdgaaDoorW.PrintMore
set_option linter.unusedVariables false
set_option linter.unusedSimpArgs false

abbrev Tabs (w : World) : Prop := Lib.TabIs Tryd.prog w "unicode.properties" .u8 Lib.propertiesTab
def asciiB (s : ByteArray) : Bool := s.data.toList.all fun b => decide (b.toNat < 128)
theorem ascii_at {s : ByteArray} (h : asciiB s = true) (i : Nat) (hi : i < s.size) : (s[i]'hi).toNat < 128 := by
  have := List.all_eq_true.1 h s[i] (by
    have : s[i] = s.data[i] := rfl
    rw [this]
    exact Array.getElem_mem_toList _)
  exact of_decide_eq_true this
/-- The name of a term. -/
def nameT (s : ByteArray) : ByteArray := ⟨(Lib.trimPrefix s.data.toList [33]).toArray⟩
def negT (s : ByteArray) : Bool := Lib.hasPrefix s.data.toList [33]
theorem name_calls (s : ByteArray) (w : World) : Calls Tryd.prog 54 #[.string s] w fun e w' => e = .returned (.string (nameT s)) ∧ w' = w := by
  go_enter Tryd.func54, Tryd.ntmps54
  go_wp2_with (first
    | (go_at_call 68; (with_reducible refine (Tryd.strings_TrimPrefix _ _ _).mono ?_); rintro e w1 ⟨rfl, rfl⟩)
    | go_in)
  go_ret
  exact ⟨rfl, rfl⟩
theorem neg_calls (s : ByteArray) (w : World) : Calls Tryd.prog 55 #[.string s] w fun e w' => e = .returned (.bool (negT s)) ∧ w' = w := by
  go_enter Tryd.func55, Tryd.ntmps55
  go_wp2_with (first
    | (go_at_call 65; (with_reducible refine (Tryd.strings_HasPrefix _ _ _).mono ?_); rintro e w1 ⟨rfl, rfl⟩)
    | go_in)
  go_ret
  exact ⟨rfl, rfl⟩
theorem err_calls (s : ByteArray) (w : World) : Calls Tryd.prog 56 #[.string s] w fun e w' => (∃ x, e = .returned (.iface 74 x)) ∧ Below w.heap.size w w' := by
  go_enter Tryd.func56, Tryd.ntmps56
  go_wp2
  go_ret
  exact ⟨⟨_, rfl⟩, (Below.refl _ _).alloc (Nat.le_refl _) _⟩

theorem Tabs.below {w w' : World} (h : Tabs w) (hb : Below w.heap.size w w') : Tabs w' := Lib.tabBelow_of_tabIs h w' hb
def okc (c : Nat) : Bool := Lib.isLetterL (c : Int) || Lib.isDigitL (c : Int) || decide (c = 95) || decide (c = 46)
def allOk (s : ByteArray) : Bool := s.data.toList.all fun b => okc b.toNat
def validB (s : ByteArray) : Bool := !(Lib.hasPrefix s.data.toList [33, 33]) && decide ((nameT s).size ≠ 0) && allOk (nameT s)
theorem ascii_name {s : ByteArray} (h : asciiB s = true) : asciiB (nameT s) = true := by
  refine List.all_eq_true.2 fun b hb => ?_
  refine List.all_eq_true.1 h b ?_
  have hb' : b ∈ Lib.trimPrefix s.data.toList [33] := by simpa [nameT] using hb
  unfold Lib.trimPrefix at hb'
  split at hb'
  · exact List.mem_of_mem_drop hb'
  · exact hb'
theorem allOk_at {s : ByteArray} (h : allOk s = true) (i : Nat) (hi : i < s.size) : okc (s[i]'hi).toNat = true := by
  refine List.all_eq_true.1 h s[i] ?_
  have : s[i] = s.data[i] := rfl
  rw [this]
  exact Array.getElem_mem_toList _
theorem allOk_of {s : ByteArray} (h : ∀ i (hi : i < s.size), okc (s[i]'hi).toNat = true) : allOk s = true := by
  refine List.all_eq_true.2 fun b hb => ?_
  obtain ⟨i, hi, e⟩ := List.getElem_of_mem hb
  have := h i (by simpa using hi)
  rw [← e]
  exact this

set_option maxHeartbeats 4000000 in
set_option maxRecDepth 100000 in
theorem validate_calls (s : ByteArray) (w : World) (ht : Tabs w) (ha : asciiB s = true) :
    Calls Tryd.prog 53 #[.string s] w fun e w' => (validB s = true → e = .returned .nilIface) ∧ (validB s = false → ∃ x, e = .returned (.iface 74 x)) ∧ Below w.heap.size w w' := by
  have HT := Aside0.mk ht
  clear ht
  cases hpp : Lib.hasPrefix s.data.toList [33, 33] with
  | true =>
    have hv : validB s = false := by unfold validB; rw [hpp]; rfl
    go_enter Tryd.func53, Tryd.ntmps53
    go_wp2_with (first
      | (go_at_call 65; (with_reducible refine (Tryd.strings_HasPrefix _ _ _).mono ?_); rintro e w1 ⟨rfl, hw⟩; obtain rfl := hw.symm; clear hw; (try rw [show Lib.hasPrefix _ _ = true from hpp]))
      | (go_at_call 56; (with_reducible refine (err_calls _ _).mono ?_); rintro e w2 ⟨⟨x, rfl⟩, hb2⟩)
      | go_in)
    go_ret
    exact ⟨(fun h => by rw [hv] at h; cases h), fun _ => ⟨_, rfl⟩, hb2⟩
  | false =>
    obtain ⟨n, hn⟩ : ∃ n, n = nameT s := ⟨_, rfl⟩
    have han : asciiB n = true := by rw [hn]; exact ascii_name ha
    have HN := Aside0.mk hn
    clear hn
    by_cases h0 : n.size = 0
    · have hv : validB s = false := by unfold validB; rw [hpp, ← HN.out, decide_eq_false (by simpa using h0)]; rfl
      have h0' : ((n.size : Int) == 0) = true := by simp [h0]
      go_enter Tryd.func53, Tryd.ntmps53
      go_wp2_with (first
        | (go_at_call 65; (with_reducible refine (Tryd.strings_HasPrefix _ _ _).mono ?_); rintro e w1 ⟨rfl, hw⟩; obtain rfl := hw.symm; clear hw; rw [show Lib.hasPrefix _ _ = false from hpp])
        | (go_at_call 54; (with_reducible refine (name_calls _ _).mono ?_); rintro e w1 ⟨rfl, hw⟩; obtain rfl := hw.symm; clear hw; rw [← HN.out])
        | (go_at_call 56; (with_reducible refine (err_calls _ _).mono ?_); rintro e w2 ⟨⟨x, rfl⟩, hb2⟩)
        | go_in)
      go_ret
      exact ⟨(fun h => by rw [hv] at h; cases h), fun _ => ⟨_, rfl⟩, hb2⟩
    · have h0' : ((n.size : Int) == 0) = false := by simp [h0]
      have hvv : validB s = allOk n := by unfold validB; rw [hpp, ← HN.out, decide_eq_true h0]; simp
      rw [hvv]
      go_enter Tryd.func53, Tryd.ntmps53
      go_wp2_with (first
        | (go_at_call 65; (with_reducible refine (Tryd.strings_HasPrefix _ _ _).mono ?_); rintro e w1 ⟨rfl, hw⟩; obtain rfl := hw.symm; clear hw; rw [show Lib.hasPrefix _ _ = false from hpp])
        | (go_at_call 54; (with_reducible refine (name_calls _ _).mono ?_); rintro e w1 ⟨rfl, hw⟩; obtain rfl := hw.symm; clear hw; rw [← HN.out])
        | go_in)
      go_loopw [4] (fun _ wr => ∃ pos : Nat, wr = w.iter n pos ∧ pos ≤ n.size ∧ Aside0 (∀ i (hi : i < n.size), i < pos → okc (n[i]'hi).toNat = true)) (fun _ wr => n.size - wr.iterPos w.heap.size)
      case atStart => exact ⟨0, rfl, Nat.zero_le _, ⟨fun i hi h => by omega⟩⟩
      case round =>
        obtain ⟨pos, rfl, hpos, HOK⟩ := hrel
        by_cases hp : pos < n.size
        · have hnx : ∀ ty, (Instr.next (.pointer (some ⟨w.heap.size, 0, none⟩)) true ty).run Tryd.prog (w.iter n pos) = _ := fun ty => run_next_ascii w n pos ty hp (ascii_at han pos hp)
          have hc128 := ascii_at han pos hp
          have hbi : ∀ q, Below w.heap.size w (w.iter n q) := fun q => (Below.refl _ _).alloc (Nat.le_refl _) _
          have HT1 : Aside0 (∀ q, Tabs (w.iter n q)) := ⟨fun q => HT.out.below (hbi q)⟩
          obtain ⟨c, hc⟩ : ∃ c, c = (n[pos]'hp).toNat := ⟨_, rfl⟩
          rw [← hc] at hnx hc128
          have HCc := Aside0.mk hc
          clear hc
          cases hok : okc c with
          | true =>
            have hstep : ∀ i (hi : i < n.size), i < pos + 1 → okc (n[i]'hi).toNat = true := fun i hi h => by
              by_cases e : i = pos
              · subst e; rw [← HCc.out]; exact hok
              · exact HOK.out i hi (by omega)
            cases p1 : Lib.isLetterL (c : Int) with
            | true =>
              go_wp2_with (first
                | (go_at_call 66; (with_reducible refine (Tryd.unicode_IsLetter c _ (by omega) (HT1.out _)).mono ?_); rintro e w1 ⟨rfl, hw⟩; obtain rfl := hw.symm; clear hw; rw [p1])
                | (go_at_call 67; (with_reducible refine (Tryd.unicode_IsDigit (c : Int) _ (by omega)).mono ?_); rintro e w1 ⟨rfl, hw⟩; obtain rfl := hw.symm; clear hw; rw [p2])
                | go_in)
              go_roundw
              case rel => exact ⟨pos + 1, rfl, by omega, ⟨hstep⟩⟩
              case measure => simp [World.iterPos_iter]; omega
            | false =>
              cases p2 : Lib.isDigitL (c : Int) with
              | true =>
                go_wp2_with (first
                  | (go_at_call 66; (with_reducible refine (Tryd.unicode_IsLetter c _ (by omega) (HT1.out _)).mono ?_); rintro e w1 ⟨rfl, hw⟩; obtain rfl := hw.symm; clear hw; rw [p1])
                  | (go_at_call 67; (with_reducible refine (Tryd.unicode_IsDigit (c : Int) _ (by omega)).mono ?_); rintro e w1 ⟨rfl, hw⟩; obtain rfl := hw.symm; clear hw; rw [p2])
                  | go_in)
                go_roundw
                case rel => exact ⟨pos + 1, rfl, by omega, ⟨hstep⟩⟩
                case measure => simp [World.iterPos_iter]; omega
              | false =>
                by_cases c95 : c = 95
                · have b3 : ((c : Int) != 95) = false := by simp [c95]
                  clear c95
                  go_wp2_with (first
                    | (go_at_call 66; (with_reducible refine (Tryd.unicode_IsLetter c _ (by omega) (HT1.out _)).mono ?_); rintro e w1 ⟨rfl, hw⟩; obtain rfl := hw.symm; clear hw; rw [p1])
                    | (go_at_call 67; (with_reducible refine (Tryd.unicode_IsDigit (c : Int) _ (by omega)).mono ?_); rintro e w1 ⟨rfl, hw⟩; obtain rfl := hw.symm; clear hw; rw [p2])
                    | go_in)
                  go_roundw
                  case rel => exact ⟨pos + 1, rfl, by omega, ⟨hstep⟩⟩
                  case measure => simp [World.iterPos_iter]; omega
                · have c46 : c = 46 := by
                    unfold okc at hok
                    rw [p1, p2] at hok
                    simpa [c95] using hok
                  have b3 : ((c : Int) != 95) = true := by simp [c46]
                  have b4 : ((c : Int) != 46) = false := by simp [c46]
                  clear c46 c95
                  go_wp2_with (first
                    | (go_at_call 66; (with_reducible refine (Tryd.unicode_IsLetter c _ (by omega) (HT1.out _)).mono ?_); rintro e w1 ⟨rfl, hw⟩; obtain rfl := hw.symm; clear hw; rw [p1])
                    | (go_at_call 67; (with_reducible refine (Tryd.unicode_IsDigit (c : Int) _ (by omega)).mono ?_); rintro e w1 ⟨rfl, hw⟩; obtain rfl := hw.symm; clear hw; rw [p2])
                    | go_in)
                  go_roundw
                  case rel => exact ⟨pos + 1, rfl, by omega, ⟨hstep⟩⟩
                  case measure => simp [World.iterPos_iter]; omega
          | false =>
            have hparts : Lib.isLetterL (c : Int) = false ∧ Lib.isDigitL (c : Int) = false ∧ c ≠ 95 ∧ c ≠ 46 := by
              unfold okc at hok
              simp only [Bool.or_eq_false_iff, decide_eq_false_iff_not] at hok
              exact ⟨hok.1.1.1, hok.1.1.2, hok.1.2, hok.2⟩
            obtain ⟨p1, p2, p3, p4⟩ := hparts
            have b3 : ((c : Int) != 95) = true := by simp; omega
            have b4 : ((c : Int) != 46) = true := by simp; omega
            go_wp2_with (first
              | (go_at_call 66; (with_reducible refine (Tryd.unicode_IsLetter c _ (by omega) (HT1.out _)).mono ?_); rintro e w1 ⟨rfl, hw⟩; obtain rfl := hw.symm; clear hw; rw [p1])
              | (go_at_call 67; (with_reducible refine (Tryd.unicode_IsDigit (c : Int) _ (by omega)).mono ?_); rintro e w1 ⟨rfl, hw⟩; obtain rfl := hw.symm; clear hw; rw [p2])
              | (go_at_call 56; (with_reducible refine (err_calls _ _).mono ?_); rintro e w2 ⟨⟨x, rfl⟩, hb2⟩)
              | go_in)
            go_ret
            have hall : allOk n = false := by
              cases h : allOk n with
              | false => rfl
              | true => have := allOk_at h pos hp; rw [← HCc.out, hok] at this; cases this
            exact ⟨(fun h => by rw [hall] at h; cases h), fun _ => ⟨_, rfl⟩, below_step (hbi _) hb2⟩
        · have hnx : ∀ ty, (Instr.next (.pointer (some ⟨w.heap.size, 0, none⟩)) true ty).run Tryd.prog (w.iter n pos) = _ := fun ty => run_next_end w n pos ty hp
          go_wp2
          go_ret
          have hall : allOk n = true := allOk_of fun i hi => HOK.out i hi (by omega)
          exact ⟨fun _ => rfl, (fun h => by rw [hall] at h; cases h), (Below.refl _ _).alloc (Nat.le_refl _) _⟩
end Go.Proofs.YtlmmjchdfngdgaaDoor.Q
