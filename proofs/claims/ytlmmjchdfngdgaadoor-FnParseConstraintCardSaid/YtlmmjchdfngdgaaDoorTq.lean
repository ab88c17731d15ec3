/- Contracts of parsing: a constraint. -/
import Derived.Test.YtlmmjchdfngdgaaDoorTp
namespace Go.Proofs.YtlmmjchdfngdgaaDoor.Q
open Go.RowKit Go.Maps Go.Proofs.YtlmmjchdfngdgaaDoorW.PrintWords Go.Proofs.YtlmmjchdfngdgaaDoorW.PrintLast Go.Proofs.YtlmmjchdfngdgaaDoorW.PrintMore Go.Proofs.YtlmmjchdfngdgaaDoor.Pure
set_option linter.unusedVariables false
set_option linter.unusedSimpArgs false
abbrev SpaceT (w : World) : Prop := Lib.TabIs Tryd.prog w "strings.asciiSpace" .u8 Lib.asciiSpaceTab
def fsB (s : ByteArray) : List ByteArray := (Lib.fields s.data.toList).map toB
theorem fieldsGo_mem : ∀ (l cur : List UInt8), ∀ x ∈ Lib.fieldsGo cur l, (∀ b ∈ x, b ∈ cur ∨ b ∈ l) ∧ x.length ≤ cur.length + l.length
  | [], cur, x, hx => by
    unfold Lib.fieldsGo at hx
    split at hx
    · cases hx
    · obtain rfl : x = cur := by simpa using hx
      exact ⟨fun b hb => .inl hb, by simp⟩
  | b :: l, cur, x, hx => by
    unfold Lib.fieldsGo at hx
    split at hx
    · split at hx
      · obtain ⟨h1, h2⟩ := fieldsGo_mem l [] x hx
        refine ⟨fun c hc => ?_, by simp at h2 ⊢; omega⟩
        rcases h1 c hc with h | h
        · cases h
        · exact .inr (.tail _ h)
      · rcases List.mem_cons.1 hx with rfl | hx
        · exact ⟨fun c hc => .inl hc, by omega⟩
        · obtain ⟨h1, h2⟩ := fieldsGo_mem l [] x hx
          refine ⟨fun c hc => ?_, by simp at h2 ⊢; omega⟩
          rcases h1 c hc with h | h
          · cases h
          · exact .inr (.tail _ h)
    · obtain ⟨h1, h2⟩ := fieldsGo_mem l (cur ++ [b]) x hx
      refine ⟨fun c hc => ?_, by simp at h2 ⊢; omega⟩
      rcases h1 c hc with h | h
      · rcases List.mem_append.1 h with h | h
        · exact .inl h
        · obtain rfl : c = b := by simpa using h
          exact .inr (.head _)
      · exact .inr (.tail _ h)
theorem fieldsGo_len : ∀ (l cur : List UInt8), (Lib.fieldsGo cur l).length ≤ cur.length + l.length
  | [], cur => by
    unfold Lib.fieldsGo
    split
    · simp
    · rename_i h
      cases cur with
      | nil => simp at h
      | cons c t => simp
  | b :: l, cur => by
    unfold Lib.fieldsGo
    split
    · split
      · have := fieldsGo_len l []; simp at this ⊢; omega
      · rename_i h
        have := fieldsGo_len l []
        cases cur with
        | nil => simp at h
        | cons c t => simp at this ⊢; omega
    · have := fieldsGo_len l (cur ++ [b]); simp at this ⊢; omega
theorem fsB_len (s : ByteArray) : (fsB s).length ≤ s.size := by
  unfold fsB
  rw [List.length_map, Lib.size_eq]
  have h := fieldsGo_len s.data.toList []
  rw [List.length_nil, Nat.zero_add] at h
  exact h
theorem fsB_mem (s : ByteArray) (ha : asciiB s = true) {f : ByteArray} (hf : f ∈ fsB s) : asciiB f = true ∧ f.size ≤ s.size := by
  unfold fsB at hf
  obtain ⟨x, hx, rfl⟩ := List.mem_map.1 hf
  obtain ⟨h1, h2⟩ := fieldsGo_mem s.data.toList [] x hx
  refine ⟨List.all_eq_true.2 fun b hb => List.all_eq_true.1 ha b ?_, ?_⟩
  · rcases h1 b hb with h | h
    · cases h
    · exact h
  · rw [Lib.size_eq, toB_data, Lib.size_eq]
    simpa using h2
theorem fields_calls (s : ByteArray) (W : World) (hs : s.size < 4294967281) (ha : asciiB s = true) (ht : SpaceT W) :
    Calls Tryd.prog 60 #[.string s] W fun e w' => ∃ v, e = .returned v ∧ Kd.string.R 9 w' W.heap.size (fun k => W.heap.size ≤ k) v (fsB s) ∧ Below W.heap.size W w' := by
  refine (Tryd.strings_Fields s W hs (fun j b hj => ?_) ht).mono fun e w' ⟨he, hw⟩ => ?_
  · have := List.all_eq_true.1 ha b (List.mem_of_getElem? hj)
    simpa using this
  · subst he; subst hw
    have hl : (fsB s).length = (Lib.fields s.data.toList).length := by unfold fsB; rw [List.length_map]
    have hr : Kd.string.R 9 (W.alloc (.cells ((Lib.fields s.data.toList).map fun l => Value.string ⟨l.toArray⟩).toArray 9)) W.heap.size (fun k => W.heap.size ≤ k) (.slice (some ⟨W.heap.size, 0, none⟩) (fsB s).length (fsB s).length) (fsB s) := by
      have ho := World.ownsRow_lit (base := W.heap.size) (e := 9) (size := 1) W ((Lib.fields s.data.toList).map fun l => Value.string ⟨l.toArray⟩).toArray (fsB s).length (Nat.le_refl _) (by have := fsB_len s; unfold maxLen; omega) (by simp [hl])
      have he : encs Value.string (fsB s) = ((Lib.fields s.data.toList).map fun l => Value.string ⟨l.toArray⟩) := by
        unfold fsB encs toB
        rw [List.map_map]; rfl
      rw [← he] at ho ⊢
      refine Kd.R_of_own ho (fun k hk => ?_)
      have : W.heap.size = k := by simpa [Value.ownBlock] using hk
      omega
    exact ⟨_, by rw [hl], hr, below_alloc (Below.refl _ _) _⟩
/-- What a list of fields is read as. -/
def parseC : List ByteArray → List (List ByteArray) × Bool
  | [] => ([], true)
  | f :: t => if validO (splitB f) = true then (splitB f :: (parseC t).1, (parseC t).2) else ([], false)
theorem parseC_len : ∀ l, (parseC l).1.length ≤ l.length
  | [] => Nat.le_refl _
  | f :: t => by
    unfold parseC
    split
    · have := parseC_len t; simp; exact this
    · simp
set_option maxHeartbeats 4000000 in
set_option maxRecDepth 100000 in
theorem parse_calls (s : ByteArray) (w : World) (hP : Tabs w) (hS : SpaceT w) (ha : asciiB s = true) (hs : s.size < 4294967200) :
    Calls Tryd.prog 43 #[.string s] w fun e w' => ∃ v x, e = .returned (.tuple #[v, x]) ∧ ((parseC (fsB s)).2 = true → x = .nilIface) ∧ ((parseC (fsB s)).2 = false → ∃ y, x = .iface 74 y) ∧ (Kd.slice 41 Kd.string).R 46 w' w.heap.size (fun k => w.heap.size ≤ k) v (parseC (fsB s)).1 ∧ Below w.heap.size w w' := by
  have hlen : (fsB s).length ≤ 4294967200 := by have := fsB_len s; omega
  have HSC : Aside0 (∀ W, Below w.heap.size w W → Calls Tryd.prog 60 #[.string s] W fun e w' => ∃ v, e = .returned v ∧ Kd.string.R 9 w' W.heap.size (fun k => W.heap.size ≤ k) v (fsB s) ∧ Below W.heap.size W w') := ⟨fun W h => fields_calls s W (by omega) ha (Lib.tabBelow_of_tabIs hS W h)⟩
  have HFP : Aside0 (∀ f, f ∈ fsB s → ∀ W, Below w.heap.size w W → Calls Tryd.prog 61 #[.string f] W fun e w' => ∃ v x, e = .returned (.tuple #[v, x]) ∧ (validO (splitB f) = true → x = .nilIface) ∧ (validO (splitB f) = false → ∃ y, x = .iface 74 y) ∧ Kd.string.R 41 w' W.heap.size (fun k => W.heap.size ≤ k) v (splitB f) ∧ Below W.heap.size W w') := ⟨fun f hf W h => by
    obtain ⟨h1, h2⟩ := fsB_mem s ha hf
    exact parseOption_calls f W (hP.below h) h1 (by omega)⟩
  obtain ⟨l, hl⟩ : ∃ l, l = fsB s := ⟨_, rfl⟩
  rw [← hl] at hlen HFP HSC ⊢
  have HL := Aside0.mk hl
  have HLEN := Aside0.mk hlen
  clear hl hP hS ha hs hlen
  go_enter Tryd.func43, Tryd.ntmps43
  go_wp2_with (first
    | (go_at_call 60; (with_reducible refine (HSC.out _ (below_alloc (Below.refl _ _) _)).mono ?_); rintro e w3 ⟨v9, rfl, hO, hb⟩; obtain ⟨A9, c9, rfl⟩ := Kd.R_slice hO; have HO9 := Aside0.mk hO; have HB3 := Aside0.mk hb; clear hO hb)
    | go_in)
  have HB1 : Below w.heap.size w w3 := below_step (below_alloc (Below.refl _ _) _) HB3.out
  have HF : Aside0 (∀ k, (Value.slice A9 l.length c9).ownBlock = some k → w.heap.size < k) := ⟨fun k hk => by have := HO9.out.1 k hk; simp only [size_alloc'] at this; omega⟩
  go_loopg [4, 13] l.length (fun kq v4 v13 wr => ∃ (i : Nat) (xs : List (List ByteArray)), v13 = .int .i64 (i : Int) ∧ Aside0 (i + kq = l.length) ∧ Aside0 (xs.length ≤ i ∧ xs ++ (parseC (l.drop i)).1 = (parseC l).1 ∧ (parseC (l.drop i)).2 = (parseC l).2) ∧ Aside0 ((Kd.slice 41 Kd.string).R 46 wr w.heap.size (fun k => w.heap.size ≤ k ∧ some k ≠ (Value.slice A9 l.length c9).ownBlock) v4 xs) ∧ Aside0 (Kd.string.R 9 wr w.heap.size (fun k => w.heap.size ≤ k) (.slice A9 l.length c9) l) ∧ Aside0 (Below w.heap.size w wr))
  case atStart =>
    refine ⟨0, [], rfl, ⟨by simp⟩, ⟨Nat.le_refl _, rfl, rfl⟩, ⟨Kd.R_below (lit_none (Kd.slice 41 Kd.string) w.heap.size _ w 46 (Nat.le_refl _) ⟨Nat.le_refl _, fun e => ?_⟩) HB3.out⟩, ⟨Kd.R_mono (Kd.R_lower HO9.out (below_alloc (Below.refl _ _) _).size) (fun k hk => Nat.le_trans (below_alloc (Below.refl _ _) _).size hk)⟩, ⟨HB1⟩⟩
    have := HF.out _ e.symm
    omega
  case round =>
    obtain ⟨i, xs, rfl, HK, HX, HO, HR, HB⟩ := hrel
    clear HO9 HB3 HB1
    obtain ⟨A4, c4, rfl⟩ := Kd.R_slice HO.out
    cases gk with
    | zero =>
      have e' : (i < l.length) = False := eq_false (by have := HK.out; omega)
      have e2 : i = l.length := by have := HK.out; omega
      go_wp2
      go_ret2
      obtain ⟨h1, h2, h3⟩ := HX.out
      rw [e2, List.drop_length] at h2 h3
      have h4 : xs = (parseC l).1 := by rw [← h2]; simp [parseC]
      rw [h4] at HO
      rw [h4]
      exact ⟨_, _, rfl, fun _ => rfl, fun h => absurd (h3.trans h) (by decide), Kd.R_mono HO.out (fun k hk => hk.1), HB.out⟩
    | succ k =>
      have hi : i < l.length := by have := HK.out; omega
      obtain ⟨p, hp⟩ : ∃ p, l[i]? = some p := ⟨_, List.getElem?_eq_getElem hi⟩
      have hdrop : l.drop i = p :: l.drop (i + 1) := by obtain ⟨h1, h2⟩ := List.getElem?_eq_some_iff.1 hp; rw [List.drop_eq_getElem_cons h1, h2]
      have HFQ := Aside0.mk (HFP.out p (List.mem_of_getElem? hp) wr HB.out)
      obtain ⟨ad, hA, h0⟩ := at_str (Kd.R_reads' HR.out).2.2 i hi p hp
      cases hA
      have e' : (i < l.length) = True := eq_true hi
      have hob : ∀ q, (Value.slice A4 xs.length c4).ownBlock = some q → (w.heap.size ≤ q ∧ some q ≠ (Value.slice (some ad) l.length c9).ownBlock) ∧ q < wr.heap.size := fun q hq => ⟨HO.out.1 q hq, Kd.R_lt HO.out q hq⟩
      have hlt : ∀ q, (Value.slice (some ad) l.length c9).ownBlock = some q → q < wr.heap.size := Kd.R_lt HR.out
      clear hi
      cases hv : validO (splitB p) with
      | false =>
        have HX2 : Aside0 (xs = (parseC l).1 ∧ (parseC l).2 = false) := ⟨by
          obtain ⟨h1, h2, h3⟩ := HX.out
          rw [hdrop, parseC, if_neg (by rw [hv]; decide)] at h2 h3
          exact ⟨by rw [← h2]; simp, h3.symm⟩⟩
        clear hdrop HX
        go_wp2_with (first
          | (go_at_call 61; (with_reducible refine HFQ.out.mono ?_); rintro e w5 ⟨v5, x5, rfl, _, hx, hO5, hb5⟩; obtain ⟨y5, rfl⟩ := hx hv; have HB5 := Aside0.mk hb5; clear hO5 hb5 hx HFQ)
          | go_in)
        go_ret2
        obtain ⟨g1, g2⟩ := HX2.out
        rw [← g1]
        exact ⟨_, _, rfl, fun h => absurd (g2.symm.trans h) (by decide), fun _ => ⟨_, rfl⟩, Kd.R_mono (Kd.R_below HO.out HB5.out) (fun k hk => hk.1), below_step HB.out HB5.out⟩
      | true =>
        have HX2 : Aside0 ((xs ++ [splitB p]).length ≤ i + 1 ∧ (xs ++ [splitB p]) ++ (parseC (l.drop (i + 1))).1 = (parseC l).1 ∧ (parseC (l.drop (i + 1))).2 = (parseC l).2) := ⟨by
          obtain ⟨h1, h2, h3⟩ := HX.out
          rw [hdrop, parseC, if_pos hv] at h2 h3
          refine ⟨by simp; omega, ?_, h3⟩
          rw [List.append_assoc]
          exact h2⟩
        have HXL : Aside0 (xs.length ≤ i) := ⟨HX.out.1⟩
        clear hdrop HX
        go_wp2_with (first
          | (go_at_call 61; (with_reducible refine HFQ.out.mono ?_); rintro e w5 ⟨v5, x5, rfl, hx, _, hO5, hb5⟩; obtain rfl := hx hv; obtain ⟨A5, c5, rfl⟩ := Kd.R_slice hO5; have HO5 := Aside0.mk hO5; have HB5 := Aside0.mk hb5; clear hO5 hb5 hx HFQ)
          | ((with_reducible refine gate_builtin (b := .append) (xs := #[.tmp 26, .tmp 28]) rfl ?_); at_builtin; refine Kd.R_append (Kd.slice 41 Kd.string) (w0 := w5) w.heap.size rfl (.tmp 26) (.tmp 28) 49 46 (.slice none 0 0) 24 rfl Tryd.underlying49 info46 rfl (by decide) (by decide) (.slice A4 xs.length c4) xs (splitB p) [.slice A5 (splitB p).length c5] (fun k => w.heap.size ≤ k ∧ some k ≠ (Value.slice (some ad) l.length c9).ownBlock) (fun k => wr.heap.size ≤ k) rfl rfl ⟨_, rfl, Kd.R_lower HO5.out HB.out.size⟩ (fun q hq => ⟨⟨Nat.le_trans HB.out.size hq, fun e => by have := hlt q e.symm; omega⟩, fun e => by have := (hob q e.symm).2; omega⟩) (fun k hk => ⟨Nat.le_trans (Nat.le_trans HB.out.size HB5.out.size) hk, fun e => by have := hlt k e.symm; have := HB5.out.size; omega⟩) (Kd.R_below HO.out HB5.out) (Below.refl _ _) (Nat.le_trans HB.out.size HB5.out.size) (by have := HXL.out; have := HK.out; have := HLEN.out; omega) ?_; intro v6 w6 ho6 hb6 hg6 hat6; have HO6 := Aside0.mk ho6; have HG6 := Aside0.mk hg6; clear ho6 hb6 hg6 hat6; go_frame)
          | go_in)
        go_roundg k
        case measure => have := HK.out; omega
        case rel =>
          exact ⟨i + 1, xs ++ [splitB p], by have := HK.out; have := HLEN.out; simp [wrap64]; omega, ⟨by have := HK.out; omega⟩, HX2, HO6, ⟨Kd.R_grown2 (Kd.R_below HR.out HB5.out) rfl HG6.out (fun q hq => (hob q hq).1.2)⟩, ⟨(below_step HB.out HB5.out).grown HG6.out (Nat.le_trans HB.out.size HB5.out.size) (fun q hq => (hob q hq).1.1)⟩⟩
end Go.Proofs.YtlmmjchdfngdgaaDoor.Q
