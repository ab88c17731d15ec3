/- Contracts of build tags under an assignment: SetTags, Term.Evaluate. -/
import Derived.Test.YtlmmjchdfngdgaaDoorTa
namespace Go.Proofs.YtlmmjchdfngdgaaDoor.Q
open Go.RowKit Go.Maps Go.WideMaps Go.Proofs.YtlmmjchdfngdgaaDoorW.PrintWords Go.Proofs.YtlmmjchdfngdgaaDoorW.PrintLast Go.Proofs.YtlmmjchdfngdgaaDoorW.PrintMore
set_option linter.unusedVariables false
set_option linter.unusedSimpArgs false

theorem key9 : Keyed Tryd.prog 9 := string_keyed Tryd.underlying9
def putT (D : DataW Unit) (t : ByteArray) : DataW Unit := D.put (.string t.data.toList) (.lit (.bool true))
def tagsD (l : List ByteArray) : DataW Unit := l.foldl putT (.map [])
theorem take_foldl' {α β : Type} (f : β → α → β) (z : β) (l : List α) (i : Nat) (x : α) (h : l[i]? = some x) : (l.take (i + 1)).foldl f z = f ((l.take i).foldl f z) x := by
  obtain ⟨hi, e⟩ := List.getElem?_eq_some_iff.1 h
  rw [List.take_succ_eq_append_getElem hi, List.foldl_append, e]
  rfl
theorem at_str {w : World} {A : Option Addr} {n : Nat} {xs : List ByteArray} (h : Kd.C Kd.string w A n xs) (i : Nat) (h1 : i < n) (p : ByteArray) (hp : xs[i]? = some p) :
    ∃ ad, A = some ad ∧ w.cell? (ad.add i) = some (.string p) := by
  obtain ⟨ad, c, hA, hlen, hK, hc⟩ := Kd.C_get h ⟨#[]⟩ (i : Int) (by omega) (by omega)
  have e : xs.getD (i : Int).toNat ⟨#[]⟩ = p := by rw [Int.toNat_natCast]; simp [List.getD, hp]
  rw [e] at hK
  have hK' : c = [.string p] := hK
  subst hK'
  refine ⟨ad, hA, ?_⟩
  have := hc 0 (.string p) rfl
  simpa [Kd.string, Kd.scalar] using this

set_option maxHeartbeats 4000000 in
set_option maxRecDepth 100000 in
theorem setTags_calls (A : Option Addr) (c : Nat) (l : List ByteArray) (w : World) (hr : Kd.C Kd.string w A l.length l) (hs : ∀ t ∈ l, t.size ≤ maxLen) (hlen : l.length < 4294967296) :
    Calls Tryd.prog 33 #[.slice A l.length c] w fun e w' => ∃ b, e = .returned (.map (some b)) ∧ w.heap.size ≤ b ∧ w'.ownsMap Tryd.prog 9 (plainElem Tryd.prog 4) b l.length (tagsD l) ∧ Below w.heap.size w w' := by
  have HR := Aside0.mk hr
  clear hr
  have hmm := @run_makeMap Tryd.prog
  go_enter Tryd.func33, Tryd.ntmps33
  go_wp2
  have HM0 := Aside0.mk (World.ownsMap_made (H := Unit) w Tryd.prog 9 (plainElem Tryd.prog 4))
  have HB0 := Aside0.mk ((Below.refl w.heap.size w).alloc (Nat.le_refl _) (.map #[] 0))
  go_loopg [9] l.length (fun kq v9 wr => ∃ i : Nat, v9 = .int .i64 (i : Int) ∧ Aside0 (i + kq = l.length) ∧ Aside0 (wr.ownsMap Tryd.prog 9 (plainElem Tryd.prog 4) w.heap.size i (tagsD (l.take i))) ∧ Aside0 (Below w.heap.size w wr))
  case atStart => exact ⟨0, rfl, ⟨by simp⟩, ⟨by simpa [tagsD] using HM0.out⟩, HB0⟩
  case round =>
    obtain ⟨i, rfl, HK, HM, HB⟩ := hrel
    cases gk with
    | zero =>
      have e' : (i < l.length) = False := eq_false (by have := HK.out; omega)
      go_wp2
      go_ret
      have e2 : i = l.length := by have := HK.out; omega
      subst e2
      have h := HM.out
      rw [List.take_length] at h
      exact ⟨_, rfl, Nat.le_refl _, h, HB.out⟩
    | succ k =>
      have hi : i < l.length := by have := HK.out; omega
      obtain ⟨p, hp⟩ : ∃ p, l[i]? = some p := ⟨_, List.getElem?_eq_getElem hi⟩
      have hps := hs p (List.mem_of_getElem? hp)
      have hstep : tagsD (l.take (i + 1)) = putT (tagsD (l.take i)) p := take_foldl' putT _ l i p hp
      obtain ⟨ad, hA, h0⟩ := at_str HR.out i hi p hp
      cases hA
      replace h0 := (HB.out.cell (World.block_lt_of_cell? w _ h0)).trans h0
      have e' : (i < l.length) = True := eq_true hi
      clear hi
      go_wp2_with (first
        | (at_mapUpdate; refine wpList_mapUpdate_own _ rfl _ _ _ 43 rfl 9 4 key9 Tryd.underlying43 _ w.heap.size _ _ rfl HM.out (by have := HK.out; simp only [maxLen]; omega) _ _ _ rfl rfl (keyOf_string_mk Tryd.underlying9 hps) _ [] (plainElem_bool Tryd.underlying4 true) ?_; intro w2 hm2 hg2; go_frame)
        | go_in)
      have HM2 := Aside0.mk hm2
      have HG2 := Aside0.mk hg2
      clear hm2 hg2
      go_roundg k
      case measure => have := HK.out; omega
      case rel =>
        refine ⟨i + 1, by have := HK.out; simp [wrap64]; omega, ⟨by have := HK.out; omega⟩, ⟨by rw [hstep]; exact HM2.out⟩, ⟨HB.out.grown HG2.out HB.out.size (fun j hj => by cases hj; exact Nat.le_refl _)⟩⟩

def listedB (l : List ByteArray) (n : ByteArray) : Bool := l.any fun t => decide (t = n)
theorem tags_look (n : ByteArray) : ∀ (l : List ByteArray) (D : DataW Unit) (v : Bool), IsMap D → D.atKey (.string n.data.toList) (.lit (.bool false)) = .lit (.bool v) → IsMap (l.foldl putT D) ∧ (l.foldl putT D).atKey (.string n.data.toList) (.lit (.bool false)) = .lit (.bool (v || listedB l n))
  | [], D, v, hm, h => ⟨hm, by rw [show listedB [] n = false from rfl, Bool.or_false]; exact h⟩
  | t :: l, D, v, hm, h => by
    by_cases e : t = n
    · subst e
      have := tags_look t l (putT D t) true (hm.put _ _) (atKey_put_same hm (show WideAt.IsKeyLit (.string t.data.toList) from trivial) _ _)
      refine ⟨this.1, ?_⟩
      rw [List.foldl_cons, this.2]
      simp [listedB]
    · have hne : (Lit.string n.data.toList) ≠ .string t.data.toList := fun h2 => e (by
        injection h2 with h2
        exact (ByteArray.ext (Array.ext' h2)).symm)
      have := tags_look n l (putT D t) v (hm.put _ _) (by unfold putT; rw [atKey_put_other hne]; exact h)
      refine ⟨this.1, ?_⟩
      rw [List.foldl_cons, this.2]
      simp [listedB, e]
theorem tagsD_look (l : List ByteArray) (n : ByteArray) : (tagsD l).atKey (.string n.data.toList) (.lit (.bool false)) = .lit (.bool (listedB l n)) := by
  have := (tags_look n l (.map []) false isMap_empty rfl).2
  rwa [Bool.false_or] at this
theorem plainElem_bool_inv {P : Program} {e : TypeId} (he : P.underlying e = some .bool) {v : Value} {z : DataW Unit × List MemPlace} (h : plainElem (H := Unit) P e v = some z) : ∃ x, v = .bool x ∧ z = (.lit (.bool x), []) := by
  unfold plainElem at h
  rw [he] at h
  cases v <;> simp at h
  exact ⟨_, rfl, h.symm⟩
theorem zero4 (W : World) : (zeroValue 4).run Tryd.prog W = .ok (.bool false) W := by kernel_rfl
theorem look_tags {w : World} {b m : Nat} {l : List ByteArray} (h : w.ownsMap Tryd.prog 9 (plainElem Tryd.prog 4) b m (tagsD l)) (n : ByteArray) (hn : n.size ≤ maxLen) :
    (Instr.lookup 43 (.map (some b)) (.string n) false).run Tryd.prog w = .ok (.bool (listedB l n)) w := by
  obtain ⟨v, ps, hrun, hv⟩ := h.lookup key9 Tryd.underlying43 (zero4 w) (plainElem_bool Tryd.underlying4 false) (keyOf_string_mk Tryd.underlying9 hn)
  rw [tagsD_look] at hv
  obtain ⟨x, rfl, hx⟩ := plainElem_bool_inv Tryd.underlying4 hv
  have e : listedB l n = x := by
    have h2 : (DataW.lit (.bool (listedB l n)) : DataW Unit) = .lit (.bool x) := congrArg Prod.fst hx
    simpa using h2
  rw [hrun, e]

/-- A term's value under tags. -/
def evalT (s : ByteArray) (l : List ByteArray) : Bool := validB s && (listedB l (nameT s) == !(negT s))
set_option maxRecDepth 100000 in
theorem name_size (s : ByteArray) : (nameT s).size ≤ s.size := by
  have e1 : (nameT s).size = (Lib.trimPrefix s.data.toList [33]).length := by exact List.size_toArray
  have e2 : s.size = s.data.toList.length := (Array.length_toList).symm
  rw [e1, e2]
  generalize s.data.toList = l
  unfold Lib.trimPrefix
  split
  · rw [List.length_drop]; omega
  · exact Nat.le_refl _
structure SE (w : World) (b : Nat) (n : ByteArray) (v : Bool) (w' : World) : Prop where
  look : (Instr.lookup 43 (.map (some b)) (.string n) false).run Tryd.prog w' = .ok (.bool v) w'
  bel : Below w.heap.size w w'
  tab : Tabs w'
theorem SE.tabA {w W : World} {b : Nat} {n : ByteArray} {v : Bool} (h : (Instr.lookup 43 (.map (some b)) (.string n) false).run Tryd.prog W = .ok (.bool v) W ∧ SE w b n v W) : Tabs W := h.2.tab
theorem SE.belA {w W : World} {b : Nat} {n : ByteArray} {v : Bool} (h : (Instr.lookup 43 (.map (some b)) (.string n) false).run Tryd.prog W = .ok (.bool v) W ∧ SE w b n v W) : Below w.heap.size w W := h.2.bel
theorem SE.of {w w' : World} {b m : Nat} {n : ByteArray} {l : List ByteArray} (h : w.ownsMap Tryd.prog 9 (plainElem Tryd.prog 4) b m (tagsD l)) (hn : n.size ≤ maxLen) (ht : Tabs w) (hb : Below w.heap.size w w') : SE w b n (listedB l n) w' :=
  ⟨look_tags (h.kept ⟨hb.os, hb.tape, hb.output, hb.size, fun k hk _ => hb.block k hk⟩ (row := none) (by simp)) n hn, hb, ht.below hb⟩

set_option maxHeartbeats 8000000 in
set_option maxRecDepth 100000 in
theorem termEval_calls (s : ByteArray) (b m : Nat) (l : List ByteArray) (w : World) (hM : w.ownsMap Tryd.prog 9 (plainElem Tryd.prog 4) b m (tagsD l)) (ht : Tabs w) (ha : asciiB s = true) (hs : s.size ≤ maxLen) :
    Calls Tryd.prog 32 #[.string s, .map (some b)] w fun e w' => e = .returned (.bool (evalT s l)) ∧ Below w.heap.size w w' := by
  have HS : Aside0 (∀ w', Below w.heap.size w w' → SE w b (nameT s) (listedB l (nameT s)) w') := ⟨fun w' hb => SE.of hM (Nat.le_trans (name_size s) hs) ht hb⟩
  obtain ⟨n, hn⟩ : ∃ n, n = nameT s := ⟨_, rfl⟩
  obtain ⟨v, hv⟩ : ∃ v, v = listedB l (nameT s) := ⟨_, rfl⟩
  obtain ⟨g, hg⟩ : ∃ g, g = negT s := ⟨_, rfl⟩
  have HE : Aside0 (evalT s l = (validB s && (v == !g))) := ⟨by unfold evalT; rw [hv, hg]⟩
  have HN := Aside0.mk hn
  have HG := Aside0.mk hg
  rw [← hv, ← hn] at HS
  clear hn hv hg hM ht
  have HA := Aside0.mk ha
  clear ha
  have hS0 := HS.out w (Below.refl _ _)
  rw [HE.out]
  cases hval : validB s with
  | false =>
    go_enter Tryd.func32, Tryd.ntmps32
    go_wp2
    refine start_ (n := 14) (S := fun w' => (Instr.lookup 43 (.map (some b)) (.string n) false).run Tryd.prog w' = .ok (.bool v) w') (ds := []) #[false, false, false, false, false, false, false, false, false, false, false, false, false, false] (by kernel_rfl) rfl rfl ((HS.out _ (below_drew (Below.refl _ _))).look) (fun hHeld => ?_)
    refine pure_ (i := 0) (N := some 5) (v := ?_) (a' := ?_) #[true, false, false, false, false, false, false, false, false, false, false, false, false, false] rfl rfl (by kernel_rfl) (fun _ _ _ h => h) (Or.inl ⟨by rfl, ?_⟩) ?_ ?_
    rotate_left
    · intro w'
      go_simp
      with_reducible rfl
    rotate_left
    · simp only [Act.put, List.setIfInBounds_toArray, List.set_cons_zero, List.set_cons_succ, i64_w, i32_w]
      rfl
    refine one_ (i := 1) (N := some 6) #[true, true, false, false, false, false, false, false, false, false, false, false, false, false] rfl rfl (by kernel_rfl) (by decide) (fun K hK => ?_)
    refine goes_ Tryd.func53 (by kernel_rfl) rfl #[.string s] (by rfl) rfl rfl (by simp only [List.map_toArray, List.map_cons, List.map_nil]; rfl) ?_
    with_reducible refine ((validate_calls s _ (HS.out _ (below_drew (Below.refl _ _))).tab HA.out)).mono ?_
    rintro e w3 ⟨h1, h2, h3⟩
    obtain ⟨x, rfl⟩ := h2 hval
    have HB3 : Aside0 (Below w.heap.size w w3) := ⟨below_step (below_drew (Below.refl _ _)) h3⟩
    clear h1 h2 h3
    refine ⟨_, rfl, ?_⟩
    refine hK.out _ _ ((HS.out _ HB3.out).look) (fun hHeld => ?_)
    clear hK K
    refine norm_ (a' := ?_) ?_ ?_
    rotate_left
    · show Act.put _ (some 6) _ = _
      simp only [Act.put, List.setIfInBounds_toArray, List.set_cons_zero, List.set_cons_succ, i64_w, i32_w]
      rfl
    refine pure_ (i := 2) (N := some 7) (v := ?_) (a' := ?_) #[true, true, true, false, false, false, false, false, false, false, false, false, false, false] rfl rfl (by kernel_rfl) (fun _ _ _ h => h) (Or.inl ⟨by rfl, ?_⟩) ?_ ?_
    rotate_left
    · intro w'
      go_simp
      with_reducible rfl
    rotate_left
    · simp only [Act.put, List.setIfInBounds_toArray, List.set_cons_zero, List.set_cons_succ, i64_w, i32_w]
      rfl
    refine pure_ (i := 3) (N := some 8) (v := ?_) (a' := ?_) #[true, true, true, true, false, false, false, false, false, false, false, false, false, false] rfl rfl (by kernel_rfl) (fun _ _ _ h => h) (Or.inl ⟨by rfl, ?_⟩) ?_ ?_
    rotate_left
    · intro w'
      go_simp
      with_reducible rfl
    rotate_left
    · simp only [Act.put, List.setIfInBounds_toArray, List.set_cons_zero, List.set_cons_succ, i64_w, i32_w]
      rfl
    refine pure_ (i := 4) (N := some 9) (v := undef) (a' := ?_) #[true, true, true, true, true, false, false, false, false, false, false, false, false, false] rfl rfl (by kernel_rfl) (fun _ _ _ h => h) (Or.inr ⟨by rfl, rfl⟩) ?_ ?_
    rotate_left
    · simp only [Act.put, List.setIfInBounds_toArray, List.set_cons_zero, List.set_cons_succ, i64_w, i32_w]
      rfl
    refine pure_ (i := 5) (N := some 10) (v := undef) (a' := ?_) #[true, true, true, true, true, true, false, false, false, false, false, false, false, false] rfl rfl (by kernel_rfl) (fun _ _ _ h => h) (Or.inr ⟨by rfl, rfl⟩) ?_ ?_
    rotate_left
    · simp only [Act.put, List.setIfInBounds_toArray, List.set_cons_zero, List.set_cons_succ, i64_w, i32_w]
      rfl
    refine pure_ (i := 6) (N := some 11) (v := undef) (a' := ?_) #[true, true, true, true, true, true, true, false, false, false, false, false, false, false] rfl rfl (by kernel_rfl) (fun _ _ _ h => h) (Or.inr ⟨by rfl, rfl⟩) ?_ ?_
    rotate_left
    · simp only [Act.put, List.setIfInBounds_toArray, List.set_cons_zero, List.set_cons_succ, i64_w, i32_w]
      rfl
    refine pure_ (i := 7) (N := some 12) (v := undef) (a' := ?_) #[true, true, true, true, true, true, true, true, false, false, false, false, false, false] rfl rfl (by kernel_rfl) (fun _ _ _ h => h) (Or.inr ⟨by rfl, rfl⟩) ?_ ?_
    rotate_left
    · simp only [Act.put, List.setIfInBounds_toArray, List.set_cons_zero, List.set_cons_succ, i64_w, i32_w]
      rfl
    refine pure_ (i := 8) (N := some 13) (v := undef) (a' := ?_) #[true, true, true, true, true, true, true, true, true, false, false, false, false, false] rfl rfl (by kernel_rfl) (fun _ _ _ h => h) (Or.inr ⟨by rfl, rfl⟩) ?_ ?_
    rotate_left
    · simp only [Act.put, List.setIfInBounds_toArray, List.set_cons_zero, List.set_cons_succ, i64_w, i32_w]
      rfl
    refine pure_ (i := 9) (N := some 14) (v := undef) (a' := ?_) #[true, true, true, true, true, true, true, true, true, true, false, false, false, false] rfl rfl (by kernel_rfl) (fun _ _ _ h => h) (Or.inr ⟨by rfl, rfl⟩) ?_ ?_
    rotate_left
    · simp only [Act.put, List.setIfInBounds_toArray, List.set_cons_zero, List.set_cons_succ, i64_w, i32_w]
      rfl
    refine pure_ (i := 10) (N := some 15) (v := undef) (a' := ?_) #[true, true, true, true, true, true, true, true, true, true, true, false, false, false] rfl rfl (by kernel_rfl) (fun _ _ _ h => h) (Or.inr ⟨by rfl, rfl⟩) ?_ ?_
    rotate_left
    · simp only [Act.put, List.setIfInBounds_toArray, List.set_cons_zero, List.set_cons_succ, i64_w, i32_w]
      rfl
    refine pure_ (i := 11) (N := some 16) (v := undef) (a' := ?_) #[true, true, true, true, true, true, true, true, true, true, true, true, false, false] rfl rfl (by kernel_rfl) (fun _ _ _ h => h) (Or.inr ⟨by rfl, rfl⟩) ?_ ?_
    rotate_left
    · simp only [Act.put, List.setIfInBounds_toArray, List.set_cons_zero, List.set_cons_succ, i64_w, i32_w]
      rfl
    refine pure_ (i := 12) (N := some 17) (v := ?_) (a' := ?_) #[true, true, true, true, true, true, true, true, true, true, true, true, true, false] rfl rfl (by kernel_rfl) (fun _ _ _ h => h) (Or.inl ⟨by rfl, ?_⟩) ?_ ?_
    rotate_left
    · intro w'
      go_simp
      with_reducible rfl
    rotate_left
    · simp only [Act.put, List.setIfInBounds_toArray, List.set_cons_zero, List.set_cons_succ, i64_w, i32_w]
      rfl
    refine pure_ (i := 13) (N := some 4) (v := ?_) (a' := ?_) #[true, true, true, true, true, true, true, true, true, true, true, true, true, true] rfl rfl (by kernel_rfl) (fun _ _ _ h => h) (Or.inl ⟨by rfl, ?_⟩) ?_ ?_
    rotate_left
    · intro w'
      go_simp
      with_reducible rfl
    rotate_left
    · simp only [Act.put, List.setIfInBounds_toArray, List.set_cons_zero, List.set_cons_succ, i64_w, i32_w]
      rfl
    refine done_ (by kernel_rfl) ?_


    go_wp2
    go_ret
    exact ⟨rfl, HB3.out⟩
  | true =>
    go_enter Tryd.func32, Tryd.ntmps32
    go_wp2
    refine start_ (n := 14) (S := fun w' => (Instr.lookup 43 (.map (some b)) (.string n) false).run Tryd.prog w' = .ok (.bool v) w') (ds := []) #[false, false, false, false, false, false, false, false, false, false, false, false, false, false] (by kernel_rfl) rfl rfl ((HS.out _ (below_drew (Below.refl _ _))).look) (fun hHeld => ?_)
    refine pure_ (i := 0) (N := some 5) (v := ?_) (a' := ?_) #[true, false, false, false, false, false, false, false, false, false, false, false, false, false] rfl rfl (by kernel_rfl) (fun _ _ _ h => h) (Or.inl ⟨by rfl, ?_⟩) ?_ ?_
    rotate_left
    · intro w'
      go_simp
      with_reducible rfl
    rotate_left
    · simp only [Act.put, List.setIfInBounds_toArray, List.set_cons_zero, List.set_cons_succ, i64_w, i32_w]
      rfl
    refine one_ (i := 1) (N := some 6) #[true, true, false, false, false, false, false, false, false, false, false, false, false, false] rfl rfl (by kernel_rfl) (by decide) (fun K hK => ?_)
    refine goes_ Tryd.func53 (by kernel_rfl) rfl #[.string s] (by rfl) rfl rfl (by simp only [List.map_toArray, List.map_cons, List.map_nil]; rfl) ?_
    with_reducible refine ((validate_calls s _ (HS.out _ (below_drew (Below.refl _ _))).tab HA.out)).mono ?_
    rintro e w3 ⟨h1, h2, h3⟩
    obtain rfl := h1 hval
    have HB3 : Aside0 (Below w.heap.size w w3) := ⟨below_step (below_drew (Below.refl _ _)) h3⟩
    clear h1 h2 h3
    refine ⟨_, rfl, ?_⟩
    refine hK.out _ _ ((HS.out _ HB3.out).look) (fun hHeld => ?_)
    clear hK K
    refine norm_ (a' := ?_) ?_ ?_
    rotate_left
    · show Act.put _ (some 6) _ = _
      simp only [Act.put, List.setIfInBounds_toArray, List.set_cons_zero, List.set_cons_succ, i64_w, i32_w]
      rfl
    refine pure_ (i := 2) (N := some 7) (v := ?_) (a' := ?_) #[true, true, true, false, false, false, false, false, false, false, false, false, false, false] rfl rfl (by kernel_rfl) (fun _ _ _ h => h) (Or.inl ⟨by rfl, ?_⟩) ?_ ?_
    rotate_left
    · intro w'
      go_simp
      with_reducible rfl
    rotate_left
    · simp only [Act.put, List.setIfInBounds_toArray, List.set_cons_zero, List.set_cons_succ, i64_w, i32_w]
      rfl
    refine pure_ (i := 3) (N := some 8) (v := ?_) (a' := ?_) #[true, true, true, true, false, false, false, false, false, false, false, false, false, false] rfl rfl (by kernel_rfl) (fun _ _ _ h => h) (Or.inl ⟨by rfl, ?_⟩) ?_ ?_
    rotate_left
    · intro w'
      go_simp
      with_reducible rfl
    rotate_left
    · simp only [Act.put, List.setIfInBounds_toArray, List.set_cons_zero, List.set_cons_succ, i64_w, i32_w]
      rfl
    refine pure_ (i := 4) (N := some 9) (v := ?_) (a' := ?_) #[true, true, true, true, true, false, false, false, false, false, false, false, false, false] rfl rfl (by kernel_rfl) (fun _ _ _ h => h) (Or.inl ⟨by rfl, ?_⟩) ?_ ?_
    rotate_left
    · intro w'
      go_simp
      with_reducible rfl
    rotate_left
    · simp only [Act.put, List.setIfInBounds_toArray, List.set_cons_zero, List.set_cons_succ, i64_w, i32_w]
      rfl
    refine pure_ (i := 5) (N := some 10) (v := ?_) (a' := ?_) #[true, true, true, true, true, true, false, false, false, false, false, false, false, false] rfl rfl (by kernel_rfl) (fun _ _ _ h => h) (Or.inl ⟨by rfl, ?_⟩) ?_ ?_
    rotate_left
    · intro w'
      go_simp
      with_reducible rfl
    rotate_left
    · simp only [Act.put, List.setIfInBounds_toArray, List.set_cons_zero, List.set_cons_succ, i64_w, i32_w]
      rfl
    refine pure_ (i := 8) (N := some 13) (v := ?_) (a' := ?_) #[true, true, true, true, true, true, false, false, true, false, false, false, false, false] rfl rfl (by kernel_rfl) (fun _ _ _ h => h) (Or.inl ⟨by rfl, ?_⟩) ?_ ?_
    rotate_left
    · intro w'
      go_simp
      with_reducible rfl
    rotate_left
    · simp only [Act.put, List.setIfInBounds_toArray, List.set_cons_zero, List.set_cons_succ, i64_w, i32_w]
      rfl
    refine one_ (i := 6) (N := some 11) #[true, true, true, true, true, true, true, false, true, false, false, false, false, false] rfl rfl (by kernel_rfl) (by decide) (fun K hK => ?_)
    refine goes_ Tryd.func54 (by kernel_rfl) rfl #[.string s] (by rfl) rfl rfl (by simp only [List.map_toArray, List.map_cons, List.map_nil]; rfl) ?_
    with_reducible refine ((name_calls s _)).mono ?_
    rintro e w4 ⟨rfl, hw⟩
    rw [← HN.out]
    obtain rfl := hw.symm
    clear hw
    refine ⟨_, rfl, ?_⟩
    refine hK.out _ _ ((HS.out _ HB3.out).look) (fun hHeld => ?_)
    clear hK K
    refine norm_ (a' := ?_) ?_ ?_
    rotate_left
    · show Act.put _ (some 11) _ = _
      simp only [Act.put, List.setIfInBounds_toArray, List.set_cons_zero, List.set_cons_succ, i64_w, i32_w]
      rfl
    refine take_ (i := 7) (N := some 12) (v := ?_) (a' := ?_) #[true, true, true, true, true, true, true, true, true, false, false, false, false, false] rfl rfl (by kernel_rfl) (fun _ _ _ h => h) (Or.inl ⟨by rfl, ?_⟩) hHeld ?_ ?_
    rotate_left
    · intro w' s0
      go_simp
      with_reducible rfl
    rotate_left
    · simp only [Act.put, List.setIfInBounds_toArray, List.set_cons_zero, List.set_cons_succ, i64_w, i32_w]
      rfl
    refine one_ (i := 9) (N := some 14) #[true, true, true, true, true, true, true, true, true, true, false, false, false, false] rfl rfl (by kernel_rfl) (by decide) (fun K hK => ?_)
    refine goes_ Tryd.func55 (by kernel_rfl) rfl #[.string s] (by rfl) rfl rfl (by simp only [List.map_toArray, List.map_cons, List.map_nil]; rfl) ?_
    with_reducible refine ((neg_calls s _)).mono ?_
    rintro e w5 ⟨rfl, hw⟩
    rw [← HG.out]
    obtain rfl := hw.symm
    clear hw
    refine ⟨_, rfl, ?_⟩
    refine hK.out _ _ ((HS.out _ HB3.out).look) (fun hHeld => ?_)
    clear hK K
    refine norm_ (a' := ?_) ?_ ?_
    rotate_left
    · show Act.put _ (some 14) _ = _
      simp only [Act.put, List.setIfInBounds_toArray, List.set_cons_zero, List.set_cons_succ, i64_w, i32_w]
      rfl
    refine pure_ (i := 10) (N := some 15) (v := ?_) (a' := ?_) #[true, true, true, true, true, true, true, true, true, true, true, false, false, false] rfl rfl (by kernel_rfl) (fun _ _ _ h => h) (Or.inl ⟨by rfl, ?_⟩) ?_ ?_
    rotate_left
    · intro w'
      go_simp
      with_reducible rfl
    rotate_left
    · simp only [Act.put, List.setIfInBounds_toArray, List.set_cons_zero, List.set_cons_succ, i64_w, i32_w]
      rfl
    refine pure_ (i := 11) (N := some 16) (v := ?_) (a' := ?_) #[true, true, true, true, true, true, true, true, true, true, true, true, false, false] rfl rfl (by kernel_rfl) (fun _ _ _ h => h) (Or.inl ⟨by rfl, ?_⟩) ?_ ?_
    rotate_left
    · intro w'
      go_simp
      with_reducible rfl
    rotate_left
    · simp only [Act.put, List.setIfInBounds_toArray, List.set_cons_zero, List.set_cons_succ, i64_w, i32_w]
      rfl
    refine pure_ (i := 12) (N := some 17) (v := ?_) (a' := ?_) #[true, true, true, true, true, true, true, true, true, true, true, true, true, false] rfl rfl (by kernel_rfl) (fun _ _ _ h => h) (Or.inl ⟨by rfl, ?_⟩) ?_ ?_
    rotate_left
    · intro w'
      go_simp
      with_reducible rfl
    rotate_left
    · simp only [Act.put, List.setIfInBounds_toArray, List.set_cons_zero, List.set_cons_succ, i64_w, i32_w]
      rfl
    refine pure_ (i := 13) (N := some 4) (v := ?_) (a' := ?_) #[true, true, true, true, true, true, true, true, true, true, true, true, true, true] rfl rfl (by kernel_rfl) (fun _ _ _ h => h) (Or.inl ⟨by rfl, ?_⟩) ?_ ?_
    rotate_left
    · intro w'
      go_simp
      with_reducible rfl
    rotate_left
    · simp only [Act.put, List.setIfInBounds_toArray, List.set_cons_zero, List.set_cons_succ, i64_w, i32_w]
      rfl
    refine done_ (by kernel_rfl) ?_


    go_wp2
    go_ret
    exact ⟨by simp, HB3.out⟩
end Go.Proofs.YtlmmjchdfngdgaaDoor.Q
