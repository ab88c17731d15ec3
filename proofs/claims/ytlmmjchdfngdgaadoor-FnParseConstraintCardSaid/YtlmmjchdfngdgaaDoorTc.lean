/- Contracts of impl.option, Option.Evaluate; impl.TermEvaluate, impl.OptionEvaluate. -/
import Derived.Test.YtlmmjchdfngdgaaDoorTb
namespace Go.Proofs.YtlmmjchdfngdgaaDoor.Q
open Go.RowKit Go.Maps Go.Proofs.YtlmmjchdfngdgaaDoorW.PrintWords Go.Proofs.YtlmmjchdfngdgaaDoorW.PrintLast Go.Proofs.YtlmmjchdfngdgaaDoorW.PrintMore
set_option linter.unusedVariables false
set_option linter.unusedSimpArgs false

theorem info41 : (Tryd.prog.info? 41).map (fun i => (i.zero, i.size, i.bytes)) = some (some (.string ⟨#[]⟩), 1, 16) := by kernel_rfl

set_option maxHeartbeats 4000000 in
set_option maxRecDepth 100000 in
theorem option_calls (A : Option Addr) (c : Nat) (l : List ByteArray) (w : World) (hr : Kd.C Kd.string w A l.length l) (hlen : l.length < 4294967296) :
    Calls Tryd.prog 34 #[.slice A l.length c] w fun e w' => ∃ v, e = .returned v ∧ Kd.string.R 41 w' w.heap.size (fun k => w.heap.size ≤ k) v l ∧ Below w.heap.size w w' := by
  have HR := Aside0.mk hr
  clear hr
  go_enter Tryd.func34, Tryd.ntmps34
  go_wp2
  go_loopg [3, 8] l.length (fun kq v3 v8 wr => ∃ i : Nat, v8 = .int .i64 (i : Int) ∧ Aside0 (i + kq = l.length) ∧ Aside0 (Kd.string.R 41 wr w.heap.size (fun k => w.heap.size ≤ k) v3 (l.take i)) ∧ Aside0 (Below w.heap.size w wr))
  case atStart => exact ⟨0, rfl, ⟨by simp⟩, ⟨Kd.R_nil _ _ _ _ _⟩, ⟨Below.refl _ _⟩⟩
  case round =>
    obtain ⟨i, rfl, HK, HO, HB⟩ := hrel
    cases gk with
    | zero =>
      have e' : (i < l.length) = False := eq_false (by have := HK.out; omega)
      obtain ⟨A3, c3, rfl⟩ := Kd.R_slice HO.out
      go_wp2
      go_ret
      have e2 : i = l.length := by have := HK.out; omega
      have h := HO.out
      rw [e2, List.take_length] at h
      rw [e2, List.take_length]
      exact ⟨_, rfl, h, HB.out⟩
    | succ k =>
      have hi : i < l.length := by have := HK.out; omega
      obtain ⟨p, hp⟩ : ∃ p, l[i]? = some p := ⟨_, List.getElem?_eq_getElem hi⟩
      have HTK : Aside0 (l.take (i + 1) = l.take i ++ [p]) := ⟨by obtain ⟨h1, h2⟩ := List.getElem?_eq_some_iff.1 hp; rw [List.take_succ_eq_append_getElem h1, h2]⟩
      have HTL : Aside0 ((l.take i).length = i) := ⟨by rw [List.length_take]; omega⟩
      obtain ⟨ad, hA, h0⟩ := at_str HR.out i hi p hp
      cases hA
      replace h0 := (HB.out.cell (World.block_lt_of_cell? w _ h0)).trans h0
      obtain ⟨A3, c3, rfl⟩ := Kd.R_slice HO.out
      have e' : (i < l.length) = True := eq_true hi
      have hob : ∀ q, (Value.slice A3 (l.take i).length c3).ownBlock = some q → w.heap.size ≤ q := HO.out.1
      clear hi
      go_wp2_with (first
        | ((with_reducible refine gate_builtin (b := .append) (xs := #[.tmp 12, .tmp 14]) rfl ?_); at_builtin; refine Kd.R_append Kd.string (w0 := wr) w.heap.size rfl (.tmp 12) (.tmp 14) 46 41 (.string ⟨#[]⟩) 16 rfl Tryd.underlying46 info41 rfl (by decide) (by decide) (.slice A3 (l.take i).length c3) (l.take i) p [.string p] (fun k => w.heap.size ≤ k) (fun _ => False) rfl rfl rfl (fun _ hk => hk.elim) (fun k hk => Nat.le_trans HB.out.size hk) HO.out (Below.refl _ _) HB.out.size (by have := HTL.out; have := HK.out; omega) ?_; intro v6 w6 ho6 hb6 hg6 hat6; have HO6 := Aside0.mk ho6; have HG6 := Aside0.mk hg6; clear ho6 hb6 hg6 hat6; go_frame)
        | go_in)
      go_roundg k
      case measure => have := HK.out; omega
      case rel =>
        exact ⟨i + 1, by have := HK.out; simp [wrap64]; omega, ⟨by have := HK.out; omega⟩, ⟨by rw [HTK.out]; exact HO6.out⟩, ⟨HB.out.grown HG6.out HB.out.size hob⟩⟩

def evalO (o : List ByteArray) (tags : List ByteArray) : Bool := o.all fun t => evalT t tags
def okO (o : List ByteArray) : Bool := o.all fun t => asciiB t && decide (t.size ≤ 140737488355328)
theorem okO_at {o : List ByteArray} (h : okO o = true) (p : ByteArray) (hp : p ∈ o) : asciiB p = true ∧ p.size ≤ maxLen := by
  have := List.all_eq_true.1 h p hp
  simp only [Bool.and_eq_true, decide_eq_true_eq] at this
  exact ⟨this.1, by simp only [maxLen]; omega⟩
theorem evalO_step (o tags : List ByteArray) (i : Nat) (p : ByteArray) (hp : o[i]? = some p) : evalO (o.take (i + 1)) tags = (evalO (o.take i) tags && evalT p tags) := by
  obtain ⟨h1, h2⟩ := List.getElem?_eq_some_iff.1 hp
  unfold evalO
  rw [List.take_succ_eq_append_getElem h1, List.all_append, h2]
  simp
set_option maxHeartbeats 4000000 in
set_option maxRecDepth 100000 in
theorem optEval_calls (A : Option Addr) (c : Nat) (o : List ByteArray) (b m : Nat) (tags : List ByteArray) (w : World) (hr : Kd.C Kd.string w A o.length o) (hM : w.ownsMap Tryd.prog 9 (plainElem Tryd.prog 4) b m (tagsD tags)) (ht : Tabs w) (hok : okO o = true) (hlen : o.length < 4294967296) :
    Calls Tryd.prog 35 #[.slice A o.length c, .map (some b)] w fun e w' => e = .returned (.bool (evalO o tags)) ∧ Below w.heap.size w w' := by
  have HR := Aside0.mk hr
  have HT := Aside0.mk ht
  have HM := Aside0.mk hM
  clear hr ht hM
  go_enter Tryd.func35, Tryd.ntmps35
  go_wp2
  go_loopg [5, 10] o.length (fun kq v5 v10 wr => ∃ (i : Nat) (r : Bool), v5 = .bool r ∧ v10 = .int .i64 (i : Int) ∧ Aside0 (i + kq = o.length) ∧ Aside0 (r = evalO (o.take i) tags) ∧ Aside0 (Below w.heap.size w wr))
  case atStart => exact ⟨0, true, rfl, rfl, ⟨by simp⟩, ⟨by simp [evalO]⟩, ⟨Below.refl _ _⟩⟩
  case round =>
    obtain ⟨i, r, rfl, rfl, HK, HV, HB⟩ := hrel
    cases gk with
    | zero =>
      have e' : (i < o.length) = False := eq_false (by have := HK.out; omega)
      go_wp2
      go_ret
      have e2 : i = o.length := by have := HK.out; omega
      exact ⟨by rw [HV.out, e2, List.take_length]; rfl, HB.out⟩
    | succ k =>
      have hi : i < o.length := by have := HK.out; omega
      obtain ⟨p, hp⟩ : ∃ p, o[i]? = some p := ⟨_, List.getElem?_eq_getElem hi⟩
      have HST := Aside0.mk (evalO_step o tags i p hp)
      have hpo := okO_at hok p (List.mem_of_getElem? hp)
      obtain ⟨ad, hA, h0⟩ := at_str HR.out i hi p hp
      cases hA
      replace h0 := (HB.out.cell (World.block_lt_of_cell? w _ h0)).trans h0
      have HMr : Aside0 (wr.ownsMap Tryd.prog 9 (plainElem Tryd.prog 4) b m (tagsD tags)) := ⟨HM.out.kept ⟨HB.out.os, HB.out.tape, HB.out.output, HB.out.size, fun k hk _ => HB.out.block k hk⟩ (row := none) (by simp)⟩
      have HTr := Aside0.mk (HT.out.below HB.out)
      have e' : (i < o.length) = True := eq_true hi
      clear hi
      cases r with
      | false =>
        go_wp2
        go_roundg k
        case measure => have := HK.out; omega
        case rel => exact ⟨i + 1, false, rfl, by have := HK.out; simp [wrap64]; omega, ⟨by have := HK.out; omega⟩, ⟨by rw [HST.out, ← HV.out]; rfl⟩, HB⟩
      | true =>
        go_wp2_with (first
          | (go_at_call 32; (with_reducible refine (termEval_calls p b m tags _ HMr.out HTr.out hpo.1 hpo.2).mono ?_); rintro e w3 ⟨rfl, hb3⟩; have HB3 := Aside0.mk hb3; clear hb3)
          | go_in)
        go_roundg k
        case measure => have := HK.out; omega
        case rel => exact ⟨i + 1, evalT p tags, rfl, by have := HK.out; simp [wrap64]; omega, ⟨by have := HK.out; omega⟩, ⟨by rw [HST.out, ← HV.out]; rfl⟩, ⟨below_step HB.out HB3.out⟩⟩

/-- What the given functions ask of the world. -/
def okTags (l : List ByteArray) : Bool := l.all fun t => decide (t.size ≤ 140737488355328)
theorem okTags_at {l : List ByteArray} (h : okTags l = true) : ∀ t ∈ l, t.size ≤ maxLen := fun t ht => by
  have := of_decide_eq_true (List.all_eq_true.1 h t ht)
  simp only [maxLen]; omega
def impl_TermEvaluate.f (a0 : ByteArray) (l1 : List ByteArray) : Option Bool := if okO [a0] = true ∧ okTags l1 = true ∧ l1.length < 4294967296 then some (evalT a0 l1) else none
set_option maxHeartbeats 4000000 in
theorem impl_TermEvaluate.calls (a0 : ByteArray) (A1 : Option Addr) (c1 : Nat) (l1 : List ByteArray) (r : Bool) (w : World) (hP : Tabs w) (hr1 : Kd.C Kd.string w A1 l1.length l1) (hc1 : l1.length ≤ c1) (h : impl_TermEvaluate.f a0 l1 = some r) :
    Calls Tryd.prog 12 #[.string a0, .slice A1 l1.length c1] w fun e w' => e = .returned (.bool r) ∧ Below w.heap.size w w' := by
  unfold impl_TermEvaluate.f at h
  split at h
  case isFalse => cases h
  rename_i hg
  obtain rfl := Option.some.inj h
  obtain ⟨h1, h2, h3⟩ := hg
  have ho := okO_at h1 a0 (by simp)
  have hs := okTags_at h2
  have HP := Aside0.mk hP
  have HR1 := Aside0.mk hr1
  clear hP hr1 h
  go_enter Tryd.func12, Tryd.ntmps12
  go_wp2_with (first
    | (go_at_call 33; (with_reducible refine (setTags_calls A1 c1 l1 _ HR1.out hs h3).mono ?_); rintro e w1 ⟨b, rfl, hb, hM, hb1⟩; have HM := Aside0.mk hM; have HB1 := Aside0.mk hb1; clear hM hb1)
    | (go_at_call 32; (with_reducible refine (termEval_calls a0 b _ l1 _ HM.out (HP.out.below HB1.out) ho.1 ho.2).mono ?_); rintro e w2 ⟨rfl, hb2⟩)
    | go_in)
  go_ret
  exact ⟨rfl, below_step HB1.out hb2⟩
def impl_OptionEvaluate.f (l0 l1 : List ByteArray) : Option Bool := if okO l0 = true ∧ okTags l1 = true ∧ l0.length < 4294967296 ∧ l1.length < 4294967296 then some (evalO l0 l1) else none
set_option maxHeartbeats 4000000 in
theorem impl_OptionEvaluate.calls (A0 : Option Addr) (c0 : Nat) (l0 : List ByteArray) (A1 : Option Addr) (c1 : Nat) (l1 : List ByteArray) (r : Bool) (w : World) (hP : Tabs w) (hr0 : Kd.C Kd.string w A0 l0.length l0) (hc0 : l0.length ≤ c0) (hr1 : Kd.C Kd.string w A1 l1.length l1) (hc1 : l1.length ≤ c1) (h : impl_OptionEvaluate.f l0 l1 = some r) :
    Calls Tryd.prog 13 #[.slice A0 l0.length c0, .slice A1 l1.length c1] w fun e w' => e = .returned (.bool r) ∧ Below w.heap.size w w' := by
  unfold impl_OptionEvaluate.f at h
  split at h
  case isFalse => cases h
  rename_i hg
  obtain rfl := Option.some.inj h
  obtain ⟨h1, h2, h3, h4⟩ := hg
  have hs := okTags_at h2
  have HP := Aside0.mk hP
  have HR0 := Aside0.mk hr0
  have HR1 := Aside0.mk hr1
  clear hP hr0 hr1 h
  go_enter Tryd.func13, Tryd.ntmps13
  go_wp2_with (first
    | (go_at_call 34; (with_reducible refine (option_calls A0 c0 l0 _ HR0.out h3).mono ?_); rintro e w1 ⟨v, rfl, hO, hb1⟩; obtain ⟨Ao, co, rfl⟩ := Kd.R_slice hO; have HO := Aside0.mk (Kd.R_reads' hO).2.2; have HB1 := Aside0.mk hb1; clear hO hb1)
    | (go_at_call 33; (with_reducible refine (setTags_calls A1 c1 l1 _ (Kd.C_below HR1.out HB1.out) hs h4).mono ?_); rintro e w2 ⟨b, rfl, hb, hM, hb2⟩; have HM := Aside0.mk hM; have HB2 := Aside0.mk hb2; clear hM hb2)
    | (go_at_call 35; (with_reducible refine (optEval_calls Ao co l0 b _ l1 _ (Kd.C_below HO.out HB2.out) HM.out (HP.out.below (below_step HB1.out HB2.out)) h1 h3).mono ?_); rintro e w3 ⟨rfl, hb3⟩)
    | go_in)
  go_ret
  exact ⟨rfl, below_step (below_step HB1.out HB2.out) hb3⟩
end Go.Proofs.YtlmmjchdfngdgaaDoor.Q
