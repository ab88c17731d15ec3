/- Contracts of texts: Constraint.GoString, Constraints.GoString, ConstraintsText. -/
import Derived.Test.YtlmmjchdfngdgaaDoorTx
namespace Go.Proofs.YtlmmjchdfngdgaaDoor.Q
open Go.RowKit Go.Maps Go.Proofs.YtlmmjchdfngdgaaDoorW.PrintWords Go.Proofs.YtlmmjchdfngdgaaDoorW.PrintLast Go.Proofs.YtlmmjchdfngdgaaDoorW.PrintMore
set_option linter.unusedVariables false
set_option linter.unusedSimpArgs false

def headC : ByteArray := ⟨#[47, 47, 32, 43, 98, 117, 105, 108, 100]⟩
def linesC (c : List (List ByteArray)) : ByteArray := c.foldl (fun s o => s ++ ((⟨#[32]⟩ : ByteArray) ++ textO o)) headC
def textC (c : List (List ByteArray)) : ByteArray := linesC c ++ (⟨#[10]⟩ : ByteArray)
def shortC (c : List (List ByteArray)) : Bool := c.all fun o => shortO o && decide (o.length < 4294967296)
theorem shortC_at {c : List (List ByteArray)} (h : shortC c = true) (p : List ByteArray) (hp : p ∈ c) : shortO p = true ∧ p.length < 4294967296 := by
  have := List.all_eq_true.1 h p hp
  simp only [Bool.and_eq_true, decide_eq_true_eq] at this
  exact this
set_option maxHeartbeats 4000000 in
set_option maxRecDepth 100000 in
theorem conText_calls (A : Option Addr) (c : Nat) (o : List (List ByteArray)) (w : World) (hr : Kd.C (Kd.slice 41 Kd.string) w A o.length o) (hsh : shortC o = true) (hlen : o.length ≤ 4096) :
    Calls Tryd.prog 64 #[.slice A o.length c] w fun e w' => e = .returned (.string (textC o)) ∧ Below w.heap.size w w' := by
  have HR := Aside0.mk hr
  clear hr
  go_enter Tryd.func64, Tryd.ntmps64
  go_wp2
  go_loopg [3, 8] o.length (fun kq v3 v8 wr => ∃ (i : Nat) (s : ByteArray), v3 = .string s ∧ v8 = .int .i64 (i : Int) ∧ Aside0 (i + kq = o.length) ∧ Aside0 (s = linesC (o.take i)) ∧ Aside0 (s.size ≤ 9 + i * 140737488355329) ∧ Aside0 (Below w.heap.size w wr))
  case atStart => exact ⟨0, _, rfl, rfl, ⟨by simp⟩, ⟨rfl⟩, ⟨by decide⟩, ⟨Below.refl _ _⟩⟩
  case round =>
    obtain ⟨i, s, rfl, rfl, HK, HV, HZ, HB⟩ := hrel
    cases gk with
    | zero =>
      have e' : (i < o.length) = False := eq_false (by have := HK.out; omega)
      have hz : s.size + 1 ≤ 9223372036854775807 := by have := HZ.out; have := HK.out; omega
      have hz2 : (s.size + 1 ≤ 9223372036854775807) = True := eq_true hz
      go_wp2
      go_ret
      have e2 : i = o.length := by have := HK.out; omega
      exact ⟨by rw [show textC o = s ++ (⟨#[10]⟩ : ByteArray) by unfold textC; rw [HV.out, e2, List.take_length]]; rfl, HB.out⟩
    | succ k =>
      have hi : i < o.length := by have := HK.out; omega
      obtain ⟨p, hp⟩ : ∃ p, o[i]? = some p := ⟨_, List.getElem?_eq_getElem hi⟩
      have HST : Aside0 (linesC (o.take (i + 1)) = linesC (o.take i) ++ ((⟨#[32]⟩ : ByteArray) ++ textO p)) := ⟨take_foldl' _ _ o i p hp⟩
      have hpo := shortC_at hsh p (List.mem_of_getElem? hp)
      obtain ⟨ad, Ap, cp, hA, h0, hcp, hCp⟩ := at_row HR.out i hi p hp
      cases hA
      replace h0 := (HB.out.cell (World.block_lt_of_cell? w _ h0)).trans h0
      have HCp := Aside0.mk (Kd.C_below hCp HB.out)
      clear hCp hcp
      have htx : (textO p).size ≤ 140737488355328 := by have := of_decide_eq_true hpo.1; simpa [textO, ByteArray.size] using this
      have hz1 : 1 + (textO p).size ≤ 9223372036854775807 := by omega
      have hz2 : s.size + (1 + (textO p).size) ≤ 9223372036854775807 := by have := HZ.out; have := HK.out; omega
      have HTX := Aside0.mk htx
      have e' : (i < o.length) = True := eq_true hi
      clear hi htx
      go_wp2_with (first
        | (go_at_call 42; (with_reducible refine (optText_calls Ap cp p _ HCp.out hpo.2 hpo.1).mono ?_); rintro e w3 ⟨rfl, hb3⟩; have HB3 := Aside0.mk hb3; clear hb3)
        | go_in)
      go_roundg k
      case measure => have := HK.out; omega
      case rel => exact ⟨i + 1, _, rfl, by have := HK.out; simp [wrap64]; omega, ⟨by have := HK.out; omega⟩, ⟨by rw [HST.out, ← HV.out]⟩, ⟨by have := HZ.out; have := HTX.out; simp only [ByteArray.size_append]; show s.size + (1 + (textO p).size) ≤ _; omega⟩, ⟨below_step HB.out HB3.out⟩⟩

theorem textC_size (c : List (List ByteArray)) (h : shortC c = true) : (textC c).size ≤ 10 + c.length * 140737488355329 := by
  have key : ∀ (c : List (List ByteArray)) (s : ByteArray), shortC c = true → (c.foldl (fun s o => s ++ ((⟨#[32]⟩ : ByteArray) ++ textO o)) s).size ≤ s.size + c.length * 140737488355329 := by
    intro c
    induction c with
    | nil => intro s _; simp
    | cons o c ih =>
      intro s hs
      have ho := (shortC_at hs o (by simp)).1
      have htx : (textO o).size ≤ 140737488355328 := by have := of_decide_eq_true ho; simpa [textO, ByteArray.size] using this
      have hc : shortC c = true := by
        unfold shortC at hs ⊢
        rw [List.all_cons, Bool.and_eq_true] at hs
        exact hs.2
      have := ih (s ++ ((⟨#[32]⟩ : ByteArray) ++ textO o)) hc
      rw [List.foldl_cons, List.length_cons]
      have e : (s ++ ((⟨#[32]⟩ : ByteArray) ++ textO o)).size = s.size + (1 + (textO o).size) := by simp only [ByteArray.size_append]; rfl
      rw [e] at this
      omega
  have := key c headC h
  have e : (textC c).size = (linesC c).size + 1 := by unfold textC; simp only [ByteArray.size_append]; rfl
  have e2 : headC.size = 9 := rfl
  unfold linesC at e
  omega
def textCs (cs : List (List (List ByteArray))) : ByteArray := cs.foldl (fun s c => s ++ textC c) ⟨#[]⟩
def cntC (cs : List (List (List ByteArray))) : Nat := cs.foldl (fun n c => n + c.length) 0
theorem cntC_mono : ∀ (cs : List (List (List ByteArray))) (n : Nat), n ≤ cs.foldl (fun n c => n + c.length) n
  | [], n => Nat.le_refl _
  | c :: cs, n => Nat.le_trans (Nat.le_add_right _ _) (cntC_mono cs (n + c.length))
theorem cntC_take (cs : List (List (List ByteArray))) (i : Nat) : cntC (cs.take i) ≤ cntC cs := by
  unfold cntC
  conv => rhs; rw [← List.take_append_drop i cs, List.foldl_append]
  exact cntC_mono _ _
def shortCs (cs : List (List (List ByteArray))) : Bool := cs.all fun c => shortC c && decide (c.length ≤ 4096)
theorem shortCs_at {c : List (List (List ByteArray))} (h : shortCs c = true) (p : List (List ByteArray)) (hp : p ∈ c) : shortC p = true ∧ p.length ≤ 4096 := by
  have := List.all_eq_true.1 h p hp
  simp only [Bool.and_eq_true, decide_eq_true_eq] at this
  exact this
set_option maxHeartbeats 4000000 in
set_option maxRecDepth 100000 in
theorem consText_calls (A : Option Addr) (c : Nat) (o : List (List (List ByteArray))) (w : World) (hr : Kd.C (Kd.slice 46 (Kd.slice 41 Kd.string)) w A o.length o) (hsh : shortCs o = true) (hlen : o.length ≤ 4096) (hcnt : cntC o ≤ 4096) :
    Calls Tryd.prog 51 #[.slice A o.length c] w fun e w' => e = .returned (.string (textCs o)) ∧ Below w.heap.size w w' := by
  have HR := Aside0.mk hr
  clear hr
  go_enter Tryd.func51, Tryd.ntmps51
  go_wp2
  go_loopg [3, 8] o.length (fun kq v3 v8 wr => ∃ (i : Nat) (s : ByteArray), v3 = .string s ∧ v8 = .int .i64 (i : Int) ∧ Aside0 (i + kq = o.length) ∧ Aside0 (s = textCs (o.take i)) ∧ Aside0 (s.size ≤ i * 10 + cntC (o.take i) * 140737488355329) ∧ Aside0 (Below w.heap.size w wr))
  case atStart => exact ⟨0, _, rfl, rfl, ⟨by simp⟩, ⟨rfl⟩, ⟨by simp [ByteArray.size]⟩, ⟨Below.refl _ _⟩⟩
  case round =>
    obtain ⟨i, s, rfl, rfl, HK, HV, HZ, HB⟩ := hrel
    cases gk with
    | zero =>
      have e' : (i < o.length) = False := eq_false (by have := HK.out; omega)
      go_wp2
      go_ret
      have e2 : i = o.length := by have := HK.out; omega
      exact ⟨by rw [HV.out, e2, List.take_length]; rfl, HB.out⟩
    | succ k =>
      have hi : i < o.length := by have := HK.out; omega
      obtain ⟨p, hp⟩ : ∃ p, o[i]? = some p := ⟨_, List.getElem?_eq_getElem hi⟩
      have HST : Aside0 (textCs (o.take (i + 1)) = textCs (o.take i) ++ textC p) := ⟨take_foldl' _ _ o i p hp⟩
      have HCT : Aside0 (cntC (o.take (i + 1)) = cntC (o.take i) + p.length) := ⟨take_foldl' _ _ o i p hp⟩
      have hct := cntC_take o (i + 1)
      rw [HCT.out] at hct
      have hpo := shortCs_at hsh p (List.mem_of_getElem? hp)
      obtain ⟨ad, Ap, cp, hA, h0, hcp, hCp⟩ := at_row HR.out i hi p hp
      cases hA
      replace h0 := (HB.out.cell (World.block_lt_of_cell? w _ h0)).trans h0
      have HCp := Aside0.mk (Kd.C_below hCp HB.out)
      clear hCp hcp
      have htx := textC_size p hpo.1
      have hz2 : s.size + (textC p).size ≤ 9223372036854775807 := by have := HZ.out; have := HK.out; omega
      have HTX := Aside0.mk htx
      have e' : (i < o.length) = True := eq_true hi
      clear hi htx hct
      go_wp2_with (first
        | (go_at_call 64; (with_reducible refine (conText_calls Ap cp p _ HCp.out hpo.1 hpo.2).mono ?_); rintro e w3 ⟨rfl, hb3⟩; have HB3 := Aside0.mk hb3; clear hb3)
        | go_in)
      go_roundg k
      case measure => have := HK.out; omega
      case rel => exact ⟨i + 1, _, rfl, by have := HK.out; simp [wrap64]; omega, ⟨by have := HK.out; omega⟩, ⟨by rw [HST.out, ← HV.out]⟩, ⟨by have := HZ.out; have := HTX.out; rw [HCT.out]; simp only [ByteArray.size_append]; omega⟩, ⟨below_step HB.out HB3.out⟩⟩
def impl_ConstraintsText.f (l0 : List (List (List ByteArray))) : Option ByteArray := if l0.length ≤ 4096 ∧ shortCs l0 = true ∧ cntC l0 ≤ 4096 then some (textCs l0) else none
theorem impl_ConstraintsText.calls (A0 : Option Addr) (c0 : Nat) (l0 : List (List (List ByteArray))) (r : ByteArray) (w : World) (hr0 : Kd.C (Kd.slice 24 (Kd.slice 9 Kd.string)) w A0 l0.length l0) (hc0 : l0.length ≤ c0) (h : impl_ConstraintsText.f l0 = some r) :
    Calls Tryd.prog 28 #[.slice A0 l0.length c0] w fun e w' => e = .returned (.string r) ∧ Below w.heap.size w w' := by
  unfold impl_ConstraintsText.f at h
  split at h
  case isFalse => cases h
  rename_i hg
  obtain rfl := Option.some.inj h
  obtain ⟨h1, h2, h3⟩ := hg
  have HR0 := Aside0.mk hr0
  clear hr0 h
  go_enter Tryd.func28, Tryd.ntmps28
  go_wp2_with (first
    | (go_at_call 38; (with_reducible refine (constraints_calls A0 c0 l0 _ HR0.out (by omega) (fun x hx => ⟨by have := (shortCs_at h2 x hx).2; omega, fun y hy => (shortC_at (shortCs_at h2 x hx).1 y hy).2⟩)).mono ?_); rintro e w1 ⟨v, rfl, hO, hb1⟩; obtain ⟨Ao, co, rfl⟩ := Kd.R_slice hO; have HO := Aside0.mk (Kd.R_reads' hO).2.2; have HB1 := Aside0.mk hb1; clear hO hb1)
    | (go_at_call 51; (with_reducible refine (consText_calls Ao co l0 _ HO.out h2 h1 h3).mono ?_); rintro e w3 ⟨rfl, hb3⟩)
    | go_in)
  go_ret
  exact ⟨rfl, below_step HB1.out hb3⟩
end Go.Proofs.YtlmmjchdfngdgaaDoor.Q
