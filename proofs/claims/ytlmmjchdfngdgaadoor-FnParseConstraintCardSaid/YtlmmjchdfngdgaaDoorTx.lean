/- Contracts of texts: Option.GoString, OptionText. -/
import Derived.Test.YtlmmjchdfngdgaaDoorTe
namespace Go.Proofs.YtlmmjchdfngdgaaDoor.Q
open Go.RowKit Go.Maps Go.Proofs.YtlmmjchdfngdgaaDoorW.PrintWords Go.Proofs.YtlmmjchdfngdgaaDoorW.PrintLast Go.Proofs.YtlmmjchdfngdgaaDoorW.PrintMore
set_option linter.unusedVariables false
set_option linter.unusedSimpArgs false

theorem info9' : (Tryd.prog.info? 9).map (fun i => (i.zero, i.size, i.bytes)) = some (some (.string ⟨#[]⟩), 1, 16) := by kernel_rfl
def textO (o : List ByteArray) : ByteArray := ⟨(Lib.join (o.map (·.data.toList)) [44]).toArray⟩
def shortO (o : List ByteArray) : Bool := decide ((Lib.join (o.map (·.data.toList)) [44]).length ≤ 140737488355328)
theorem str_calls (s : ByteArray) (w : World) : Calls Tryd.prog 58 #[.string s] w fun e w' => e = .returned (.string s) ∧ w' = w := by
  go_enter Tryd.func58, Tryd.ntmps58
  go_wp2
  go_ret
  exact ⟨rfl, rfl⟩

set_option maxHeartbeats 4000000 in
set_option maxRecDepth 100000 in
theorem optText_calls (A : Option Addr) (c : Nat) (l : List ByteArray) (w : World) (hr : Kd.C Kd.string w A l.length l) (hlen : l.length < 4294967296) (hsh : shortO l = true) :
    Calls Tryd.prog 42 #[.slice A l.length c] w fun e w' => e = .returned (.string (textO l)) ∧ Below w.heap.size w w' := by
  have HR := Aside0.mk hr
  clear hr
  go_enter Tryd.func42, Tryd.ntmps42
  go_wp2
  go_loopg [3, 8] l.length (fun kq v3 v8 wr => ∃ i : Nat, v8 = .int .i64 (i : Int) ∧ Aside0 (i + kq = l.length) ∧ Aside0 (Kd.string.R 9 wr w.heap.size (fun k => w.heap.size ≤ k) v3 (l.take i)) ∧ Aside0 (Below w.heap.size w wr))
  case atStart => exact ⟨0, rfl, ⟨by simp⟩, ⟨Kd.R_nil _ _ _ _ _⟩, ⟨Below.refl _ _⟩⟩
  case round =>
    obtain ⟨i, rfl, HK, HO, HB⟩ := hrel
    cases gk with
    | zero =>
      have e' : (i < l.length) = False := eq_false (by have := HK.out; omega)
      have e2 : i = l.length := by have := HK.out; omega
      have hO := HO.out
      rw [e2, List.take_length] at hO
      have hC := hO
      obtain ⟨A3, c3, rfl⟩ := Kd.R_slice hO
      by_cases hl0 : l = []
      · subst hl0
        go_wp2_with (first
          | (go_at_call 59; (with_reducible refine (Tryd.strings_Join_none _ _ _ _).mono ?_); rintro e w3 ⟨rfl, hw⟩; obtain rfl := hw.symm; clear hw)
          | go_in)
        go_ret
        exact ⟨rfl, HB.out⟩
      · have hne : l.length ≠ 0 := fun h => hl0 (List.eq_nil_of_length_eq_zero h)
        clear hl0
        have hCr := (Kd.R_reads' hC).2
        obtain ⟨_, inner, hown, _⟩ := hC
        rcases hown.2 with ⟨_, hn0⟩ | ⟨g, cap, cur, hv, hgb, hheap, _⟩
        · exact absurd hn0 hne
        have hA3 : A3 = some ⟨g, 0, none⟩ := by injection hv
        subst hA3
        have hg : g < wr.heap.size := (Array.getElem?_eq_some_iff.1 hheap).1
        have hcells : ∀ (j : Nat) x, l[j]? = some x → wr.cell? ⟨g, 0 + j, none⟩ = some (.string x) := fun j x hx => by
          obtain ⟨ad, hA, h0⟩ := at_str hCr.2 j (List.getElem?_eq_some_iff.1 hx).1 x hx
          cases hA
          rcases Nat.eq_zero_or_pos j with e | e
          · subst e; simpa [Addr.add] using h0
          · have hj : ¬ j = 0 := by omega
            simpa [Addr.add, hj] using h0
        have HJ : Aside0 (Calls Tryd.prog 59 #[.slice (some ⟨g, 0, none⟩) l.length c3, .string ⟨#[44]⟩] wr fun e w' => e = .returned (.string (textO l)) ∧ Below wr.heap.size wr w') := ⟨Tryd.strings_Join g 0 c3 l ⟨#[44]⟩ wr hcells hg (by omega) hCr.1 (of_decide_eq_true hsh)⟩
        clear hcells hown hheap hCr hO
        go_wp2_with (first
          | (go_at_call 59; (with_reducible refine HJ.out.mono ?_); rintro e w3 ⟨rfl, hb3⟩)
          | go_in)
        go_ret
        exact ⟨rfl, HB.out.trans (hb3.mono HB.out.size)⟩
    | succ k =>
      have hi : i < l.length := by have := HK.out; omega
      obtain ⟨p, hp⟩ : ∃ p, l[i]? = some p := ⟨_, List.getElem?_eq_getElem hi⟩
      have HTK : Aside0 (l.take (i + 1) = l.take i ++ [p]) := ⟨by obtain ⟨h1, h2⟩ := List.getElem?_eq_some_iff.1 hp; rw [List.take_succ_eq_append_getElem h1, h2]⟩
      have HTL : Aside0 ((l.take i).length = i) := ⟨by rw [List.length_take]; omega⟩
      obtain ⟨li, hli⟩ : ∃ li, li = l.take i := ⟨_, rfl⟩
      rw [← hli] at HO HTK HTL
      clear hli
      obtain ⟨ad, hA, h0⟩ := at_str HR.out i hi p hp
      cases hA
      replace h0 := (HB.out.cell (World.block_lt_of_cell? w _ h0)).trans h0
      obtain ⟨A3, c3, rfl⟩ := Kd.R_slice HO.out
      have e' : (i < l.length) = True := eq_true hi
      have hob : ∀ q, (Value.slice A3 li.length c3).ownBlock = some q → w.heap.size ≤ q := HO.out.1
      clear hi
      go_wp2_with (first
        | (go_at_call 58; (with_reducible refine (str_calls _ _).mono ?_); rintro e w3 ⟨rfl, hw⟩; obtain rfl := hw.symm; clear hw)
        | ((with_reducible refine gate_builtin (b := .append) (xs := #[.tmp 12, .tmp 15]) rfl ?_); at_builtin; refine Kd.R_append Kd.string (w0 := wr) w.heap.size rfl (.tmp 12) (.tmp 15) 24 9 (.string ⟨#[]⟩) 16 rfl Tryd.underlying24 info9' rfl (by decide) (by decide) (.slice A3 li.length c3) li p [.string p] (fun k => w.heap.size ≤ k) (fun _ => False) rfl rfl rfl (fun _ hk => hk.elim) (fun k hk => Nat.le_trans HB.out.size hk) HO.out (Below.refl _ _) HB.out.size (by have := HTL.out; have := HK.out; omega) ?_; intro v6 w6 ho6 hb6 hg6 hat6; have HO6 := Aside0.mk ho6; have HG6 := Aside0.mk hg6; clear ho6 hb6 hg6 hat6; go_frame)
        | go_in)
      go_roundg k
      case measure => have := HK.out; omega
      case rel =>
        exact ⟨i + 1, by have := HK.out; simp [wrap64]; omega, ⟨by have := HK.out; omega⟩, ⟨by rw [HTK.out]; exact HO6.out⟩, ⟨HB.out.grown HG6.out HB.out.size hob⟩⟩

def impl_OptionText.f (l0 : List ByteArray) : Option ByteArray := if l0.length < 4294967296 ∧ shortO l0 = true then some (textO l0) else none
theorem impl_OptionText.calls (A0 : Option Addr) (c0 : Nat) (l0 : List ByteArray) (r : ByteArray) (w : World) (hr0 : Kd.C Kd.string w A0 l0.length l0) (hc0 : l0.length ≤ c0) (h : impl_OptionText.f l0 = some r) :
    Calls Tryd.prog 19 #[.slice A0 l0.length c0] w fun e w' => e = .returned (.string r) ∧ Below w.heap.size w w' := by
  unfold impl_OptionText.f at h
  split at h
  case isFalse => cases h
  rename_i hg
  obtain rfl := Option.some.inj h
  obtain ⟨h1, h2⟩ := hg
  have HR0 := Aside0.mk hr0
  clear hr0 h
  go_enter Tryd.func19, Tryd.ntmps19
  go_wp2_with (first
    | (go_at_call 34; (with_reducible refine (option_calls A0 c0 l0 _ HR0.out h1).mono ?_); rintro e w1 ⟨v, rfl, hO, hb1⟩; obtain ⟨Ao, co, rfl⟩ := Kd.R_slice hO; have HO := Aside0.mk (Kd.R_reads' hO).2.2; have HB1 := Aside0.mk hb1; clear hO hb1)
    | (go_at_call 42; (with_reducible refine (optText_calls Ao co l0 _ HO.out h1 h2).mono ?_); rintro e w3 ⟨rfl, hb3⟩)
    | go_in)
  go_ret
  exact ⟨rfl, below_step HB1.out hb3⟩
end Go.Proofs.YtlmmjchdfngdgaaDoor.Q
