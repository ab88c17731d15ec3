/- Contracts of parsing: impl.ParseConstraint. -/
import Derived.Test.YtlmmjchdfngdgaaDoorTq
namespace Go.Proofs.YtlmmjchdfngdgaaDoor.Q
open Go.RowKit Go.Maps Go.Proofs.YtlmmjchdfngdgaaDoorW.PrintWords Go.Proofs.YtlmmjchdfngdgaaDoorW.PrintLast Go.Proofs.YtlmmjchdfngdgaaDoorW.PrintMore Go.Proofs.YtlmmjchdfngdgaaDoor.Pure
set_option linter.unusedVariables false
set_option linter.unusedSimpArgs false
theorem plain_ev (l : List ByteArray) (hl : l.length < 8796093022208) : Pure.Ev (fun k => R.impl_plainOption.f k l) l := by
  unfold R.impl_plainOption.f
  have key : ∀ (d i : Nat), l.length - i = d → i ≤ l.length → Pure.Ev (fun k => R.impl_plainOption.l0 k (l.take i) l (l.length : Int) (i : Int)) l := by
    intro d
    induction d with
    | zero =>
      intro i hd hi
      obtain rfl : i = l.length := by omega
      rw [List.take_length]
      refine Pure.Ev.step (g := fun _ => some l) (fun k => ?_) (Pure.Ev.const _)
      simp only [R.impl_plainOption.l0]; rw [if_neg (by omega)]
    | succ d ih =>
      intro i hd hi
      have hi' : i < l.length := by omega
      refine Pure.Ev.step (g := fun k => R.impl_plainOption.l0 k (l.take (i + 1)) l (l.length : Int) ((i + 1 : Nat) : Int)) (fun k => ?_) (ih (i + 1) (by omega) (by omega))
      simp only [R.impl_plainOption.l0]
      have e : rdOf ByteArray.empty l (i : Int) = l[i] := by unfold rdOf; simp [List.getD, List.getElem?_eq_getElem hi']
      rw [if_pos (by omega), if_pos (by omega), if_pos (by omega), if_pos (by rw [List.length_take]; omega), e, w64 i (by omega), List.take_succ_eq_append_getElem hi']
  have := key l.length 0 (by omega) (by omega)
  rwa [List.take_zero] at this
theorem plain_calls (A : Option Addr) (c : Nat) (l : List ByteArray) (w : World) (hr : Kd.C Kd.string w A l.length l) (hc : l.length ≤ c) (hl : l.length < 4294967296) :
    Calls Tryd.prog 44 #[.slice A l.length c] w fun e w' => ∃ v, e = .returned v ∧ Kd.string.R 9 w' w.heap.size (fun k => w.heap.size ≤ k) v l ∧ Below w.heap.size w w' := by
  obtain ⟨k, hk⟩ := plain_ev l (by omega)
  exact (R.impl_plainOption.calls k A c l _ w hr hc (hk k (Nat.le_refl k))).mono fun e w' ⟨v, h1, h2, h3⟩ => ⟨v, h1, Kd.R_reok rfl h2 (fun q hq => Kd.R_base h2 q hq), h3⟩
theorem info24q : (Tryd.prog.info? 24).map (fun i => (i.zero, i.size, i.bytes)) = some (some (.slice none 0 0), 1, 24) := by kernel_rfl
theorem parseC_at : ∀ (l : List ByteArray) (o : List ByteArray), o ∈ (parseC l).1 → ∃ f ∈ l, o = splitB f
  | [], o, h => by simp [parseC] at h
  | f :: t, o, h => by
    unfold parseC at h
    split at h
    · rcases List.mem_cons.1 h with rfl | h
      · exact ⟨f, .head _, rfl⟩
      · obtain ⟨g, h1, h2⟩ := parseC_at t o h
        exact ⟨g, .tail _ h1, h2⟩
    · cases h
set_option maxHeartbeats 4000000 in
set_option maxRecDepth 100000 in
theorem implParse_calls (s : ByteArray) (w : World) (hP : Tabs w) (hS : SpaceT w) (ha : asciiB s = true) (hs : s.size < 4294967200) :
    Calls Tryd.prog 22 #[.string s] w fun e w' => ∃ A c, e = .returned (.tuple #[.slice A (parseC (fsB s)).1.length c, .bool (parseC (fsB s)).2]) ∧ (parseC (fsB s)).1.length ≤ c ∧ Kd.C (Kd.slice 9 Kd.string) w' A (parseC (fsB s)).1.length (parseC (fsB s)).1 ∧ Below w.heap.size w w' := by
  have hpc := parse_calls s w hP hS ha hs
  have hlen : (parseC (fsB s)).1.length ≤ 4294967200 := by have := fsB_len s; have := parseC_len (fsB s); omega
  have hin : ∀ o ∈ (parseC (fsB s)).1, o.length < 4294967296 := fun o ho => by
    obtain ⟨f, hf, rfl⟩ := parseC_at _ o ho
    have h1 := (fsB_mem s ha hf).2
    have h2 := splitB_len f
    omega
  obtain ⟨pc, hq⟩ : ∃ p, p = parseC (fsB s) := ⟨_, rfl⟩
  rw [← hq] at hpc hlen hin ⊢
  obtain ⟨l, b⟩ := pc
  clear hq hP hS ha hs
  simp only at hpc hlen hin ⊢
  have HPC := Aside0.mk hpc
  have HIN := Aside0.mk hin
  have HLEN := Aside0.mk hlen
  clear hpc hin hlen
  cases b with
  | true =>
    go_enter Tryd.func22, Tryd.ntmps22
    go_wp2_with (first
      | (go_at_call 43; (with_reducible refine HPC.out.mono ?_); rintro e w3 ⟨v4, x4, rfl, hx, _, hO, hb⟩; obtain rfl := hx rfl; clear hx; obtain ⟨A4, c4, rfl⟩ := Kd.R_slice hO; have HO4 := Aside0.mk hO; have HB3 := Aside0.mk hb; clear hO hb HPC)
      | go_in)
    go_loopg [2, 15] l.length (fun kq v2 v15 wr => ∃ i : Nat, v15 = .int .i64 (i : Int) ∧ Aside0 (i + kq = l.length) ∧ Aside0 ((Kd.slice 9 Kd.string).R 24 wr w3.heap.size (fun k => w3.heap.size ≤ k) v2 (l.take i)) ∧ Aside0 (Below w3.heap.size w3 wr))
    case atStart => exact ⟨0, rfl, ⟨by simp⟩, ⟨Kd.R_nil _ _ _ _ _⟩, ⟨Below.refl _ _⟩⟩
    case round =>
      obtain ⟨i, rfl, HK, HO, HB⟩ := hrel
      cases gk with
      | zero =>
        have e' : (i < l.length) = False := eq_false (by have := HK.out; omega)
        obtain ⟨A2, c2, rfl⟩ := Kd.R_slice HO.out
        go_wp2
        try go_quiet (fail)
        try go_wp2
        go_ret2
        have e2 : i = l.length := by have := HK.out; omega
        have h := HO.out
        rw [e2, List.take_length] at h
        obtain ⟨_, h2, h3⟩ := Kd.R_reads' h
        rw [e2, List.take_length]
        refine ⟨_, _, rfl, h2, Kd.C_below h3 ?_, below_step HB3.out ?_⟩
        all_goals repeat (first | exact HB.out | exact Below.refl _ _ | apply pw_below_drewN | apply below_drew1 | apply below_alloc)
      | succ k =>
        have hi : i < l.length := by have := HK.out; omega
        obtain ⟨p, hp⟩ : ∃ p, l[i]? = some p := ⟨_, List.getElem?_eq_getElem hi⟩
        have HTK : Aside0 (l.take (i + 1) = l.take i ++ [p]) := ⟨by obtain ⟨h1, h2⟩ := List.getElem?_eq_some_iff.1 hp; rw [List.take_succ_eq_append_getElem h1, h2]⟩
        have HTL : Aside0 ((l.take i).length = i) := ⟨by rw [List.length_take]; omega⟩
        obtain ⟨li, hli⟩ : ∃ li, li = l.take i := ⟨_, rfl⟩
        rw [← hli] at HO HTK HTL
        clear hli
        have hpin := HIN.out p (List.mem_of_getElem? hp)
        obtain ⟨ad, Ap, cp, hA, h0, hcp, hCp⟩ := at_row (Kd.R_reads' HO4.out).2.2 i hi p hp
        cases hA
        replace h0 := (HB.out.cell (World.block_lt_of_cell? w3 _ h0)).trans h0
        have HCp := Aside0.mk (Kd.C_below hCp HB.out)
        obtain ⟨A2, c2, rfl⟩ := Kd.R_slice HO.out
        have e' : (i < l.length) = True := eq_true hi
        have hob : ∀ q, (Value.slice A2 li.length c2).ownBlock = some q → w3.heap.size ≤ q ∧ q < wr.heap.size := fun q hq => ⟨HO.out.1 q hq, Kd.R_lt HO.out q hq⟩
        clear hi hCp
        go_wp2_with (first
          | (go_at_call 44; (with_reducible refine (plain_calls Ap cp p _ HCp.out hcp hpin).mono ?_); rintro e w5 ⟨vx, rfl, hX, hb5⟩; have HX := Aside0.mk hX; have HB5 := Aside0.mk hb5; obtain ⟨Ax, cx, rfl⟩ := Kd.R_slice hX; clear hX hb5)
          | ((with_reducible refine gate_builtin (b := .append) (xs := #[.tmp 19, .tmp 22]) rfl ?_); at_builtin; refine Kd.R_append (Kd.slice 9 Kd.string) (w0 := w5) w3.heap.size rfl (.tmp 19) (.tmp 22) 23 24 (.slice none 0 0) 24 rfl Tryd.underlying23 info24q rfl (by decide) (by decide) (.slice A2 li.length c2) li p [.slice Ax p.length cx] (fun k => w3.heap.size ≤ k) (fun k => wr.heap.size ≤ k) rfl rfl ⟨_, rfl, Kd.R_lower HX.out HB.out.size⟩ (fun q hq => ⟨Nat.le_trans HB.out.size hq, fun e => by have := (hob q e.symm).2; omega⟩) (fun k hk => Nat.le_trans (Nat.le_trans HB.out.size HB5.out.size) hk) (Kd.R_below HO.out HB5.out) (Below.refl _ _) (Nat.le_trans HB.out.size HB5.out.size) (by have := HTL.out; have := HK.out; have := HLEN.out; omega) ?_; intro v6 w6 ho6 hb6 hg6 hat6; have HO6 := Aside0.mk ho6; have HG6 := Aside0.mk hg6; clear ho6 hb6 hg6 hat6; go_frame)
          | go_in)
        go_roundg k
        case measure => have := HK.out; omega
        case rel =>
          exact ⟨i + 1, by have := HK.out; have := HLEN.out; simp [wrap64]; omega, ⟨by have := HK.out; omega⟩, ⟨by rw [HTK.out]; exact HO6.out⟩, ⟨(below_step HB.out HB5.out).grown HG6.out (Nat.le_trans HB.out.size HB5.out.size) (fun q hq => (hob q hq).1)⟩⟩
  | false =>
    go_enter Tryd.func22, Tryd.ntmps22
    go_wp2_with (first
      | (go_at_call 43; (with_reducible refine HPC.out.mono ?_); rintro e w3 ⟨v4, x4, rfl, _, hx, hO, hb⟩; obtain ⟨y4, rfl⟩ := hx rfl; clear hx; obtain ⟨A4, c4, rfl⟩ := Kd.R_slice hO; have HO4 := Aside0.mk hO; have HB3 := Aside0.mk hb; clear hO hb HPC)
      | go_in)
    go_loopg [2, 15] l.length (fun kq v2 v15 wr => ∃ i : Nat, v15 = .int .i64 (i : Int) ∧ Aside0 (i + kq = l.length) ∧ Aside0 ((Kd.slice 9 Kd.string).R 24 wr w3.heap.size (fun k => w3.heap.size ≤ k) v2 (l.take i)) ∧ Aside0 (Below w3.heap.size w3 wr))
    case atStart => exact ⟨0, rfl, ⟨by simp⟩, ⟨Kd.R_nil _ _ _ _ _⟩, ⟨Below.refl _ _⟩⟩
    case round =>
      obtain ⟨i, rfl, HK, HO, HB⟩ := hrel
      cases gk with
      | zero =>
        have e' : (i < l.length) = False := eq_false (by have := HK.out; omega)
        obtain ⟨A2, c2, rfl⟩ := Kd.R_slice HO.out
        go_wp2
        try go_quiet (fail)
        try go_wp2
        go_ret2
        have e2 : i = l.length := by have := HK.out; omega
        have h := HO.out
        rw [e2, List.take_length] at h
        obtain ⟨_, h2, h3⟩ := Kd.R_reads' h
        rw [e2, List.take_length]
        refine ⟨_, _, rfl, h2, Kd.C_below h3 ?_, below_step HB3.out ?_⟩
        all_goals repeat (first | exact HB.out | exact Below.refl _ _ | apply pw_below_drewN | apply below_drew1 | apply below_alloc)
      | succ k =>
        have hi : i < l.length := by have := HK.out; omega
        obtain ⟨p, hp⟩ : ∃ p, l[i]? = some p := ⟨_, List.getElem?_eq_getElem hi⟩
        have HTK : Aside0 (l.take (i + 1) = l.take i ++ [p]) := ⟨by obtain ⟨h1, h2⟩ := List.getElem?_eq_some_iff.1 hp; rw [List.take_succ_eq_append_getElem h1, h2]⟩
        have HTL : Aside0 ((l.take i).length = i) := ⟨by rw [List.length_take]; omega⟩
        obtain ⟨li, hli⟩ : ∃ li, li = l.take i := ⟨_, rfl⟩
        rw [← hli] at HO HTK HTL
        clear hli
        have hpin := HIN.out p (List.mem_of_getElem? hp)
        obtain ⟨ad, Ap, cp, hA, h0, hcp, hCp⟩ := at_row (Kd.R_reads' HO4.out).2.2 i hi p hp
        cases hA
        replace h0 := (HB.out.cell (World.block_lt_of_cell? w3 _ h0)).trans h0
        have HCp := Aside0.mk (Kd.C_below hCp HB.out)
        obtain ⟨A2, c2, rfl⟩ := Kd.R_slice HO.out
        have e' : (i < l.length) = True := eq_true hi
        have hob : ∀ q, (Value.slice A2 li.length c2).ownBlock = some q → w3.heap.size ≤ q ∧ q < wr.heap.size := fun q hq => ⟨HO.out.1 q hq, Kd.R_lt HO.out q hq⟩
        clear hi hCp
        go_wp2_with (first
          | (go_at_call 44; (with_reducible refine (plain_calls Ap cp p _ HCp.out hcp hpin).mono ?_); rintro e w5 ⟨vx, rfl, hX, hb5⟩; have HX := Aside0.mk hX; have HB5 := Aside0.mk hb5; obtain ⟨Ax, cx, rfl⟩ := Kd.R_slice hX; clear hX hb5)
          | ((with_reducible refine gate_builtin (b := .append) (xs := #[.tmp 19, .tmp 22]) rfl ?_); at_builtin; refine Kd.R_append (Kd.slice 9 Kd.string) (w0 := w5) w3.heap.size rfl (.tmp 19) (.tmp 22) 23 24 (.slice none 0 0) 24 rfl Tryd.underlying23 info24q rfl (by decide) (by decide) (.slice A2 li.length c2) li p [.slice Ax p.length cx] (fun k => w3.heap.size ≤ k) (fun k => wr.heap.size ≤ k) rfl rfl ⟨_, rfl, Kd.R_lower HX.out HB.out.size⟩ (fun q hq => ⟨Nat.le_trans HB.out.size hq, fun e => by have := (hob q e.symm).2; omega⟩) (fun k hk => Nat.le_trans (Nat.le_trans HB.out.size HB5.out.size) hk) (Kd.R_below HO.out HB5.out) (Below.refl _ _) (Nat.le_trans HB.out.size HB5.out.size) (by have := HTL.out; have := HK.out; have := HLEN.out; omega) ?_; intro v6 w6 ho6 hb6 hg6 hat6; have HO6 := Aside0.mk ho6; have HG6 := Aside0.mk hg6; clear ho6 hb6 hg6 hat6; go_frame)
          | go_in)
        go_roundg k
        case measure => have := HK.out; omega
        case rel =>
          exact ⟨i + 1, by have := HK.out; have := HLEN.out; simp [wrap64]; omega, ⟨by have := HK.out; omega⟩, ⟨by rw [HTK.out]; exact HO6.out⟩, ⟨(below_step HB.out HB5.out).grown HG6.out (Nat.le_trans HB.out.size HB5.out.size) (fun q hq => (hob q hq).1)⟩⟩
end Go.Proofs.YtlmmjchdfngdgaaDoor.Q
