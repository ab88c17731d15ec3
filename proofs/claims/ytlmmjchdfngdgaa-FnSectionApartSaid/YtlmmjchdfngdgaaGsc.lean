/- impl.Section, for every script. -/
import Derived.Test.YtlmmjchdfngdgaaGsb
import Derived.Maps.RangeWalk
namespace Go.Proofs.Ytlmmjchdfngdgaa.Q
open Go.RowKit Go.Proofs.YtlmmjchdfngdgaaW.PrintWords Go.Proofs.YtlmmjchdfngdgaaW.PrintLast Go.Proofs.YtlmmjchdfngdgaaW.PrintMore
set_option linter.unusedVariables false
set_option linter.unusedSimpArgs false

/-- One step of a script. -/
def stepS (st : List Dt × Int) (x : S39) : List Dt × Int :=
  if x.f0 = 2 then (st.1, mxI st.2 x.f2) else
  if isC x.f1.f1.f0 = true then
    (if x.f0 = 0 then (if hits st.1 x.f1.f0 (cBytes x.f1.f1.f0 x.f1.f1.f2) = true then st else (st.1 ++ [(x.f1.f0, x.f1.f1.f0, x.f1.f1.f1, x.f1.f1.f2)], mxI st.2 (wrap64 (x.f1.f0 + cBytes x.f1.f1.f0 x.f1.f1.f2))))
     else if x.f0 = 1 then (st.1 ++ [(st.2, x.f1.f1.f0, x.f1.f1.f1, x.f1.f1.f2)], mxI st.2 (wrap64 (st.2 + cBytes x.f1.f1.f0 x.f1.f1.f2))) else st)
  else st
def runS (l : List S39) : List Dt × Int := l.foldl stepS ([], 0)
theorem runS_len (l : List S39) : (runS l).1.length ≤ l.length := by
  have key : ∀ (l : List S39) (st : List Dt × Int), (l.foldl stepS st).1.length ≤ st.1.length + l.length := by
    intro l
    induction l with
    | nil => intro st; simp
    | cons x r ih =>
      intro st
      have h1 : (stepS st x).1.length ≤ st.1.length + 1 := by unfold stepS; repeat' split
                                                              all_goals simp
      have := ih (stepS st x)
      rw [List.foldl_cons, List.length_cons]; omega
  have := key l ([], 0)
  simpa [runS] using this
theorem runS_isC (l : List S39) : ∀ d ∈ (runS l).1, isC d.2.1 = true := by
  have key : ∀ (l : List S39) (st : List Dt × Int), (∀ d ∈ st.1, isC d.2.1 = true) → ∀ d ∈ (l.foldl stepS st).1, isC d.2.1 = true := by
    intro l
    induction l with
    | nil => intro st h; exact h
    | cons x r ih =>
      intro st h
      refine ih (stepS st x) ?_
      unfold stepS
      by_cases h2 : x.f0 = 2
      · rw [if_pos h2]; exact h
      rw [if_neg h2]
      by_cases hc : isC x.f1.f1.f0 = true
      · rw [if_pos hc]
        repeat' split
        all_goals first | exact h | (intro d hd; rcases List.mem_append.1 hd with hd | hd; exact h d hd; simp at hd; subst hd; exact hc)
      · rw [if_neg hc]; exact h
  exact key l ([], 0) (by simp)

/-- The section, and what has been told, under way. -/
structure Sec (w W : World) (g base : Nat) (vt : Value) (told : List Bool) (ds : List Dt) (size : Int) : Prop where
  bel : Below w.heap.size w W
  ex : ∃ vg, GAt W g vg size ∧ kDt.R 69 W base (fun k => base ≤ k) vg ds
  tr : Kd.bool.R 4 W base (fun k => base ≤ k) vt told
  bs : base ≤ W.heap.size
  g0 : w.heap.size ≤ g
  g1 : g < base
section
variable {w W W' : World} {g base : Nat} {vt : Value} {told : List Bool} {ds ds' : List Dt} {size size' : Int}
theorem Sec.below (h : Sec w W g base vt told ds size) (hb : Below W.heap.size W W') : Sec w W' g base vt told ds size := by
  obtain ⟨vg, h1, h2⟩ := h.ex
  exact ⟨below_step h.bel hb, ⟨vg, h1.below hb, Kd.R_below h2 hb⟩, Kd.R_below h.tr hb, Nat.le_trans h.bs hb.size, h.g0, h.g1⟩
theorem Sec.turned (h : Sec w W g base vt told ds size) {vg vg' : Value} (hG : GAt W g vg size) (hR : kDt.R 69 W base (fun k => base ≤ k) vg ds) (ht : Turned W W' g vg.ownBlock)
    (hG' : GAt W' g vg' size') (hR' : kDt.R 69 W' base (fun k => base ≤ k) vg' ds') : Sec w W' g base vt told ds' size' := by
  have hg0 := h.g0; have hg1 := h.g1; have hbs := h.bs
  refine ⟨h.bel.trans (ht.toBelow h.bel.size hg0 (fun k hk => by have := hR.1 k hk; omega)), ⟨vg', hG', hR'⟩, ?_, Nat.le_trans h.bs ht.size, hg0, hg1⟩
  refine Kd.R_mono (Kd.R_move (Kd.R_bound h.tr) (fun k hk => ?_)) (fun k hk => hk.1)
  obtain ⟨_, hk1, hk2, q, hq, cells, hc⟩ := hk
  refine ht.block k hk2 (by omega) (fun e => ?_)
  have hq4 : q = 4 := by simpa [Kd.bool, Kd.scalar] using hq
  obtain ⟨inner, ho⟩ := Kd.R_own hR
  obtain ⟨cells', hc'⟩ := own_typed ho k e.symm
  rw [hc] at hc'
  injection hc' with hc'
  injection hc' with _ hc'
  rw [hq4] at hc'
  exact absurd hc' (by decide)
theorem Sec.told_ (h : Sec w W g base vt told ds size) {vt' : Value} {told' : List Bool} (hg : W.grownBy W' vt.ownBlock) (ht : Kd.bool.R 4 W' base (fun k => base ≤ k) vt' told') : Sec w W' g base vt' told' ds size := by
  obtain ⟨vg, h1, h2⟩ := h.ex
  have hg0 := h.g0; have hg1 := h.g1; have hbs := h.bs
  have hne : some g ≠ vt.ownBlock := Kd.R_ne h.tr h1.at_ (by decide)
  refine ⟨h.bel.grown hg h.bel.size (fun k hk => by have := h.tr.1 k hk; omega), ⟨vg, h1.kept hg hne, ?_⟩, ht, Nat.le_trans h.bs hg.size, hg0, hg1⟩
  refine Kd.R_mono (Kd.R_move (Kd.R_bound h2) (fun k hk => ?_)) (fun k hk => hk.1)
  obtain ⟨_, hk1, hk2, q, hq, cells, hc⟩ := hk
  refine hg.block k hk2 (fun e => ?_)
  have hq4 : q = 69 := by simpa [kDt, kC, Kd.pair, Kd.int, Kd.scalar] using hq
  obtain ⟨inner, ho⟩ := Kd.R_own h.tr
  obtain ⟨cells', hc'⟩ := own_typed ho k e.symm
  rw [hc] at hc'
  injection hc' with hc'
  injection hc' with _ hc'
  rw [hq4] at hc'
  exact absurd hc' (by decide)
theorem Sec.add (h : Sec w W g base vt told ds size) (o k b : Int) (s : ByteArray) (hk : isC k = true) (hks : ∀ d ∈ ds, isC d.2.1 = true) (hl : ds.length < 1000000) :
    Calls Try.prog 38 #[.pointer (some ⟨g, 0, none⟩), .agg #[.int .i64 o, constV k b s]] W fun e w' =>
      (hits ds o (cBytes k s) = true → (∃ x, e = .returned (.iface 136 x)) ∧ Sec w w' g base vt told ds size) ∧
      (hits ds o (cBytes k s) = false → e = .returned .nilIface ∧ Sec w w' g base vt told (ds ++ [(o, k, b, s)]) (mxI size (wrap64 (o + cBytes k s)))) := by
  obtain ⟨vg, h1, h2⟩ := h.ex
  refine (addDatum_calls g base vg size ds o k b s W h1 h2 hk hks h.bs h.g1 hl).mono ?_
  rintro e w' ⟨ht, (⟨hh, he, hG, hR⟩ | ⟨hh, he, vg', hG, hR⟩)⟩
  · exact ⟨fun _ => ⟨he, h.turned h1 h2 ht hG hR⟩, (fun hf => by rw [hh] at hf; cases hf)⟩
  · exact ⟨(fun hf => by rw [hh] at hf; cases hf), fun _ => ⟨he, h.turned h1 h2 ht hG hR⟩⟩
theorem Sec.app (h : Sec w W g base vt told ds size) (k b : Int) (s : ByteArray) (hk : isC k = true) (hl : ds.length < 1000000) :
    Calls Try.prog 39 #[.pointer (some ⟨g, 0, none⟩), constV k b s] W fun e w' => e = .returned (.tuple #[]) ∧ Sec w w' g base vt told (ds ++ [(size, k, b, s)]) (mxI size (wrap64 (size + cBytes k s))) := by
  obtain ⟨vg, h1, h2⟩ := h.ex
  refine (appendC_calls g base vg size ds k b s W h1 h2 hk h.bs h.g1 hl).mono ?_
  rintro e w' ⟨he, ht, vg', hG, hR⟩
  exact ⟨he, h.turned h1 h2 ht hG hR⟩
theorem Sec.grow (h : Sec w W g base vt told ds size) (n : Int) :
    Calls Try.prog 40 #[.pointer (some ⟨g, 0, none⟩), .int .i64 n] W fun e w' => e = .returned (.tuple #[]) ∧ Sec w w' g base vt told ds (mxI size n) := by
  obtain ⟨vg, h1, h2⟩ := h.ex
  have hg1 := h.g1
  refine (growTo_calls g vg size n W h1).mono ?_
  rintro e w' ⟨he, hg, hG⟩
  exact ⟨he, h.turned h1 h2 ((Turned.refl W g _).own hg) hG (Kd.R_grown h2 hg (fun k hk e => by have := Option.some.inj e; omega))⟩
end

theorem info42 : (Try.prog.info? 4).map (fun i => (i.zero, i.size, i.bytes)) = some (some (.bool false), 1, 1) := by kernel_rfl
theorem runS_step (l : List S39) (i : Nat) (x : S39) (h : l[i]? = some x) : runS (l.take (i + 1)) = stepS (runS (l.take i)) x := by
  obtain ⟨hi, e⟩ := List.getElem?_eq_some_iff.1 h
  unfold runS
  rw [List.take_succ_eq_append_getElem hi, List.foldl_append, e]
  rfl
structure PlainOf (ds : List Dt) (out : List S35) : Prop where
  len : out.length = ds.length
  at_ : ∀ (i : Nat) (d : Dt) (p : S35), ds[i]? = some d → out[i]? = some p → p.f0 = d.1 ∧ p.f1.f0 = d.2.1 ∧ cBytes p.f1.f0 p.f1.f2 = cBytes d.2.1 d.2.2.2

set_option maxHeartbeats 8000000 in
set_option maxRecDepth 100000 in
theorem section_calls (A : Option Addr) (c : Nat) (l : List S39) (w : World) (hr : Kd.C k39 w A l.length l) (hl : l.length ≤ 2000) :
    Calls Try.prog 21 #[.slice A l.length c] w fun e w' => ∃ (vt vd : Value) (told : List Bool) (out : List S35), e = .returned (.tuple #[vt, .int .i64 (runS l).2, vd]) ∧ told.length = l.length ∧ Kd.bool.R 4 w' w.heap.size (fun _ => True) vt told ∧ k35.R 35 w' w.heap.size (fun _ => True) vd out ∧ PlainOf (runS l).1 out ∧ Below w.heap.size w w' := by
  have HR := Aside0.mk hr
  clear hr
  go_enter Try.func21, Try.ntmps21
  go_wp2_with (first
    | (go_at_call 37; (with_reducible refine (newStatic_calls _).mono ?_); rintro e w1 ⟨g, rfl, hg, hG, hb1⟩; have HS1 : Aside0 (Sec w w1 g (g + 1) (.slice none 0 0) [] [] 0) := ⟨⟨hb1, ⟨_, hG, Kd.R_nil _ _ _ _ _⟩, Kd.R_nil _ _ _ _ _, hG.lt, hg, Nat.lt_succ_self _⟩⟩; clear hG hb1)
    | go_in)
  go_loopg [2, 16] l.length (fun kq v2 v16 wr => ∃ (i : Nat) (told : List Bool), v16 = .int .i64 (i : Int) ∧ Aside0 (i + kq = l.length) ∧ Aside0 (told.length = i) ∧ Aside0 (Sec w wr g (g + 1) v2 told (runS (l.take i)).1 (runS (l.take i)).2))
  case atStart => exact ⟨0, [], rfl, ⟨by simp⟩, ⟨rfl⟩, HS1⟩
  case round =>
    obtain ⟨i, told, rfl, HK, HT, HS⟩ := hrel
    cases gk with
    | zero =>
      have hiL : i = l.length := by have := HK.out; omega
      have e' : (i < l.length) = False := eq_false (by omega)
      have hrs : runS (l.take i) = runS l := by rw [hiL, List.take_length]
      rw [hrs] at HS
      have HTl : Aside0 (told.length = l.length) := ⟨by rw [HT.out, hiL]⟩
      have HCs : Aside0 (∀ d ∈ (runS l).1, isC d.2.1 = true) := ⟨runS_isC l⟩
      have HLs : Aside0 ((runS l).1.length ≤ 2000) := ⟨Nat.le_trans (runS_len l) hl⟩
      clear hrs hiL HK HT
      obtain ⟨ds, hds⟩ : ∃ ds, ds = (runS l).1 := ⟨_, rfl⟩
      obtain ⟨size, hsz⟩ : ∃ size, size = (runS l).2 := ⟨_, rfl⟩
      rw [← hds, ← hsz] at HS
      rw [← hds] at HCs HLs
      have HDS := Aside0.mk hds
      have HSZ := Aside0.mk hsz
      clear hds hsz
      obtain ⟨wo, rfl⟩ : ∃ W, W = wr := ⟨_, rfl⟩
      obtain ⟨At, ct, rfl⟩ := Kd.R_slice HS.out.tr
      obtain ⟨vg, hG, hRd⟩ := HS.out.ex
      obtain ⟨Ag, cg, rfl⟩ := Kd.R_slice hRd
      have HG := Aside0.mk hG
      have HRd := Aside0.mk hRd
      have h3 := hG.c3
      clear hG hRd
      go_wp2
      go_loopg [4, 70] ds.length (fun kq v4 v70 wr => ∃ (j : Nat) (out : List S35), v70 = .int .i64 (j : Int) ∧ Aside0 (j + kq = ds.length) ∧ Aside0 (PlainOf (ds.take j) out) ∧ Aside0 (k35.R 35 wr wo.heap.size (fun k => wo.heap.size ≤ k) v4 out) ∧ Aside0 (Below wo.heap.size wo wr))
      case atStart => exact ⟨0, [], rfl, ⟨by simp⟩, ⟨⟨by simp, fun i d p h => by simp at h⟩⟩, ⟨Kd.R_nil _ _ _ _ _⟩, ⟨Below.refl _ _⟩⟩
      case round =>
        clear h3
        obtain ⟨j, out, rfl, HJ, HP, HO, HB2⟩ := hrel
        obtain ⟨A4, c4, rfl⟩ := Kd.R_slice HO.out
        cases gk with
        | zero =>
          have e2 : (j < ds.length) = False := eq_false (by have := HJ.out; omega)
          have h4 := (HG.out.below HB2.out).c4
          go_wp2
          go_quiet (fail)
          go_wp2
          go_ret3
          have hds := HDS.out
          have hjj : j = ds.length := by have := HJ.out; omega
          have hPl := HP.out
          rw [hjj, List.take_length, hds] at hPl
          have hbw : Below w.heap.size w wr := HS.out.bel.trans (HB2.out.mono HS.out.bel.size)
          refine ⟨_, _, told, out, by rw [← HSZ.out]; rfl, HTl.out, ?_, ?_, hPl, pw_below_drewN hbw _⟩
          · exact Kd.R_drewN (Kd.R_mono (Kd.R_lower (Kd.R_below HS.out.tr HB2.out) (by omega)) (fun _ _ => trivial)) _
          · exact Kd.R_drewN (Kd.R_mono (Kd.R_lower HO.out HS.out.bel.size) (fun _ _ => trivial)) _
        | succ kk2 =>
          have hj : j < ds.length := by have := HJ.out; omega
          obtain ⟨p, hp⟩ : ∃ p, ds[j]? = some p := ⟨_, List.getElem?_eq_getElem hj⟩
          have HPx := Aside0.mk hp
          have hkp : isC p.2.1 = true := HCs.out p (List.mem_of_getElem? hp)
          have HPC : Aside0 (∀ W, Calls Try.prog 41 #[constV p.2.1 p.2.2.1 p.2.2.2] W fun e w' => (∃ b' s', e = .returned (.agg #[.int .i64 p.2.1, .int .u64 b', .string s']) ∧ cBytes p.2.1 s' = cBytes p.2.1 p.2.2.2) ∧ Below W.heap.size W w') := ⟨fun W => plainC_calls _ _ _ W hkp⟩
          have k1 : 1 ≤ p.2.1 ∧ p.2.1 ≤ 11 := of_decide_eq_true hkp
          obtain ⟨T, y, _, hcp, _⟩ := hasBytes k1.1 k1.2 p.2.2.1 p.2.2.2
          have HOL : Aside0 (out.length ≤ 2000) := ⟨by have := HP.out.len; rw [List.length_take] at this; have := HLs.out; omega⟩
          obtain ⟨ad, hAd, q0, q1⟩ := at_Dt (Kd.R_reads' (Kd.R_below HRd.out HB2.out)).2.2 j hj p hp
          cases hAd
          unfold cV at q1
          rw [hcp] at q1 HPC
          obtain ⟨po, hpo⟩ : ∃ po, po = p.1 := ⟨_, rfl⟩
          obtain ⟨pk, hpk⟩ : ∃ pk, pk = p.2.1 := ⟨_, rfl⟩
          have HPO := Aside0.mk hpo
          have HPK := Aside0.mk hpk
          rw [← hpo] at q0
          rw [← hpk] at HPC
          have e2 : (j < ds.length) = True := eq_true hj
          clear hcp hpo hpk k1 hkp hj hp
          go_wp2
          refine start_ (n := 10) (S := fun w' => w'.cell? ⟨wr.heap.size, 0, none⟩ = some (.int .i64 po) ∧ w'.cell? ⟨wr.heap.size, 1, none⟩ = some (.iface T y)) (ds := []) #[false, false, false, false, false, false, false, false, false, false] (by kernel_rfl) rfl rfl ⟨(by simp), (by simp)⟩ (fun hHeld => ?_)
          refine pure_ (i := 0) (N := some 74) (v := ?_) (a' := ?_) #[true, false, false, false, false, false, false, false, false, false] rfl rfl (by kernel_rfl) (fun _ _ _ h => h) (Or.inl ⟨by rfl, ?_⟩) ?_ ?_
          rotate_left
          · intro w'
            go_simp
            with_reducible rfl
          rotate_left
          · simp only [Act.put, List.setIfInBounds_toArray, List.set_cons_zero, List.set_cons_succ, i64_w, i32_w]
            rfl
          refine pure_ (i := 1) (N := some 75) (v := ?_) (a' := ?_) #[true, true, false, false, false, false, false, false, false, false] rfl rfl (by kernel_rfl) (fun _ _ _ h => h) (Or.inl ⟨by rfl, ?_⟩) ?_ ?_
          rotate_left
          · intro w'
            go_simp
            with_reducible rfl
          rotate_left
          · simp only [Act.put, List.setIfInBounds_toArray, List.set_cons_zero, List.set_cons_succ, i64_w, i32_w]
            rfl
          refine pure_ (i := 3) (N := some 77) (v := ?_) (a' := ?_) #[true, true, false, true, false, false, false, false, false, false] rfl rfl (by kernel_rfl) (fun _ _ _ h => h) (Or.inl ⟨by rfl, ?_⟩) ?_ ?_
          rotate_left
          · intro w'
            go_simp
            with_reducible rfl
          rotate_left
          · simp only [Act.put, List.setIfInBounds_toArray, List.set_cons_zero, List.set_cons_succ, i64_w, i32_w]
            rfl
          refine take_ (i := 2) (N := some 76) (v := ?_) (a' := ?_) #[true, true, true, true, false, false, false, false, false, false] rfl rfl (by kernel_rfl) (fun _ _ _ h => h) (Or.inl ⟨by rfl, ?_⟩) hHeld ?_ ?_
          rotate_left
          · rintro w' ⟨s0, s1⟩
            go_simp
            with_reducible rfl
          rotate_left
          · simp only [Act.put, List.setIfInBounds_toArray, List.set_cons_zero, List.set_cons_succ, i64_w, i32_w]
            rfl
          refine take_ (i := 4) (N := some 78) (v := ?_) (a' := ?_) #[true, true, true, true, true, false, false, false, false, false] rfl rfl (by kernel_rfl) (fun _ _ _ h => h) (Or.inl ⟨by rfl, ?_⟩) hHeld ?_ ?_
          rotate_left
          · rintro w' ⟨s0, s1⟩
            go_simp
            with_reducible rfl
          rotate_left
          · simp only [Act.put, List.setIfInBounds_toArray, List.set_cons_zero, List.set_cons_succ, i64_w, i32_w]
            rfl
          refine one_ (i := 5) (N := some 79) #[true, true, true, true, true, true, false, false, false, false] rfl rfl (by kernel_rfl) (by decide) (fun K hK => ?_)
          refine goes_ Try.func41 (by kernel_rfl) rfl #[.iface T y] (by rfl) rfl rfl (by simp only [List.map_toArray, List.map_cons, List.map_nil]; rfl) ?_
          with_reducible refine ((HPC.out _)).mono ?_
          rintro e w3 ⟨⟨b', s', rfl, hcb⟩, hb3⟩
          refine ⟨_, rfl, ?_⟩
          have HX0 := Aside0.mk (pw_cell_below hb3 (show (wr.alloc (.cells #[.int .i64 po, .iface T y] 69)).drew.cell? ⟨wr.heap.size, 0, none⟩ = some (.int .i64 po) by simp))
          have HX1 := Aside0.mk (pw_cell_below hb3 (show (wr.alloc (.cells #[.int .i64 po, .iface T y] 69)).drew.cell? ⟨wr.heap.size, 1, none⟩ = some (.iface T y) by simp))
          have HB3 : Aside0 (Below wr.heap.size wr w3) := ⟨below_step (below_drew ((Below.refl wr.heap.size wr).alloc (Nat.le_refl _) (.cells #[.int .i64 po, .iface T y] 69))) hb3⟩
          clear hb3
          refine hK.out _ _ ⟨HX0.out, HX1.out⟩ (fun hHeld => ?_)
          clear hK K
          refine norm_ (a' := ?_) ?_ ?_
          rotate_left
          · show Act.put _ (some 79) _ = _
            simp only [Act.put, List.setIfInBounds_toArray, List.set_cons_zero, List.set_cons_succ, i64_w, i32_w]
            rfl
          refine pure_ (i := 6) (N := some 80) (v := ?_) (a' := ?_) #[true, true, true, true, true, true, true, false, false, false] rfl rfl (by kernel_rfl) (fun _ _ _ h => h) (Or.inl ⟨by rfl, ?_⟩) ?_ ?_
          rotate_left
          · intro w'
            go_simp
            with_reducible rfl
          rotate_left
          · simp only [Act.put, List.setIfInBounds_toArray, List.set_cons_zero, List.set_cons_succ, i64_w, i32_w]
            rfl
          refine one_ (i := 7) (N := some 81) #[true, true, true, true, true, true, true, true, false, false] rfl rfl (by kernel_rfl) (by decide) (fun K hK => ?_)
          refine value_ (w1 := ?_) (v := ?_) (by rfl) rfl ?_ ?_
          rotate_left 2
          · go_simp
            constructor
            · rfl
            · rfl
          refine hK.out _ _ ⟨(pw_cell_below ((Below.refl _ _).alloc (Nat.le_refl _) _) HX0.out), (pw_cell_below ((Below.refl _ _).alloc (Nat.le_refl _) _) HX1.out)⟩ (fun hHeld => ?_)
          clear hK K
          refine norm_ (a' := ?_) ?_ ?_
          rotate_left
          · show Act.put _ (some 81) _ = _
            simp only [Act.put, List.setIfInBounds_toArray, List.set_cons_zero, List.set_cons_succ, i64_w, i32_w]
            rfl
          refine one_ (i := 8) (N := some 82) #[true, true, true, true, true, true, true, true, true, false] rfl rfl (by kernel_rfl) (by decide) (fun K hK => ?_)
          refine Kd.R_append_step k35 (w0 := w3) wo.heap.size (by rfl) (.tmp 74) (.tmp 81) 43 35 (.agg #[(.int .i64 0), (.int .i64 0), (.int .u64 0), (.string ⟨#[]⟩)]) 40 rfl Try.underlying43 info35 rfl (by decide) (by decide) (.slice A4 out.length c4) out ⟨po, ⟨pk, b', s'⟩⟩ [.int .i64 po, .int .i64 pk, .int .u64 b', .string s'] (fun k => wo.heap.size ≤ k) (fun _ => False) rfl rfl (k35_mkM _ _ _ (⟨po, ⟨pk, b', s'⟩⟩ : S35)) (fun _ hk => hk.elim) (fun k hk => Nat.le_trans (Nat.le_trans HB2.out.size HB3.out.size) hk) (Kd.R_below HO.out HB3.out) (Below.refl _ _) (Nat.le_trans HB2.out.size HB3.out.size) (by have := HOL.out; show (out.length + 1) * 40 ≤ 140737488355328; omega) ?_
          intro v7 w7 ho7 hb7 hg7 hat7
          have HO7 := Aside0.mk ho7
          have HG7 := Aside0.mk hg7
          have hob : ∀ k, (Value.slice A4 out.length c4).ownBlock = some k → wo.heap.size ≤ k ∧ k < wr.heap.size := fun k hk => ⟨HO.out.1 k hk, Kd.R_lt HO.out k hk⟩
          have hkp : ∀ (j : Nat) (u : Value), w3.cell? ⟨wr.heap.size, j, none⟩ = some u → w7.cell? ⟨wr.heap.size, j, none⟩ = some u := fun j u h => (World.cell?_of_block (a := ⟨wr.heap.size, j, none⟩) (HG7.out.block _ (World.block_lt_of_cell? _ _ h) (fun e => by have := (hob wr.heap.size e.symm).2; omega))).trans h
          clear ho7 hb7 hg7 hat7
          refine hK.out _ _ ⟨(hkp 0 _ HX0.out), (hkp 1 _ HX1.out)⟩ (fun hHeld => ?_)
          clear hK K
          refine norm_ (a' := ?_) ?_ ?_
          rotate_left
          · show Act.put _ (some 82) _ = _
            simp only [Act.put, List.setIfInBounds_toArray, List.set_cons_zero, List.set_cons_succ, i64_w, i32_w]
            rfl
          refine pure_ (i := 9) (N := some 4) (v := ?_) (a' := ?_) #[true, true, true, true, true, true, true, true, true, true] rfl rfl (by kernel_rfl) (fun _ _ _ h => h) (Or.inl ⟨by rfl, ?_⟩) ?_ ?_
          rotate_left
          · intro w'
            go_simp
            with_reducible rfl
          rotate_left
          · simp only [Act.put, List.setIfInBounds_toArray, List.set_cons_zero, List.set_cons_succ, i64_w, i32_w]
            rfl
          refine done_ (by kernel_rfl) ?_


          (try simp only [Exit.inBlock, Exit.then])
          go_wp2
          go_roundg kk2
          case measure => have := HJ.out; omega
          case rel =>
            refine ⟨j + 1, out ++ [⟨po, ⟨pk, b', s'⟩⟩], by have := HJ.out; have := HLs.out; simp [wrap64]; try omega, ⟨by have := HJ.out; omega⟩, ⟨?_⟩, HO7, ⟨?_⟩⟩
            · have hp := HPx.out
              obtain ⟨hjl, hpe⟩ := List.getElem?_eq_some_iff.1 hp
              have hlen := HP.out.len
              rw [List.length_take] at hlen
              refine ⟨by rw [List.length_append, List.length_singleton, List.length_take]; omega, fun q d r hd hr => ?_⟩
              by_cases hq : q < j
              · have hd2 : (ds.take j)[q]? = some d := by rw [List.getElem?_take_of_lt hq]; rw [List.getElem?_take_of_lt (by omega)] at hd; exact hd
                have hr2 : out[q]? = some r := by rw [List.getElem?_append_left (by omega)] at hr; exact hr
                exact HP.out.at_ q d r hd2 hr2
              · have hq2 : q = j := by
                  have := (List.getElem?_eq_some_iff.1 hd).1
                  rw [List.length_take] at this; omega
                subst hq2
                rw [List.getElem?_take_of_lt (by omega), hp] at hd
                cases hd
                rw [List.getElem?_append_right (by omega), show q - out.length = 0 by omega] at hr
                cases hr
                refine ⟨HPO.out, HPK.out, ?_⟩
                show cBytes pk s' = _
                rw [← HPK.out]; exact hcb
            · exact (HB2.out.trans (HB3.out.mono HB2.out.size)).grown HG7.out (by have := HB2.out.size; have := HB3.out.size; omega) (fun k hk => (hob k hk).1)
    | succ kk =>
      have hi : i < l.length := by have := HK.out; omega
      obtain ⟨x, hx⟩ : ∃ x, l[i]? = some x := ⟨_, List.getElem?_eq_getElem hi⟩
      have hrd : rd_T39 l (i : Int) = x := by unfold rd_T39; simp [List.getD, hx]
      have HST := Aside0.mk (runS_step l i x hx)
      have HCs : Aside0 (∀ d ∈ (runS (l.take i)).1, isC d.2.1 = true) := ⟨runS_isC _⟩
      have HLs : Aside0 ((runS (l.take i)).1.length < 1000000) := ⟨by have := runS_len (l.take i); rw [List.length_take] at this; omega⟩
      obtain ⟨ad, rfl, h0, h1, h2, h3, h4, h5⟩ := at_T39 HR.out (i : Int) (by omega) (by omega)
      rw [Int.toNat_natCast, hrd] at h0 h1 h2 h3 h4 h5
      replace h0 := (HS.out.bel.cell (World.block_lt_of_cell? w _ h0)).trans h0
      replace h1 := (HS.out.bel.cell (World.block_lt_of_cell? w _ h1)).trans h1
      replace h2 := (HS.out.bel.cell (World.block_lt_of_cell? w _ h2)).trans h2
      replace h3 := (HS.out.bel.cell (World.block_lt_of_cell? w _ h3)).trans h3
      replace h4 := (HS.out.bel.cell (World.block_lt_of_cell? w _ h4)).trans h4
      replace h5 := (HS.out.bel.cell (World.block_lt_of_cell? w _ h5)).trans h5
      have e' : (i < l.length) = True := eq_true hi
      clear hi hx hrd
      obtain ⟨xd, ⟨xo, ⟨xk, xb, xs⟩⟩, xz⟩ := x
      simp only at h0 h1 h2 h3 h4 h5
      obtain ⟨⟨ds, size⟩, hst⟩ : ∃ st, st = runS (l.take i) := ⟨_, rfl⟩
      rw [← hst] at HS HST HCs HLs
      clear hst
      simp only at HS HCs HLs
      obtain ⟨cv, hcv⟩ : ∃ v, v = constV xk xb xs := ⟨_, rfl⟩
      have HCV := Aside0.mk hcv
      clear hcv
      obtain ⟨At, ct, rfl⟩ := Kd.R_slice HS.out.tr
      have HTL : Aside0 (told.length ≤ 2000) := ⟨by have := HK.out; have := HT.out; omega⟩
      have H39 : ∀ (W : World), Sec w W g (g + 1) (.slice At told.length ct) told ds size → isC xk = true → Calls Try.prog 39 #[.pointer (some ⟨g, 0, none⟩), cv] W fun e w' => e = .returned (.tuple #[]) ∧ Sec w w' g (g + 1) (.slice At told.length ct) told (ds ++ [(size, xk, xb, xs)]) (mxI size (wrap64 (size + cBytes xk xs))) := fun W h hk => by rw [HCV.out]; exact h.app xk xb xs hk HLs.out
      have H38 : ∀ (W : World), Sec w W g (g + 1) (.slice At told.length ct) told ds size → isC xk = true → Calls Try.prog 38 #[.pointer (some ⟨g, 0, none⟩), .agg #[.int .i64 xo, cv]] W fun e w' => (hits ds xo (cBytes xk xs) = true → (∃ x, e = .returned (.iface 136 x)) ∧ Sec w w' g (g + 1) (.slice At told.length ct) told ds size) ∧
          (hits ds xo (cBytes xk xs) = false → e = .returned .nilIface ∧ Sec w w' g (g + 1) (.slice At told.length ct) told (ds ++ [(xo, xk, xb, xs)]) (mxI size (wrap64 (xo + cBytes xk xs)))) := fun W h hk => by rw [HCV.out]; exact h.add xo xk xb xs hk HCs.out HLs.out
      cases hC : isC xk with
      | false =>
        clear H38 H39
        by_cases c2 : xd = 2
        · subst c2
          go_wp2_with (first
            | (go_at_call 31; (with_reducible refine (constant_calls _ _ _ _).mono ?_); rintro e w3 ⟨rfl, hb3⟩; rw [hC, ← HCV.out]; have HSF := Aside0.mk (HS.out.below (below_step ((Below.refl _ _).alloc (Nat.le_refl _) _) hb3)); obtain ⟨hc3, hf3⟩ := bcell hb3; clear hb3)
            | (go_at_call 40; (with_reducible refine (HSF.out.grow _).mono ?_); rintro e w5 ⟨rfl, hs5⟩; clear HSF; have HSF := Aside0.mk hs5; clear hs5)
            | ((with_reducible refine gate_builtin (b := .append) (xs := #[.tmp 60, .tmp 62]) rfl ?_); at_builtin; refine Kd.R_append Kd.bool (w0 := w5) (g + 1) rfl (.tmp 60) (.tmp 62) 42 4 (.bool false) 1 rfl Try.underlying42 info42 rfl (by decide) (by decide) (.slice At told.length ct) told true [.bool true] (fun k => g + 1 ≤ k) (fun _ => False) rfl rfl rfl (fun _ hk => hk.elim) (fun k hk => Nat.le_trans HSF.out.bs hk) HSF.out.tr (Below.refl _ _) HSF.out.bs (by have := HTL.out; omega) ?_; intro v6 w6 ho6 hb6 hg6 hat6; have HSE := Aside0.mk (HSF.out.told_ hg6 ho6); clear ho6 hb6 hg6 hat6; go_frame)
            | go_in)
          go_roundg kk
          case measure => have := HK.out; omega
          case rel => exact ⟨i + 1, told ++ [true], by have := HK.out; simp [wrap64]; try omega, ⟨by have := HK.out; omega⟩, ⟨by rw [List.length_append, HT.out]; rfl⟩, ⟨by rw [HST.out, show stepS (ds, size) _ = (ds, mxI size xz) from by unfold stepS; simp]; exact HSE.out⟩⟩
        · by_cases c0 : xd = 0
          · subst c0
            go_wp2_with (first
              | (go_at_call 31; (with_reducible refine (constant_calls _ _ _ _).mono ?_); rintro e w3 ⟨rfl, hb3⟩; rw [hC, ← HCV.out]; have HSF := Aside0.mk (HS.out.below (below_step ((Below.refl _ _).alloc (Nat.le_refl _) _) hb3)); obtain ⟨hc3, hf3⟩ := bcell hb3; clear hb3)
              | ((with_reducible refine gate_builtin (b := .append) (xs := #[.tmp 60, .tmp 62]) rfl ?_); at_builtin; refine Kd.R_append Kd.bool (w0 := w3) (g + 1) rfl (.tmp 60) (.tmp 62) 42 4 (.bool false) 1 rfl Try.underlying42 info42 rfl (by decide) (by decide) (.slice At told.length ct) told false [.bool false] (fun k => g + 1 ≤ k) (fun _ => False) rfl rfl rfl (fun _ hk => hk.elim) (fun k hk => Nat.le_trans HSF.out.bs hk) HSF.out.tr (Below.refl _ _) HSF.out.bs (by have := HTL.out; omega) ?_; intro v6 w6 ho6 hb6 hg6 hat6; have HSE := Aside0.mk (HSF.out.told_ hg6 ho6); clear ho6 hb6 hg6 hat6; go_frame)
              | go_in)
            go_roundg kk
            case measure => have := HK.out; omega
            case rel => exact ⟨i + 1, told ++ [false], by have := HK.out; simp [wrap64]; try omega, ⟨by have := HK.out; omega⟩, ⟨by rw [List.length_append, HT.out]; rfl⟩, ⟨by rw [HST.out, show stepS (ds, size) _ = (ds, size) from by unfold stepS; simp [hC]]; exact HSE.out⟩⟩
          · by_cases c1 : xd = 1
            · subst c1
              go_wp2_with (first
                | (go_at_call 31; (with_reducible refine (constant_calls _ _ _ _).mono ?_); rintro e w3 ⟨rfl, hb3⟩; rw [hC, ← HCV.out]; have HSF := Aside0.mk (HS.out.below (below_step ((Below.refl _ _).alloc (Nat.le_refl _) _) hb3)); obtain ⟨hc3, hf3⟩ := bcell hb3; clear hb3)
                | ((with_reducible refine gate_builtin (b := .append) (xs := #[.tmp 60, .tmp 62]) rfl ?_); at_builtin; refine Kd.R_append Kd.bool (w0 := w3) (g + 1) rfl (.tmp 60) (.tmp 62) 42 4 (.bool false) 1 rfl Try.underlying42 info42 rfl (by decide) (by decide) (.slice At told.length ct) told false [.bool false] (fun k => g + 1 ≤ k) (fun _ => False) rfl rfl rfl (fun _ hk => hk.elim) (fun k hk => Nat.le_trans HSF.out.bs hk) HSF.out.tr (Below.refl _ _) HSF.out.bs (by have := HTL.out; omega) ?_; intro v6 w6 ho6 hb6 hg6 hat6; have HSE := Aside0.mk (HSF.out.told_ hg6 ho6); clear ho6 hb6 hg6 hat6; go_frame)
                | go_in)
              go_roundg kk
              case measure => have := HK.out; omega
              case rel => exact ⟨i + 1, told ++ [false], by have := HK.out; simp [wrap64]; try omega, ⟨by have := HK.out; omega⟩, ⟨by rw [List.length_append, HT.out]; rfl⟩, ⟨by rw [HST.out, show stepS (ds, size) _ = (ds, size) from by unfold stepS; simp [hC]]; exact HSE.out⟩⟩
            · have d0 : (xd == 0) = false := by simpa using c0
              have d1 : (xd == 1) = false := by simpa using c1
              have d2 : (xd == 2) = false := by simpa using c2
              go_wp2_with (first
                | (go_at_call 31; (with_reducible refine (constant_calls _ _ _ _).mono ?_); rintro e w3 ⟨rfl, hb3⟩; rw [hC, ← HCV.out]; have HSF := Aside0.mk (HS.out.below (below_step ((Below.refl _ _).alloc (Nat.le_refl _) _) hb3)); obtain ⟨hc3, hf3⟩ := bcell hb3; clear hb3)
                | ((with_reducible refine gate_builtin (b := .append) (xs := #[.tmp 60, .tmp 62]) rfl ?_); at_builtin; refine Kd.R_append Kd.bool (w0 := w3) (g + 1) rfl (.tmp 60) (.tmp 62) 42 4 (.bool false) 1 rfl Try.underlying42 info42 rfl (by decide) (by decide) (.slice At told.length ct) told false [.bool false] (fun k => g + 1 ≤ k) (fun _ => False) rfl rfl rfl (fun _ hk => hk.elim) (fun k hk => Nat.le_trans HSF.out.bs hk) HSF.out.tr (Below.refl _ _) HSF.out.bs (by have := HTL.out; omega) ?_; intro v6 w6 ho6 hb6 hg6 hat6; have HSE := Aside0.mk (HSF.out.told_ hg6 ho6); clear ho6 hb6 hg6 hat6; go_frame)
                | go_in)
              go_roundg kk
              case measure => have := HK.out; omega
              case rel => exact ⟨i + 1, told ++ [false], by have := HK.out; simp [wrap64]; try omega, ⟨by have := HK.out; omega⟩, ⟨by rw [List.length_append, HT.out]; rfl⟩, ⟨by rw [HST.out, show stepS (ds, size) _ = (ds, size) from by unfold stepS; simp [hC, c2]]; exact HSE.out⟩⟩
      | true =>
        replace H38 := fun W h => H38 W h hC
        replace H39 := fun W h => H39 W h hC
        have hcvI : ∃ T y, cv = .iface T y := by
          have k1 : 1 ≤ xk ∧ xk ≤ 11 := of_decide_eq_true hC
          obtain ⟨T, y, _, h, _⟩ := hasBytes k1.1 k1.2 xb xs
          exact ⟨T, y, HCV.out.trans h⟩
        obtain ⟨T, y, rfl⟩ := hcvI
        by_cases c2 : xd = 2
        · subst c2
          go_wp2_with (first
            | (go_at_call 31; (with_reducible refine (constant_calls _ _ _ _).mono ?_); rintro e w3 ⟨rfl, hb3⟩; rw [hC, ← HCV.out]; have HSF := Aside0.mk (HS.out.below (below_step ((Below.refl _ _).alloc (Nat.le_refl _) _) hb3)); obtain ⟨hc3, hf3⟩ := bcell hb3; clear hb3)
            | (go_at_call 40; (with_reducible refine (HSF.out.grow _).mono ?_); rintro e w5 ⟨rfl, hs5⟩; clear HSF; have HSF := Aside0.mk hs5; clear hs5)
            | ((with_reducible refine gate_builtin (b := .append) (xs := #[.tmp 60, .tmp 62]) rfl ?_); at_builtin; refine Kd.R_append Kd.bool (w0 := w5) (g + 1) rfl (.tmp 60) (.tmp 62) 42 4 (.bool false) 1 rfl Try.underlying42 info42 rfl (by decide) (by decide) (.slice At told.length ct) told true [.bool true] (fun k => g + 1 ≤ k) (fun _ => False) rfl rfl rfl (fun _ hk => hk.elim) (fun k hk => Nat.le_trans HSF.out.bs hk) HSF.out.tr (Below.refl _ _) HSF.out.bs (by have := HTL.out; omega) ?_; intro v6 w6 ho6 hb6 hg6 hat6; have HSE := Aside0.mk (HSF.out.told_ hg6 ho6); clear ho6 hb6 hg6 hat6; go_frame)
            | go_in)
          go_roundg kk
          case measure => have := HK.out; omega
          case rel => exact ⟨i + 1, told ++ [true], by have := HK.out; simp [wrap64]; try omega, ⟨by have := HK.out; omega⟩, ⟨by rw [List.length_append, HT.out]; rfl⟩, ⟨by rw [HST.out, show stepS (ds, size) _ = (ds, mxI size xz) from by unfold stepS; simp]; exact HSE.out⟩⟩
        · by_cases c0 : xd = 0
          · subst c0
            cases hH : hits ds xo (cBytes xk xs) with
            | true =>
              go_wp2_with (first
                | (go_at_call 31; (with_reducible refine (constant_calls _ _ _ _).mono ?_); rintro e w3 ⟨rfl, hb3⟩; rw [hC, ← HCV.out]; have HSF := Aside0.mk (HS.out.below (below_step ((Below.refl _ _).alloc (Nat.le_refl _) _) hb3)); obtain ⟨hc3, hf3⟩ := bcell hb3; clear hb3)
                | (go_at_call 33; (with_reducible refine (newDatum _ _ _ ⟨_, _, rfl⟩).mono ?_); rintro e w4 ⟨rfl, hb4⟩; have HSG := Aside0.mk (HSF.out.below hb4); clear HSF hb4; have HSF := HSG; clear HSG)
                | (go_at_call 38; (with_reducible refine (H38 _ HSF.out).mono ?_); rintro e w5 h5; obtain ⟨⟨xe, rfl⟩, hs5⟩ := h5.1 hH; clear h5; clear HSF; have HSF := Aside0.mk hs5; clear hs5)
                | ((with_reducible refine gate_builtin (b := .append) (xs := #[.tmp 60, .tmp 62]) rfl ?_); at_builtin; refine Kd.R_append Kd.bool (w0 := w5) (g + 1) rfl (.tmp 60) (.tmp 62) 42 4 (.bool false) 1 rfl Try.underlying42 info42 rfl (by decide) (by decide) (.slice At told.length ct) told false [.bool false] (fun k => g + 1 ≤ k) (fun _ => False) rfl rfl rfl (fun _ hk => hk.elim) (fun k hk => Nat.le_trans HSF.out.bs hk) HSF.out.tr (Below.refl _ _) HSF.out.bs (by have := HTL.out; omega) ?_; intro v6 w6 ho6 hb6 hg6 hat6; have HSE := Aside0.mk (HSF.out.told_ hg6 ho6); clear ho6 hb6 hg6 hat6; go_frame)
                | go_in)
              go_roundg kk
              case measure => have := HK.out; omega
              case rel => exact ⟨i + 1, told ++ [false], by have := HK.out; simp [wrap64]; try omega, ⟨by have := HK.out; omega⟩, ⟨by rw [List.length_append, HT.out]; rfl⟩, ⟨by rw [HST.out, show stepS (ds, size) _ = (ds, size) from by unfold stepS; simp [hC, hH]]; exact HSE.out⟩⟩
            | false =>
              go_wp2_with (first
                | (go_at_call 31; (with_reducible refine (constant_calls _ _ _ _).mono ?_); rintro e w3 ⟨rfl, hb3⟩; rw [hC, ← HCV.out]; have HSF := Aside0.mk (HS.out.below (below_step ((Below.refl _ _).alloc (Nat.le_refl _) _) hb3)); obtain ⟨hc3, hf3⟩ := bcell hb3; clear hb3)
                | (go_at_call 33; (with_reducible refine (newDatum _ _ _ ⟨_, _, rfl⟩).mono ?_); rintro e w4 ⟨rfl, hb4⟩; have HSG := Aside0.mk (HSF.out.below hb4); clear HSF hb4; have HSF := HSG; clear HSG)
                | (go_at_call 38; (with_reducible refine (H38 _ HSF.out).mono ?_); rintro e w5 h5; obtain ⟨rfl, hs5⟩ := h5.2 hH; clear h5; clear HSF; have HSF := Aside0.mk hs5; clear hs5)
                | ((with_reducible refine gate_builtin (b := .append) (xs := #[.tmp 60, .tmp 62]) rfl ?_); at_builtin; refine Kd.R_append Kd.bool (w0 := w5) (g + 1) rfl (.tmp 60) (.tmp 62) 42 4 (.bool false) 1 rfl Try.underlying42 info42 rfl (by decide) (by decide) (.slice At told.length ct) told true [.bool true] (fun k => g + 1 ≤ k) (fun _ => False) rfl rfl rfl (fun _ hk => hk.elim) (fun k hk => Nat.le_trans HSF.out.bs hk) HSF.out.tr (Below.refl _ _) HSF.out.bs (by have := HTL.out; omega) ?_; intro v6 w6 ho6 hb6 hg6 hat6; have HSE := Aside0.mk (HSF.out.told_ hg6 ho6); clear ho6 hb6 hg6 hat6; go_frame)
                | go_in)
              go_roundg kk
              case measure => have := HK.out; omega
              case rel => exact ⟨i + 1, told ++ [true], by have := HK.out; simp [wrap64]; try omega, ⟨by have := HK.out; omega⟩, ⟨by rw [List.length_append, HT.out]; rfl⟩, ⟨by rw [HST.out, show stepS (ds, size) _ = (ds ++ [(xo, xk, xb, xs)], mxI size (wrap64 (xo + cBytes xk xs))) from by unfold stepS; simp [hC, hH]]; exact HSE.out⟩⟩
          · by_cases c1 : xd = 1
            · subst c1
              go_wp2_with (first
                | (go_at_call 31; (with_reducible refine (constant_calls _ _ _ _).mono ?_); rintro e w3 ⟨rfl, hb3⟩; rw [hC, ← HCV.out]; have HSF := Aside0.mk (HS.out.below (below_step ((Below.refl _ _).alloc (Nat.le_refl _) _) hb3)); obtain ⟨hc3, hf3⟩ := bcell hb3; clear hb3)
                | (go_at_call 39; (with_reducible refine (H39 _ HSF.out).mono ?_); rintro e w5 ⟨rfl, hs5⟩; clear HSF; have HSF := Aside0.mk hs5; clear hs5)
                | ((with_reducible refine gate_builtin (b := .append) (xs := #[.tmp 60, .tmp 62]) rfl ?_); at_builtin; refine Kd.R_append Kd.bool (w0 := w5) (g + 1) rfl (.tmp 60) (.tmp 62) 42 4 (.bool false) 1 rfl Try.underlying42 info42 rfl (by decide) (by decide) (.slice At told.length ct) told true [.bool true] (fun k => g + 1 ≤ k) (fun _ => False) rfl rfl rfl (fun _ hk => hk.elim) (fun k hk => Nat.le_trans HSF.out.bs hk) HSF.out.tr (Below.refl _ _) HSF.out.bs (by have := HTL.out; omega) ?_; intro v6 w6 ho6 hb6 hg6 hat6; have HSE := Aside0.mk (HSF.out.told_ hg6 ho6); clear ho6 hb6 hg6 hat6; go_frame)
                | go_in)
              go_roundg kk
              case measure => have := HK.out; omega
              case rel => exact ⟨i + 1, told ++ [true], by have := HK.out; simp [wrap64]; try omega, ⟨by have := HK.out; omega⟩, ⟨by rw [List.length_append, HT.out]; rfl⟩, ⟨by rw [HST.out, show stepS (ds, size) _ = (ds ++ [(size, xk, xb, xs)], mxI size (wrap64 (size + cBytes xk xs))) from by unfold stepS; simp [hC]]; exact HSE.out⟩⟩
            · have d0 : (xd == 0) = false := by simpa using c0
              have d1 : (xd == 1) = false := by simpa using c1
              have d2 : (xd == 2) = false := by simpa using c2
              go_wp2_with (first
                | (go_at_call 31; (with_reducible refine (constant_calls _ _ _ _).mono ?_); rintro e w3 ⟨rfl, hb3⟩; rw [hC, ← HCV.out]; have HSF := Aside0.mk (HS.out.below (below_step ((Below.refl _ _).alloc (Nat.le_refl _) _) hb3)); obtain ⟨hc3, hf3⟩ := bcell hb3; clear hb3)
                | ((with_reducible refine gate_builtin (b := .append) (xs := #[.tmp 60, .tmp 62]) rfl ?_); at_builtin; refine Kd.R_append Kd.bool (w0 := w3) (g + 1) rfl (.tmp 60) (.tmp 62) 42 4 (.bool false) 1 rfl Try.underlying42 info42 rfl (by decide) (by decide) (.slice At told.length ct) told false [.bool false] (fun k => g + 1 ≤ k) (fun _ => False) rfl rfl rfl (fun _ hk => hk.elim) (fun k hk => Nat.le_trans HSF.out.bs hk) HSF.out.tr (Below.refl _ _) HSF.out.bs (by have := HTL.out; omega) ?_; intro v6 w6 ho6 hb6 hg6 hat6; have HSE := Aside0.mk (HSF.out.told_ hg6 ho6); clear ho6 hb6 hg6 hat6; go_frame)
                | go_in)
              go_roundg kk
              case measure => have := HK.out; omega
              case rel => exact ⟨i + 1, told ++ [false], by have := HK.out; simp [wrap64]; try omega, ⟨by have := HK.out; omega⟩, ⟨by rw [List.length_append, HT.out]; rfl⟩, ⟨by rw [HST.out, show stepS (ds, size) _ = (ds, size) from by unfold stepS; simp [hC, c0, c1, c2]]; exact HSE.out⟩⟩
end Go.Proofs.Ytlmmjchdfngdgaa.Q
