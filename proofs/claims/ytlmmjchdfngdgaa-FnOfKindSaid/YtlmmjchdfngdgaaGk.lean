import Derived.Test.YtlmmjchdfngdgaaGka
namespace Go.Proofs.Ytlmmjchdfngdgaa.Q
open Go.RowKit Go.Maps Go.Proofs.YtlmmjchdfngdgaaW.PrintWords Go.Proofs.YtlmmjchdfngdgaaW.PrintLast Go.Proofs.YtlmmjchdfngdgaaW.PrintMore
set_option linter.unusedVariables false


theorem zero22 (W : World) : (zeroValue 22).run Try.prog W = .ok (.int .u16 0) W := by kernel_rfl
theorem kind_calls (x : Int) (w : World) : Calls Try.prog 65 #[.int .u32 x] w fun e w' => e = .returned (.int .u8 ((x / 256) % 256)) ∧ w' = w := by
  go_enter Try.func65, Try.ntmps65
  go_wp2
  go_ret
  exact ⟨rfl, rfl⟩

theorem and_zero16 (m : Int) (h : wfe m = true) : Go.bits .and .u16 0 m = 0 := by
  have := of_decide_eq_true h
  show IntKind.u16.wrap (((0#16 : BitVec 16) &&& BitVec.ofInt 16 m).toNat : Int) = 0
  rw [BitVec.zero_and]; rfl
theorem or_zero16 (m : Int) (h : wfe m = true) : Go.bits .or .u16 0 m = m := by
  have := of_decide_eq_true h
  show IntKind.u16.wrap (((0#16 : BitVec 16) ||| BitVec.ofInt 16 m).toNat : Int) = m
  rw [BitVec.zero_or, BitVec.toNat_ofInt]
  simp [IntKind.wrap, IntKind.signed, IntKind.bits]
  omega

set_option maxHeartbeats 4000000 in
/-- MaskSet.Add at a key that is not there. -/
theorem add_calls (b n : Nat) (D : DataW Unit) (x m : Int) (w : World) (hD : w.ownsMap Try.prog 129 (plainElem Try.prog 22) b n D) (hx : wfk x = true) (hm : wfe m = true) (hh : Maps.has D (.int .u32 x) = false) (hn : n < 8589934592) :
    Calls Try.prog 66 #[.map (some b), .int .u32 x, .int .u16 m] w fun e w' => (∃ r, e = .returned (.bool r)) ∧ w.grownBy w' (some b) ∧ w'.ownsMap Try.prog 129 (plainElem Try.prog 22) b (n + 1) (if m = 0 then D else D.put (.int .u32 x) (.lit (.int .u16 m))) := by
  have HD := Aside0.mk hD
  have ha := and_zero16 m hm
  have ho := or_zero16 m hm
  by_cases c : m = 0
  · subst c
    rw [if_pos rfl]
    go_enter Try.func66, Try.ntmps66
    go_wp2_with (first
      | (at_lookup; refine wpList_lookup_own_int _ rfl _ _ 99 rfl 129 22 .u16 key129 Try.underlying99 Try.underlying22 (zero22 _) b _ D rfl HD.out _ _ rfl (keyOf_int_mk Try.underlying129 (wf32 hx)) ?_; intro c' hat' hwc'; have ecc : c' = 0 := (by rw [atKey_of_not_has hh] at hat'; injection hat' with e1; injection e1 with e2 e3; exact e3.symm); clear hat' hwc'; subst ecc)
      | go_in)
    go_ret
    exact ⟨⟨_, rfl⟩, ⟨rfl, rfl, rfl, Nat.le_refl _, fun _ _ _ => rfl⟩, HD.out.mono (by omega)⟩
  · rw [if_neg c]
    have c' : ¬ (0 : Int) = m := fun e => c e.symm
    go_enter Try.func66, Try.ntmps66
    go_wp2_with (first
      | (at_lookup; refine wpList_lookup_own_int _ rfl _ _ 99 rfl 129 22 .u16 key129 Try.underlying99 Try.underlying22 (zero22 _) b _ D rfl HD.out _ _ rfl (keyOf_int_mk Try.underlying129 (wf32 hx)) ?_; intro c' hat' hwc'; have ecc : c' = 0 := (by rw [atKey_of_not_has hh] at hat'; injection hat' with e1; injection e1 with e2 e3; exact e3.symm); clear hat' hwc'; subst ecc)
      | (at_mapUpdate; refine wpList_mapUpdate_own _ rfl _ _ _ 99 rfl 129 22 key129 Try.underlying99 _ b _ _ rfl HD.out (by simp only [maxLen]; omega) _ _ _ rfl rfl (keyOf_int_mk Try.underlying129 (wf32 hx)) _ [] (plainElem_int Try.underlying22 (wf16 hm)) ?_; intro w2 hm2 hg2; go_frame)
      | go_in)
    go_ret
    exact ⟨⟨_, rfl⟩, hg2, hm2⟩

/-- Does the entry stay, asked for kind kd? -/
def keepE (kd : Int) (D : DataW Unit) : Lit → Bool
  | .int .u32 x => match D.atKey (.int .u32 x) .nil with
    | .lit (.int .u16 c) => decide ((x / 256) % 256 = kd ∧ c ≠ 0)
    | _ => false
  | _ => false
theorem keepE_at {kd : Int} {D : DataW Unit} {x c : Int} (h : ∀ z, D.atKey (.int .u32 x) z = .lit (.int .u16 c)) : keepE kd D (.int .u32 x) = decide ((x / 256) % 256 = kd ∧ c ≠ 0) := by
  unfold keepE; simp only [h]
structure Sift (keep : Lit → Bool) (D : DataW Unit) (left : Lit → Bool) (X : DataW Unit) : Prop where
  has : ∀ k, Maps.has X k = (Maps.has D k && !left k && keep k)
  at_ : ∀ k z, Maps.has X k = true → X.atKey k z = D.atKey k z
theorem sift_start (keep : Lit → Bool) (D : DataW Unit) : Sift keep D (Maps.has D) (.map []) := ⟨fun k => by cases h : Maps.has D k <;> simp [has_eq], fun k z h => by simp [has_eq] at h⟩
theorem sift_keep {keep : Lit → Bool} {D X : DataW Unit} {left : Lit → Bool} {x : Int} {d : DataW Unit} (h : Sift keep D left X) (hm : IsMap X) (hat : ∀ z, D.atKey (.int .u32 x) z = d) (hke : keep (.int .u32 x) = true) :
    Sift keep D (fun z => left z && !z.sameKey (.int .u32 x)) (X.put (.int .u32 x) d) := by
  have hk : WideAt.IsKeyLit (.int .u32 x) := trivial
  have hnew : ∀ k, k ≠ .int .u32 x → (left k && !k.sameKey (.int .u32 x)) = left k := fun k e => by rw [sameKey_ne e]; simp
  have hD := has_true_of_atKey hat
  refine ⟨fun k => ?_, fun k z hk' => ?_⟩
  · by_cases e : k = .int .u32 x
    · subst e; rw [has_put_same hm hk, hD, hke, WideAt.sameKey_self hk]; simp
    · show _ = (_ && !(left k && !k.sameKey (.int .u32 x)) && _)
      rw [has_put_other e, h.has, hnew k e]
  · by_cases e : k = .int .u32 x
    · subst e; rw [atKey_put_same hm hk, hat]
    · rw [has_put_other e] at hk'; rw [atKey_put_other e]; exact h.at_ k z hk'
theorem sift_drop {keep : Lit → Bool} {D X : DataW Unit} {left : Lit → Bool} {x : Int} (h : Sift keep D left X) (hke : keep (.int .u32 x) = false) :
    Sift keep D (fun z => left z && !z.sameKey (.int .u32 x)) X := by
  have hnew : ∀ k, k ≠ .int .u32 x → (left k && !k.sameKey (.int .u32 x)) = left k := fun k e => by rw [sameKey_ne e]; simp
  refine ⟨fun k => ?_, h.at_⟩
  by_cases e : k = .int .u32 x
  · subst e; rw [h.has, hke]; simp
  · show _ = (_ && !(left k && !k.sameKey (.int .u32 x)) && _)
    rw [h.has, hnew k e]

set_option maxHeartbeats 4000000 in
set_option maxRecDepth 100000 in
theorem maskOfKind_calls (b n : Nat) (kd : Int) (D : DataW Unit) (w : World) (hD : w.ownsMap Try.prog 129 (plainElem Try.prog 22) b n D) (hn : n < 4294967296) :
    Calls Try.prog 50 #[.map (some b), .int .u8 kd] w fun e w' => ∃ b' X, e = .returned (.map (some b')) ∧ w'.ownsMap Try.prog 129 (plainElem Try.prog 22) b' n X ∧ Sift (keepE kd D) D (fun _ => false) X ∧ Below w.heap.size w w' := by
  have hbl := hD.lt
  have hcnt : Maps.size D ≤ n := hD.size_le
  go_enter Try.func50, Try.ntmps50
  go_wp2_with (first
    | (go_at_call 64; (with_reducible refine (newMasks_calls _).mono ?_); rintro e w1 ⟨rfl, rfl⟩)
    | (at_range; refine wpList_range_own _ rfl _ 99 rfl 129 22 key129 Try.underlying99 _ b n _ rfl (hD.alloc _) ?_; intro w0 hrg0 hg0 hs0)
    | go_in)
  go_frame
  have e1 : (w.alloc (.map #[] 0)).heap.size = w.heap.size + 1 := by simp
  rw [e1] at hrg0 hs0 ⊢
  have HX0 := Aside0.mk ((World.ownsMap_made (H := Unit) w Try.prog 129 (plainElem Try.prog 22)).kept hg0 (by simp))
  have HRG := Aside0.mk hrg0
  have HB0 := Aside0.mk (((Below.refl w.heap.size w).alloc (Nat.le_refl _) (.map #[] 0)).grown hg0 (by simp) (fun j hj => by cases hj))
  have HS := Aside0.mk hs0
  clear hrg0 hg0 hs0
  go_loopw [6, 7] (fun _ _ wr => ∃ (left : Lit → Bool) (cnt : Nat) (X : DataW Unit), wr.ranges Try.prog 129 (plainElem Try.prog 22) b (w.heap.size + 1) n D left cnt ∧ cnt ≤ Maps.size D ∧
      wr.ownsMap Try.prog 129 (plainElem Try.prog 22) w.heap.size (Maps.size D - cnt) X ∧ Sift (keepE kd D) D left X ∧ Below w.heap.size w wr)
    (fun _ _ wr => wr.rangeLeft b (w.heap.size + 1))
  case atStart =>
    exact ⟨_, _, .map [], HRG.out, Nat.le_refl _, HX0.out.mono (Nat.zero_le _), sift_start _ D, HB0.out⟩
  case round =>
    obtain ⟨left, cnt, X, hrg, hcs, hX, hS, hbw⟩ := hrel
    go_wp2_with (first
      | (at_next; refine wpList_next_ranges_ii _ rfl _ rfl 129 22 .u32 .u16 key129 Try.underlying129 Try.underlying22 b (w.heap.size + 1) n _ _ _ rfl hrg ?_ ?_)
      | go_in)
    · intro hc0 hl0
      go_wp2
      go_ret
      subst hc0
      have el : left = fun _ => false := funext hl0
      rw [el] at hS
      exact ⟨_, X, rfl, hX.mono (by omega), hS, hbw⟩
    · intro x c w1 cnt1 hwx hwc hlx hat hrg1 hlt hg1 hs1 hen
      have HX1 := Aside0.mk (hX.kept hg1 (by simp))
      have HRG1 := Aside0.mk hrg1
      have HB1 := Aside0.mk (hbw.grown hg1 hbw.size (fun j hj => by cases hj; exact Nat.le_succ _))
      have hh : Maps.has X (.int .u32 x) = false := by rw [hS.has, hlx]; simp
      clear hrg1
      by_cases ck : (x / 256) % 256 = kd
      · go_wp2_with (first
          | (go_at_call 65; (with_reducible refine (kind_calls _ _).mono ?_); rintro e w2 ⟨rfl, rfl⟩; rw [ck])
          | (go_at_call 66; (with_reducible refine (add_calls w.heap.size _ X x c _ HX1.out (of_wf32 hwx) (of_wf16 hwc) hh (by omega)).mono ?_); rintro e w2 ⟨⟨r, rfl⟩, hg2, hm2⟩; have HG2 := Aside0.mk hg2; have HM2 := Aside0.mk hm2; clear hg2 hm2)
          | go_in)
        have hrg2 := HRG1.out.kept HG2.out (fun e => by have := Option.some.inj e; omega) (fun e => by have := Option.some.inj e; omega)
        refine ⟨⟨_, cnt1, _, hrg2, by omega, HM2.out.mono (by omega), ?_, HB1.out.grown HG2.out (by have := HB1.out.size; omega) (fun j hj => by cases hj; exact Nat.le_refl _)⟩, ?_⟩
        · by_cases c0 : c = 0
          · rw [if_pos c0]
            exact sift_drop hS (by rw [keepE_at hat]; simp [c0])
          · rw [if_neg c0]
            exact sift_keep hS hX.isMap hat (by rw [keepE_at hat]; simp [c0, ck])
        · rw [hrg2.left_eq, hrg.left_eq]; exact hlt
      · go_wp2_with (first
          | (go_at_call 65; (with_reducible refine (kind_calls _ _).mono ?_); rintro e w2 ⟨rfl, rfl⟩)
          | go_in)
        refine ⟨⟨_, cnt1, X, HRG1.out, by omega, HX1.out.mono (by omega), sift_drop hS (by rw [keepE_at hat]; simp [ck]), HB1.out⟩, ?_⟩
        rw [HRG1.out.left_eq, hrg.left_eq]; exact hlt

/-! ### the plain function -/
def plainL (l : List S95) : List (Int × Int) := l.foldl (fun r p => insP p.f0 p.f1 r) []
theorem fold_plainL : ∀ (l : List S95) (D : DataW Unit) (r : List (Int × Int)), IsMap D → Plain .u16 D r → IsMap (l.foldl putL D) ∧ Plain .u16 (l.foldl putL D) (l.foldl (fun r p => insP p.f0 p.f1 r) r)
  | [], D, r, hm, h => ⟨hm, h⟩
  | p :: l, D, r, hm, h => fold_plainL l _ _ (hm.put _ _) (plain_put hm h p.f0 p.f1)
theorem plainL_spec (l : List S95) : Plain .u16 (mapL l) (plainL l) := (fold_plainL l _ _ isMap_empty (plain_empty _)).2
def keepB (kd : Int) (p : Int × Int) : Bool := decide ((p.1 / 256) % 256 = kd ∧ p.2 ≠ 0)
theorem plain_sift {kd : Int} {D X : DataW Unit} {r s : List (Int × Int)} (hD : Plain .u16 D r) (hX : Plain .u16 X s) (hS : Sift (keepE kd D) D (fun _ => false) X) : s = r.filter (keepB kd) := by
  refine sorted_ext _ _ hX.sorted (hD.sorted.filter _) (fun p => ⟨fun hp => ?_, fun hp => ?_⟩)
  · have h1 := (hX.mem p.1).1 ⟨p.2, hp⟩
    have h2 := hS.has (.int .u32 p.1)
    rw [h1] at h2
    have h3 : Maps.has D (.int .u32 p.1) = true ∧ keepE kd D (.int .u32 p.1) = true := by simpa using h2.symm
    obtain ⟨c, hc⟩ := (hD.mem p.1).2 h3.1
    have e1 := hX.val p hp .nil
    have e2 := hD.val _ hc .nil
    rw [hS.at_ _ _ h1, e2] at e1
    injection e1 with e1; injection e1 with _ e1
    have e3 : p = (p.1, c) := Prod.ext rfl e1.symm
    rw [keepE_at (hD.val _ hc)] at h3
    rw [e3, List.mem_filter]
    exact ⟨hc, h3.2⟩
  · obtain ⟨h1, h2⟩ := List.mem_filter.1 hp
    have h3 := (hD.mem p.1).1 ⟨p.2, h1⟩
    have h4 : Maps.has X (.int .u32 p.1) = true := by
      rw [hS.has, h3, keepE_at (hD.val _ h1)]
      simpa [keepB] using h2
    obtain ⟨c, hc⟩ := (hX.mem p.1).2 h4
    have e1 := hD.val p h1 .nil
    have e2 := hX.val _ hc .nil
    rw [hS.at_ _ _ h4, e1] at e2
    injection e2 with e2; injection e2 with _ e2
    have e3 : p = (p.1, c) := Prod.ext rfl e2
    rw [e3]; exact hc

def okL (l : List S95) : Bool := l.all fun p => wfk p.f0 && wfe p.f1
theorem okL_mem {l : List S95} (h : okL l = true) : ∀ p ∈ l, wfk p.f0 = true ∧ wfe p.f1 = true := fun p hp => by
  have := List.all_eq_true.1 h p hp
  simpa using this
def impl_OfKind.f (l0 : List S95) (a1 : Int) : Option (List S95) :=
  if l0.length < 4294967296 ∧ okL l0 = true then some (((plainL l0).filter (keepB a1)).map mk95) else none

set_option maxHeartbeats 4000000 in
set_option maxRecDepth 100000 in
theorem impl_OfKind.calls (A0 : Option Addr) (c0 : Nat) (l0 : List S95) (a1 : Int) (r : List S95) (w : World) (hr0 : Kd.C k95 w A0 l0.length l0) (hc0 : l0.length ≤ c0) (h : impl_OfKind.f l0 a1 = some r) :
    Calls Try.prog 27 #[.slice A0 l0.length c0, .int .u8 a1] w fun e w' => ∃ v0_ : Value, e = .returned (v0_) ∧ Kd.R k95 95 w' w.heap.size (fun _ => True) v0_ r ∧ Below w.heap.size w w' := by
  unfold impl_OfKind.f at h
  split at h
  case isFalse => cases h
  rename_i hg
  obtain ⟨hlen, hk0⟩ := hg
  have hm0 := okL_mem hk0
  obtain rfl := Option.some.inj h
  have HR0 := Aside0.mk hr0
  clear hr0 h
  go_enter Try.func27, Try.ntmps27
  go_wp2_with (first
    | (go_at_call 49; (with_reducible refine (masks_calls A0 c0 l0 _ HR0.out hm0 (by omega)).mono ?_); rintro e w1 ⟨b0, rfl, hb0, hM0, hw1⟩; have HM0 := Aside0.mk hM0; have HW1 := Aside0.mk hw1; clear hM0 hw1)
    | (go_at_call 50; (with_reducible refine (maskOfKind_calls b0 l0.length a1 _ _ HM0.out hlen).mono ?_); rintro e w2 ⟨b1, X, rfl, hX, hS, hw2⟩; have HX := Aside0.mk hX; have HS := Aside0.mk hS; have HW2 := Aside0.mk hw2; clear hX hS hw2)
    | (go_at_call 48; (with_reducible refine (plain95_calls b1 l0.length X _ HX.out (by omega)).mono ?_); rintro e w4 ⟨v, r, rfl, hR, hP, hw4⟩; have HW4 := Aside0.mk hw4; have HR := Aside0.mk hR; have HP := Aside0.mk hP; clear hw4 hR hP)
    | go_in)
  go_ret
  have hB2 := HW1.out.trans (HW2.out.mono HW1.out.size)
  rw [← plain_sift (plainL_spec l0) HP.out HS.out]
  exact ⟨_, rfl, Kd.R_lower HR.out hB2.size, hB2.trans (HW4.out.mono hB2.size)⟩
end Go.Proofs.Ytlmmjchdfngdgaa.Q
