import Derived.Test.YtlmmjchdfngdgaaGsort
import Derived.Maps.Own
import Derived.Maps.OwnSet
import Derived.Maps.Ext
import Derived.Maps.RangeWalk
namespace Go.Proofs.Ytlmmjchdfngdgaa.Q
open Go.RowKit Go.Maps Go.Proofs.YtlmmjchdfngdgaaW.PrintWords Go.Proofs.YtlmmjchdfngdgaaW.PrintLast Go.Proofs.YtlmmjchdfngdgaaW.PrintMore
set_option linter.unusedVariables false

theorem key129 : Keyed Try.prog 129 := int_keyed Try.underlying129
def lk (a : Int) : Lit := .int .u32 a
def wfk (a : Int) : Bool := decide (0 ≤ a ∧ a < 4294967296)
def wfe (a : Int) : Bool := decide (0 ≤ a ∧ a < 65536)
theorem wf32 {a : Int} (h : wfk a = true) : (Lit.int .u32 a).wf = true := by
  have := of_decide_eq_true h
  simp [Lit.wf, IntKind.min, IntKind.max, IntKind.signed, IntKind.bits]; omega
theorem of_wf32 {a : Int} (h : (Lit.int .u32 a).wf = true) : wfk a = true := by
  apply decide_eq_true
  simp [Lit.wf, IntKind.min, IntKind.max, IntKind.signed, IntKind.bits] at h; omega
theorem wf16 {a : Int} (h : wfe a = true) : (Lit.int .u16 a).wf = true := by
  have := of_decide_eq_true h
  simp [Lit.wf, IntKind.min, IntKind.max, IntKind.signed, IntKind.bits]; omega
theorem of_wf16 {a : Int} (h : (Lit.int .u16 a).wf = true) : wfe a = true := by
  apply decide_eq_true
  simp [Lit.wf, IntKind.min, IntKind.max, IntKind.signed, IntKind.bits] at h; omega
def putP (D : DataW Unit) (p : S53) : DataW Unit := D.put (.int .u32 p.f0) (.lit (.int .u32 p.f1))
def mapP (l : List S53) : DataW Unit := l.foldl putP (.map [])

theorem newAlloc_calls (w : World) : Calls Try.prog 60 #[] w fun e w' => e = .returned (.map (some w.heap.size)) ∧ w' = w.alloc (.map #[] 0) := by
  have hmm := @run_makeMap Try.prog
  go_enter Try.func60, Try.ntmps60
  go_wp2
  go_ret
  exact ⟨rfl, rfl⟩

theorem take_foldl {α β : Type} (f : β → α → β) (z : β) (l : List α) (i : Nat) (h : i < l.length) : (l.take (i + 1)).foldl f z = f ((l.take i).foldl f z) l[i] := by
  rw [List.take_succ_eq_append_getElem h, List.foldl_append]
  rfl

set_option maxHeartbeats 4000000 in
set_option maxRecDepth 100000 in
theorem allocation_calls (A : Option Addr) (c : Nat) (l : List S53) (w : World) (hr : Kd.C k53 w A l.length l) (hw : ∀ p ∈ l, wfk p.f0 = true ∧ wfk p.f1 = true) (hlen : l.length < 4294967296) :
    Calls Try.prog 43 #[.slice A l.length c] w fun e w' => ∃ b, e = .returned (.map (some b)) ∧ w.heap.size ≤ b ∧ w'.ownsMap Try.prog 129 (plainElem Try.prog 129) b l.length (mapP l) ∧ Below w.heap.size w w' := by
  have HR := Aside0.mk hr
  clear hr
  go_enter Try.func43, Try.ntmps43
  go_wp2_with (first | (go_at_call 60; ((with_reducible refine (newAlloc_calls _).mono ?_); rintro e w1 ⟨rfl, rfl⟩)))
  have HM0 := Aside0.mk (World.ownsMap_made (H := Unit) w Try.prog 129 (plainElem Try.prog 129))
  have HB0 := Aside0.mk ((Below.refl w.heap.size w).alloc (Nat.le_refl _) (.map #[] 0))
  go_loopg [9] l.length (fun kq v9 wr => ∃ i : Nat, v9 = .int .i64 (i : Int) ∧ Aside0 (i + kq = l.length) ∧ Aside0 (wr.ownsMap Try.prog 129 (plainElem Try.prog 129) w.heap.size i (mapP (l.take i))) ∧ Aside0 (Below w.heap.size w wr))
  case atStart => exact ⟨0, rfl, ⟨by simp⟩, ⟨by simpa [mapP] using HM0.out⟩, HB0⟩
  case round =>
    obtain ⟨i, rfl, HK, HM, HB⟩ := hrel
    cases gk with
    | zero =>
      have e' : (i < l.length) = False := eq_false (by have := HK.out; omega)
      go_wp2
      go_ret
      have e2 : i = l.length := by have := HK.out; omega
      subst e2
      have h := HM.out
      rw [List.take_length] at h
      exact ⟨_, rfl, Nat.le_refl _, h, HB.out⟩
    | succ k =>
      have hi : i < l.length := by have := HK.out; omega
      obtain ⟨p, hp⟩ : ∃ p, l[i]? = some p := ⟨_, List.getElem?_eq_getElem hi⟩
      have hwi := hw p (List.mem_of_getElem? hp)
      have hrd : rd_T53 l (i : Int) = p := by unfold rd_T53; simp [List.getD, hp]
      have hstep : mapP (l.take (i + 1)) = putP (mapP (l.take i)) p := by
        obtain ⟨_, e⟩ := List.getElem?_eq_some_iff.1 hp
        unfold mapP; rw [take_foldl putP _ l i hi, e]
      obtain ⟨ad, rfl, h0, h1⟩ := at_T53 HR.out (i : Int) (by omega) (by omega)
      rw [Int.toNat_natCast, hrd] at h0 h1
      replace h0 := (HB.out.cell (World.block_lt_of_cell? w _ h0)).trans h0
      replace h1 := (HB.out.cell (World.block_lt_of_cell? w _ h1)).trans h1
      have e' : (i < l.length) = True := eq_true hi
      clear hi
      have hsz := HB.out.size
      go_wp2_with (first
        | (at_mapUpdate; refine wpList_mapUpdate_own _ rfl _ _ _ 89 rfl 129 129 key129 Try.underlying89 _ w.heap.size _ _ rfl (HM.out.alloc _) (by have := HK.out; simp only [maxLen]; omega) _ _ _ rfl rfl (keyOf_int_mk Try.underlying129 (wf32 hwi.1)) _ [] (plainElem_int Try.underlying129 (wf32 hwi.2)) ?_; intro w2 hm2 hg2; go_frame)
        | go_in)
      have HM2 := Aside0.mk hm2
      have HG2 := Aside0.mk hg2
      clear hm2 hg2
      go_roundg k
      case measure => have := HK.out; omega
      case rel =>
        refine ⟨i + 1, by have := HK.out; simp [wrap64]; omega, ⟨by have := HK.out; omega⟩, ⟨by rw [hstep]; exact HM2.out⟩, ⟨?_⟩⟩
        have hb0 : w.heap.size < wr.heap.size := HM.out.lt
        exact (HB.out.alloc (Nat.le_of_lt hb0) _).grown HG2.out (by simp; omega) (fun j hj => by cases hj; exact Nat.le_refl _)

theorem errNew_calls (s : ByteArray) (w : World) : Calls Try.prog 56 #[.string s] w fun e w' => e = .returned (.iface 136 (.pointer (some ⟨w.heap.size, 0, none⟩))) ∧ Below w.heap.size w w' := by
  go_enter Try.func56, Try.ntmps56
  go_wp2
  go_ret
  exact ⟨rfl, (Below.refl _ _).alloc (Nat.le_refl _) _⟩

/-- X: what stands in A, and in B where B's key is no longer to come; on the keys that have come A and B agree. -/
structure Merging (DA DB : DataW Unit) (left : Lit → Bool) (X : DataW Unit) : Prop where
  has : ∀ k, has X k = (has DA k || (has DB k && !left k))
  at_ : ∀ k z, (Maps.has DB k && !left k) = true → X.atKey k z = DB.atKey k z
  old : ∀ k z, (Maps.has DB k && !left k) = false → X.atKey k z = DA.atKey k z
  same : ∀ k z, (Maps.has DB k && !left k) = true → Maps.has DA k = true → DA.atKey k z = DB.atKey k z
  left_ : ∀ k, left k = true → Maps.has DB k = true
/-- A and B do not agree at some key. -/
def Clash (DA DB : DataW Unit) : Prop := ∃ (x c c' : Int), has DA (.int .u32 x) = true ∧ has DB (.int .u32 x) = true ∧ DA.atKey (.int .u32 x) (.lit (.int .u32 0)) = .lit (.int .u32 c') ∧ DB.atKey (.int .u32 x) (.lit (.int .u32 0)) = .lit (.int .u32 c) ∧ c' ≠ c

theorem merging_start (DA DB : DataW Unit) : Merging DA DB (Maps.has DB) DA :=
  ⟨fun k => by cases Maps.has DB k <;> simp, fun k z h => by cases hh : Maps.has DB k <;> simp [hh] at h, fun _ _ _ => rfl, fun k z h => by cases hh : Maps.has DB k <;> simp [hh] at h, fun _ h => h⟩
theorem merging_step {DA DB X : DataW Unit} {left : Lit → Bool} {x : Int} {d : DataW Unit} (hM : Merging DA DB left X) (hm : IsMap X) (hl : left (.int .u32 x) = true) (hat : ∀ z, DB.atKey (.int .u32 x) z = d)
    (hs : has X (.int .u32 x) = true → ∀ z, X.atKey (.int .u32 x) z = d) : Merging DA DB (fun z => left z && !z.sameKey (.int .u32 x)) (X.put (.int .u32 x) d) := by
  have hB := hM.left_ _ hl
  have hk : WideAt.IsKeyLit (.int .u32 x) := trivial
  have hnew : ∀ k, k ≠ .int .u32 x → (left k && !k.sameKey (.int .u32 x)) = left k := fun k e => by rw [sameKey_ne e]; simp
  refine ⟨fun k => ?_, fun k z h => ?_, fun k z h => ?_, fun k z h ha => ?_, fun k h => hM.left_ k (by simp at h; exact h.1)⟩
  · by_cases e : k = .int .u32 x
    · subst e; rw [has_put_same hm hk, hB, WideAt.sameKey_self hk]; simp
    · show _ = (_ || (_ && !(left k && !k.sameKey (.int .u32 x))))
      rw [has_put_other e, hM.has, hnew k e]
  · by_cases e : k = .int .u32 x
    · subst e; rw [atKey_put_same hm hk, hat]
    · rw [atKey_put_other e]; exact hM.at_ k z (by simpa only [hnew k e] using h)
  · by_cases e : k = .int .u32 x
    · subst e; simp only [hB, WideAt.sameKey_self hk] at h; simp at h
    · rw [atKey_put_other e]; exact hM.old k z (by simpa only [hnew k e] using h)
  · by_cases e : k = .int .u32 x
    · subst e
      have h0 : (Maps.has DB (.int .u32 x) && !left (.int .u32 x)) = false := by rw [hl]; simp
      rw [hat, ← hM.old _ z h0]
      exact hs (by rw [hM.has, ha]; simp) z
    · exact hM.same k z (by simpa only [hnew k e] using h) ha

theorem has_atKey_any {X : DataW Unit} {k : Lit} (h : Maps.has X k = true) (z z' : DataW Unit) : X.atKey k z = X.atKey k z' := by
  cases X with
  | map es =>
    unfold DataW.atKey
    cases hf : es.find? (fun p => p.1.sameKey k) with
    | some p => simp only [hf]
    | none =>
      rw [has_eq] at h
      obtain ⟨p, hp, h2⟩ := List.any_eq_true.1 h
      exact absurd h2 (by have := List.find?_eq_none.1 hf p hp; simpa using this)
  | _ => cases h

theorem zero129 (W : World) : (zeroValue 129).run Try.prog W = .ok (.int .u32 0) W := by kernel_rfl

set_option maxHeartbeats 4000000 in
set_option maxRecDepth 100000 in
theorem allocMerge_calls (ba bb nA nB B : Nat) (DA DB : DataW Unit) (w : World) (hA : w.ownsMap Try.prog 129 (plainElem Try.prog 129) ba nA DA) (hB : w.ownsMap Try.prog 129 (plainElem Try.prog 129) bb nB DB) (hne : ba ≠ bb) (hBa : B ≤ ba) (hn : nA + nB < 8589934592) :
    Calls Try.prog 44 #[.map (some ba), .map (some bb)] w fun e w' => Below B w w' ∧ ((e = .returned .nilIface ∧ ∃ X, w'.ownsMap Try.prog 129 (plainElem Try.prog 129) ba (nA + nB) X ∧ Merging DA DB (fun _ => false) X) ∨ ((∃ x, e = .returned (.iface 136 x)) ∧ Clash DA DB)) := by
  have hAl := hA.lt
  have hBl := hB.lt
  have hcnt : Maps.size DB ≤ nB := hB.size_le
  go_enter Try.func44, Try.ntmps44
  go_wp2_with (first
    | (at_range; refine wpList_range_own _ rfl _ 89 rfl 129 129 key129 Try.underlying89 _ bb nB _ rfl hB ?_; intro w0 hrg0 hg0 hs0)
    | go_in)
  go_frame
  have HA := Aside0.mk (hA.kept hg0 (by simp))
  have HRG := Aside0.mk hrg0
  have HB0 := Aside0.mk ((Below.refl B w).grown hg0 (by omega) (fun j hj => by cases hj))
  have HS := Aside0.mk hs0
  clear hrg0 hg0 hs0
  go_loopw [5, 6, 7, 8] (fun _ _ _ _ wr => ∃ (left : Lit → Bool) (cnt : Nat) (X : DataW Unit), wr.ranges Try.prog 129 (plainElem Try.prog 129) bb w.heap.size nB DB left cnt ∧ cnt ≤ Maps.size DB ∧
      wr.ownsMap Try.prog 129 (plainElem Try.prog 129) ba (nA + (Maps.size DB - cnt)) X ∧ Merging DA DB left X ∧ Below B w wr)
    (fun _ _ _ _ wr => wr.rangeLeft bb w.heap.size)
  case atStart =>
    exact ⟨_, _, _, HRG.out, Nat.le_refl _, HA.out.mono (by omega), merging_start DA DB, HB0.out⟩
  case round =>
    obtain ⟨left, cnt, X, hrg, hcs, hX, hM, hbw⟩ := hrel
    go_wp2_with (first
      | (at_next; refine wpList_next_ranges_ii _ rfl _ rfl 129 129 .u32 .u32 key129 Try.underlying129 Try.underlying129 bb w.heap.size nB _ _ _ rfl hrg ?_ ?_)
      | go_in)
    · intro hc0 hl0
      go_wp2
      go_ret
      subst hc0
      have el : left = fun _ => false := funext hl0
      rw [el] at hM
      exact ⟨hbw, Or.inl ⟨rfl, X, hX.mono (by omega), hM⟩⟩
    · intro x c w1 cnt1 hwx hwc hlx hat hrg1 hlt hg1 hs1 hen
      have hX1 := hX.kept hg1 (by simp; omega)
      have hb1 : Below B w w1 := hbw.grown hg1 (by have := hbw.size; omega) (fun j hj => by cases hj; omega)
      have HX1 := Aside0.mk hX1
      have HRG1 := Aside0.mk hrg1
      have HB1 := Aside0.mk hb1
      clear hX1 hrg1 hb1
      cases hh : Maps.has X (.int .u32 x)
      · go_wp2_with (first
          | (at_lookup; refine wpList_lookup_own_ok_int _ rfl _ _ 89 rfl 129 129 .u32 key129 Try.underlying89 Try.underlying129 (zero129 _) ba _ X rfl HX1.out _ _ rfl (keyOf_int_mk Try.underlying129 hwx) ?_; intro c' hat' hwc'; rw [hh])
          | (at_mapUpdate; refine wpList_mapUpdate_own _ rfl _ _ _ 89 rfl 129 129 key129 Try.underlying89 _ ba _ _ rfl HX1.out (by simp only [maxLen]; omega) _ _ _ rfl rfl (keyOf_int_mk Try.underlying129 hwx) _ [] (plainElem_int Try.underlying129 hwc) ?_; intro w2 hm2 hg2; go_frame)
          | go_in)
        have hrg2 := HRG1.out.kept hg2 (fun e => by have := Option.some.inj e; omega) (fun e => by have := Option.some.inj e; omega)
        go_roundw
        case rel =>
          exact ⟨_, cnt1, _, hrg2, by omega, hm2.mono (by omega), merging_step hM hX.isMap hlx hat (fun h => by rw [hh] at h; cases h), HB1.out.grown hg2 (by have := HB1.out.size; omega) (fun j hj => by cases hj; exact hBa)⟩
        case measure => rw [hrg2.left_eq, hrg.left_eq]; exact hlt
      · by_cases hc : X.atKey (.int .u32 x) (.lit (.int .u32 0)) = .lit (.int .u32 c)
        · go_wp2_with (first
            | (at_lookup; refine wpList_lookup_own_ok_int _ rfl _ _ 89 rfl 129 129 .u32 key129 Try.underlying89 Try.underlying129 (zero129 _) ba _ X rfl HX1.out _ _ rfl (keyOf_int_mk Try.underlying129 hwx) ?_; intro c' hat' hwc'; have ecc : c' = c := (by rw [hc] at hat'; injection hat' with e1; injection e1 with e2 e3; exact e3.symm); rw [hh]; clear hat' hwc'; subst ecc)
            | (at_mapUpdate; refine wpList_mapUpdate_own _ rfl _ _ _ 89 rfl 129 129 key129 Try.underlying89 _ ba _ _ rfl HX1.out (by simp only [maxLen]; omega) _ _ _ rfl rfl (keyOf_int_mk Try.underlying129 hwx) _ [] (plainElem_int Try.underlying129 hwc) ?_; intro w2 hm2 hg2; go_frame)
            | go_in)
          have hrg2 := HRG1.out.kept hg2 (fun e => by have := Option.some.inj e; omega) (fun e => by have := Option.some.inj e; omega)
          go_roundw
          case rel =>
            exact ⟨_, cnt1, _, hrg2, by omega, hm2.mono (by omega), merging_step hM hX.isMap hlx hat (fun h z => by rw [has_atKey_any hh z (.lit (.int .u32 0))]; exact hc), HB1.out.grown hg2 (by have := HB1.out.size; omega) (fun j hj => by cases hj; exact hBa)⟩
          case measure => rw [hrg2.left_eq, hrg.left_eq]; exact hlt
        · obtain ⟨c', hcl⟩ : ∃ c', Aside0 (X.atKey (.int .u32 x) (.lit (.int .u32 0)) = .lit (.int .u32 c')) := by
            obtain ⟨v, ps, _, hv⟩ := HX1.out.look_ok key129 Try.underlying89 (zero129 _) (plainElem_int Try.underlying129 (by decide) : plainElem Try.prog 129 (.int .u32 0) = some (.lit (.int .u32 0), [])) (keyOf_int_mk Try.underlying129 hwx)
            obtain ⟨c', rfl, hc', _⟩ := plainElem_int_inv Try.underlying129 hv
            exact ⟨c', ⟨congrArg Prod.fst hc'⟩⟩
          have hne' : ¬ c' = c := fun e => hc (by rw [← e]; exact hcl.out)
          go_wp2_with (first
            | (at_lookup; refine wpList_lookup_own_ok_int _ rfl _ _ 89 rfl 129 129 .u32 key129 Try.underlying89 Try.underlying129 (zero129 _) ba _ X rfl HX1.out _ _ rfl (keyOf_int_mk Try.underlying129 hwx) ?_; intro c'' hat' hwc'; have ecc : c'' = c' := (by rw [hcl.out] at hat'; injection hat' with e1; injection e1 with e2 e3; exact e3.symm); rw [hh]; clear hat' hwc'; subst ecc)
            | (go_at_call 56; ((with_reducible refine (errNew_calls _ _).mono ?_); rintro e w2 ⟨rfl, hbe⟩; have HBE := Aside0.mk hbe; clear hbe))
            | go_in)
          go_ret
          have h0 : (Maps.has DB (.int .u32 x) && !left (.int .u32 x)) = false := by rw [hlx]; simp
          have hhA : Maps.has DA (.int .u32 x) = true := by have := hM.has (.int .u32 x); rw [hh, h0] at this; simpa using this.symm
          refine ⟨HB1.out.trans (HBE.out.mono (by have := HB1.out.size; omega)), Or.inr ⟨⟨_, rfl⟩, x, c, _, hhA, hM.left_ _ hlx, ?_, hat _, hne'⟩⟩
          rw [← hM.old _ _ h0]
          exact hcl.out

/-- What has come of D, in whatever order. -/
structure Coll (q : IntKind) (D : DataW Unit) (left : Lit → Bool) (o : List (Int × Int)) : Prop where
  nodup : o.Pairwise (fun a b => a.1 ≠ b.1)
  mem : ∀ x, (∃ c, (x, c) ∈ o) ↔ (Maps.has D (.int .u32 x) = true ∧ left (.int .u32 x) = false)
  val : ∀ p ∈ o, ∀ z, D.atKey (.int .u32 p.1) z = .lit (.int q p.2)
theorem coll_start (q : IntKind) (D : DataW Unit) : Coll q D (Maps.has D) [] := ⟨List.Pairwise.nil, fun x => ⟨fun ⟨_, h⟩ => by simp at h, fun ⟨h1, h2⟩ => by rw [h1] at h2; cases h2⟩, fun p hp => by simp at hp⟩
theorem coll_step {q : IntKind} {D : DataW Unit} {left : Lit → Bool} {o : List (Int × Int)} {x c : Int} (h : Coll q D left o) (hl : left (.int .u32 x) = true) (hat : ∀ z, D.atKey (.int .u32 x) z = .lit (.int q c)) :
    Coll q D (fun z => left z && !z.sameKey (.int .u32 x)) (o ++ [(x, c)]) := by
  have hx : ∀ p ∈ o, p.1 ≠ x := fun p hp e => by
    have := (h.mem p.1).1 ⟨p.2, hp⟩
    rw [e, hl] at this
    exact absurd this.2 (by simp)
  refine ⟨?_, fun y => ?_, fun p hp z => ?_⟩
  · rw [List.pairwise_append]
    exact ⟨h.nodup, by simp, fun a ha b hb => by simp at hb; subst hb; exact hx a ha⟩
  · by_cases e : y = x
    · subst e
      refine ⟨fun _ => ⟨has_true_of_atKey hat, ?_⟩, fun _ => ⟨c, by simp⟩⟩
      show (left _ && !Lit.sameKey (.int .u32 y) (.int .u32 y)) = false
      rw [WideAt.sameKey_self (show WideAt.IsKeyLit (.int .u32 y) from trivial)]; simp
    · have e2 : (left (.int .u32 y) && !(Lit.int .u32 y).sameKey (.int .u32 x)) = left (.int .u32 y) := by rw [sameKey_ne (fun e' => e (by injection e'))]; simp
      show _ ↔ _ ∧ (left (.int .u32 y) && !(Lit.int .u32 y).sameKey (.int .u32 x)) = false
      rw [e2, ← h.mem y]
      constructor
      · rintro ⟨d, hd⟩
        rcases List.mem_append.1 hd with hd | hd
        · exact ⟨d, hd⟩
        · simp at hd; exact absurd hd.1 e
      · rintro ⟨d, hd⟩; exact ⟨d, by simp [hd]⟩
  · rcases List.mem_append.1 hp with hp | hp
    · exact h.val p hp z
    · simp at hp; subst hp; exact hat z

/-- D's entries in the order of their keys. -/
structure Plain (q : IntKind) (D : DataW Unit) (r : List (Int × Int)) : Prop where
  sorted : r.Pairwise (fun a b => a.1 < b.1)
  mem : ∀ x, (∃ c, (x, c) ∈ r) ↔ Maps.has D (.int .u32 x) = true
  val : ∀ p ∈ r, ∀ z, D.atKey (.int .u32 p.1) z = .lit (.int q p.2)
theorem plain_of_coll {q : IntKind} {D : DataW Unit} {left : Lit → Bool} {o r : List (Int × Int)} (h : Coll q D left o) (hl : ∀ k, left k = false) (hp : r.Perm o) (hs : r.Pairwise (fun a b => a.1 ≤ b.1)) : Plain q D r := by
  refine ⟨?_, fun x => ?_, fun p hm => h.val p (hp.mem_iff.1 hm)⟩
  · have hn : r.Pairwise (fun a b => a.1 ≠ b.1) := (hp.symm.pairwise_iff (fun {a b} (h : a.1 ≠ b.1) => h.symm)).1 h.nodup
    exact (hs.and hn).imp (fun ⟨h1, h2⟩ => by omega)
  · have := h.mem x
    rw [hl] at this
    simp only [and_true] at this
    rw [← this]
    exact ⟨fun ⟨c, hc⟩ => ⟨c, hp.mem_iff.1 hc⟩, fun ⟨c, hc⟩ => ⟨c, hp.mem_iff.2 hc⟩⟩
theorem coll_length {q : IntKind} {D : DataW Unit} {left : Lit → Bool} {o : List (Int × Int)} (h : Coll q D left o) : True := trivial

/-! ### plainAllocation -/
set_option maxHeartbeats 4000000 in
set_option maxRecDepth 100000 in
theorem plain53_calls (b n : Nat) (D : DataW Unit) (w : World) (hD : w.ownsMap Try.prog 129 (plainElem Try.prog 129) b n D) (hn : n < 8589934592) :
    Calls Try.prog 45 #[.map (some b)] w fun e w' => ∃ v r, e = .returned v ∧ Kd.R k53 53 w' w.heap.size (fun _ => True) v (r.map mk53) ∧ Plain .u32 D r ∧ Below w.heap.size w w' := by
  have hbl := hD.lt
  have hcnt : Maps.size D ≤ n := hD.size_le
  go_enter Try.func45, Try.ntmps45
  go_wp2_with (first
    | (at_range; refine wpList_range_own _ rfl _ 89 rfl 129 129 key129 Try.underlying89 _ b n _ rfl (hD.alloc _) ?_; intro w0 hrg0 hg0 hs0)
    | go_in)
  go_frame
  have e1 : (w.alloc (.cells #[.slice none 0 0] 48)).heap.size = w.heap.size + 1 := by simp
  rw [e1] at hrg0 hs0 ⊢
  have HBX0 := Aside0.mk ((Boxed.new w 48 (.slice none 0 0)).kept hg0 (by simp))
  have HRG := Aside0.mk hrg0
  have HB0 := Aside0.mk (((Below.refl w.heap.size w).alloc (Nat.le_refl _) (.cells #[.slice none 0 0] 48)).grown hg0 (by simp) (fun j hj => by cases hj))
  have HS := Aside0.mk hs0
  clear hrg0 hg0 hs0
  go_loopw [4, 5] (fun _ _ wr => ∃ (left : Lit → Bool) (cnt : Nat) (o : List (Int × Int)) (v : Value), wr.ranges Try.prog 129 (plainElem Try.prog 129) b (w.heap.size + 1) n D left cnt ∧ o.length + cnt ≤ n ∧
      Boxed wr w.heap.size 48 v ∧ Kd.R k53 53 wr (w.heap.size + 2) (fun k => w.heap.size + 2 ≤ k) v (o.map mk53) ∧ Coll .u32 D left o ∧ Below w.heap.size w wr ∧ w.heap.size + 2 ≤ wr.heap.size)
    (fun _ _ wr => wr.rangeLeft b (w.heap.size + 1))
  case atStart =>
    exact ⟨_, _, [], _, HRG.out, by simpa using hcnt, HBX0.out, Kd.R_nil _ _ _ _ _, coll_start _ D, HB0.out, by have := HS.out; omega⟩
  case round =>
    obtain ⟨left, cnt, o, v, hrg, hcs, hbx, hR, hC, hbw, hsw⟩ := hrel
    obtain ⟨Ao, co, rfl⟩ := Kd.R_slice hR
    rw [List.length_map] at hbx hR
    go_wp2_with (first
      | (at_next; refine wpList_next_ranges_ii _ rfl _ rfl 129 129 .u32 .u32 key129 Try.underlying129 Try.underlying129 b (w.heap.size + 1) n _ _ _ rfl hrg ?_ ?_)
      | go_in)
    · intro hc0 hl0
      have hcell := hbx.cell
      have hfr := hbx.frozen
      have hne : some w.heap.size ≠ (Value.slice Ao o.length co).ownBlock := Kd.R_ne hR hbx (by decide)
      have hob : ∀ k, (Value.slice Ao o.length co).ownBlock = some k → w.heap.size + 2 ≤ k := hR.1
      have HBX := Aside0.mk hbx
      have HR := Aside0.mk hR
      clear hbx hR
      go_wp2_with (first
        | (go_at_call 61; (with_reducible refine (sort53_R w.heap.size _ _ _ _ _ HR.out HBX.out (by simp; omega)).mono ?_); rintro e w2 ⟨rfl, ys, hp, hs, hR2, hg2⟩; have hcell2 := (HBX.out.kept hg2 hne).cell; have HR2 := Aside0.mk hR2; have HG2 := Aside0.mk hg2; clear hR2 hg2)
        | go_in)
      go_ret
      have hmm : (o.map mk53).map pr53 = o := by rw [List.map_map]; exact List.map_id _
      rw [hmm] at hp
      exact ⟨_, ys, rfl, Kd.R_mono (Kd.R_lower HR2.out (by omega)) (fun _ _ => trivial), plain_of_coll hC hl0 hp hs, hbw.grown HG2.out (by omega) (fun j hj => by have := hob _ hj; omega)⟩
    · intro x c w1 cnt1 hwx hwc hlx hat hrg1 hlt hg1 hs1 hen
      have hbx1 := hbx.kept hg1 (by simp)
      have hcell := hbx1.cell
      have hfr := hbx1.frozen
      have HBX1 := Aside0.mk hbx1
      have HRG1 := Aside0.mk hrg1
      have HR1 := Aside0.mk (Kd.R_grown hR hg1 (fun k hk => by simp; omega))
      have HB1 := Aside0.mk (hbw.grown hg1 (by omega) (fun j hj => by cases hj; omega))
      have HS1 := Aside0.mk hs1
      have HSW := Aside0.mk hsw
      have hne1 : some w.heap.size ≠ (Value.slice Ao o.length co).ownBlock := Kd.R_ne HR1.out hbx1 (by decide)
      have hob : ∀ k, (Value.slice Ao o.length co).ownBlock = some k → w.heap.size + 2 ≤ k := HR1.out.1
      have HRG := Aside0.mk hrg
      clear hbx1 hrg1 hs1 hbx hR hrg hsw
      go_wp2_with (first
        | ((with_reducible refine gate_builtin (b := .append) (xs := #[.tmp 13, .tmp 17]) rfl ?_); at_builtin; refine Kd.R_append k53 (w0 := w1) (w.heap.size + 2) rfl (.tmp 13) (.tmp 17) 48 53 (.agg #[(.int .u32 0), (.int .u32 0)]) 8 rfl Try.underlying48 info53 rfl (by decide) (by omega) (.slice Ao o.length co) (o.map mk53) (⟨x, c⟩ : S53) [.int .u32 x, .int .u32 c] (fun k => w.heap.size + 2 ≤ k) (fun _ => False) rfl rfl (k53_mkM _ _ _ (⟨x, c⟩ : S53)) (fun _ hk => hk.elim) ?aF HR1.out (Below.refl _ _) ?aS ?aL ?_
           case aF => (intro k hk; have := HS1.out; have := HSW.out; omega)
           case aS => (have := HS1.out; have := HSW.out; omega)
           case aL => (rw [List.length_map]; omega)
           intro v2 w2 ho2 hb2 hg2 hat2
           have HBX2 := Aside0.mk (HBX1.out.kept hg2 hne1)
           have hcell2 := HBX2.out.cell
           have hfr2 := HBX2.out.frozen
           obtain ⟨A2, c2, rfl⟩ := Kd.R_slice ho2
           have HO2 : Aside0 (k53.R 53 w2 (w.heap.size + 2) (fun k => w.heap.size + 2 ≤ k) (.slice A2 (o.length + 1) c2) ((o ++ [(x, c)]).map mk53)) := ⟨by rw [List.length_append, List.length_map, List.length_singleton] at ho2; rw [List.map_append]; exact ho2⟩
           clear ho2 hb2 hat2
           go_frame)
        | go_in)
      have hgs := grownBy_setCell' w2 w.heap.size (.slice A2 (o.length + 1) c2)
      have hneO : some w.heap.size ≠ (Value.slice A2 (o.length + 1) c2).ownBlock := Kd.R_ne HO2.out HBX2.out (by decide)
      have hrg2 := HRG1.out.kept hg2 (fun e => by have := hob _ e.symm; omega) (fun e => by have := hob _ e.symm; omega)
      have hrg3 := hrg2.kept hgs (fun e => by have := Option.some.inj e; omega) (fun e => by have := Option.some.inj e; omega)
      refine ⟨⟨_, cnt1, o ++ [(x, c)], _, hrg3, by simp; omega, HBX2.out.set _, ?_, coll_step hC hlx hat, ?_, ?_⟩, ?_⟩
      · exact Kd.R_far (p := ⟨w.heap.size, 0, none⟩) HO2.out (fun k hk => by show k ≠ w.heap.size; omega) _
      · exact (HB1.out.grown hg2 (by have := HS1.out; have := HSW.out; omega) (fun j hj => by have := hob _ hj; omega)).setCell (p := ⟨w.heap.size, 0, none⟩) (Nat.le_refl _) _
      · have := hg2.size; have := HS1.out; have := HSW.out; have := hgs.size; omega
      · rw [hrg3.left_eq, HRG.out.left_eq]; exact hlt

/-! ### the plain function -/
def insP (x c : Int) : List (Int × Int) → List (Int × Int)
  | [] => [(x, c)]
  | y :: r => if x < y.1 then (x, c) :: y :: r else if x = y.1 then (x, c) :: r else y :: insP x c r
theorem mem_insP (x c : Int) : ∀ (l : List (Int × Int)), l.Pairwise (fun a b => a.1 < b.1) → ∀ p, p ∈ insP x c l ↔ (p = (x, c) ∨ (p ∈ l ∧ p.1 ≠ x))
  | [], _, p => by simp [insP]
  | y :: r, h, p => by
    obtain ⟨h1, h2⟩ := List.pairwise_cons.1 h
    unfold insP
    split
    · rename_i hlt
      have hn : ∀ q ∈ y :: r, q.1 ≠ x := fun q hq => by
        rcases List.mem_cons.1 hq with rfl | hq
        · omega
        · have := h1 q hq; omega
      rw [List.mem_cons]
      exact ⟨fun hp => hp.elim Or.inl (fun hp => Or.inr ⟨hp, hn p hp⟩), fun hp => hp.elim Or.inl (fun hp => Or.inr hp.1)⟩
    · split
      · rename_i _ he
        have hn : ∀ q ∈ r, q.1 ≠ x := fun q hq => by have := h1 q hq; omega
        rw [List.mem_cons]
        refine ⟨fun hp => hp.elim Or.inl (fun hp => Or.inr ⟨List.mem_cons_of_mem _ hp, hn p hp⟩), fun hp => hp.elim Or.inl (fun hp => ?_)⟩
        rcases List.mem_cons.1 hp.1 with rfl | hp2
        · exact absurd he.symm hp.2
        · exact Or.inr hp2
      · rename_i _ hne
        rw [List.mem_cons, mem_insP x c r h2 p, List.mem_cons]
        constructor
        · rintro (rfl | rfl | hp)
          · exact Or.inr ⟨Or.inl rfl, fun e => hne e.symm⟩
          · exact Or.inl rfl
          · exact Or.inr ⟨Or.inr hp.1, hp.2⟩
        · rintro (rfl | ⟨rfl | hp, h3⟩)
          · exact Or.inr (Or.inl rfl)
          · exact Or.inl rfl
          · exact Or.inr (Or.inr ⟨hp, h3⟩)
theorem sorted_insP (x c : Int) : ∀ (l : List (Int × Int)), l.Pairwise (fun a b => a.1 < b.1) → (insP x c l).Pairwise (fun a b => a.1 < b.1)
  | [], _ => by simp [insP]
  | y :: r, h => by
    obtain ⟨h1, h2⟩ := List.pairwise_cons.1 h
    unfold insP
    split
    · rename_i hlt
      refine List.pairwise_cons.2 ⟨fun q hq => ?_, h⟩
      rcases List.mem_cons.1 hq with rfl | hq
      · exact hlt
      · have := h1 q hq; show x < q.1; omega
    · split
      · rename_i _ he
        exact List.pairwise_cons.2 ⟨fun q hq => by have := h1 q hq; show x < q.1; omega, h2⟩
      · rename_i hnl hne
        refine List.pairwise_cons.2 ⟨fun q hq => ?_, sorted_insP x c r h2⟩
        rcases (mem_insP x c r h2 q).1 hq with rfl | hq
        · show y.1 < x; omega
        · exact h1 q hq.1
theorem plain_put {q : IntKind} {D : DataW Unit} {r : List (Int × Int)} (hm : IsMap D) (h : Plain q D r) (x c : Int) : Plain q (D.put (.int .u32 x) (.lit (.int q c))) (insP x c r) := by
  have hk : WideAt.IsKeyLit (.int .u32 x) := trivial
  refine ⟨sorted_insP x c r h.sorted, fun y => ?_, fun p hp z => ?_⟩
  · by_cases e : y = x
    · subst e
      rw [has_put_same hm hk]
      exact ⟨fun _ => rfl, fun _ => ⟨c, (mem_insP _ _ _ h.sorted _).2 (Or.inl rfl)⟩⟩
    · rw [has_put_other (fun e' => e (by injection e')), ← h.mem y]
      constructor
      · rintro ⟨d, hd⟩
        rcases (mem_insP _ _ _ h.sorted _).1 hd with hd | hd
        · simp at hd; exact absurd hd.1 e
        · exact ⟨d, hd.1⟩
      · rintro ⟨d, hd⟩; exact ⟨d, (mem_insP _ _ _ h.sorted _).2 (Or.inr ⟨hd, e⟩)⟩
  · rcases (mem_insP _ _ _ h.sorted _).1 hp with rfl | hp
    · exact atKey_put_same hm hk _ z
    · rw [atKey_put_other (fun e' => hp.2 (by injection e'))]; exact h.val p hp.1 z
theorem plain_empty (q : IntKind) : Plain q (.map []) [] := ⟨List.Pairwise.nil, fun x => ⟨fun ⟨_, h⟩ => by simp at h, fun h => by simp [has_eq] at h⟩, fun p hp => by simp at hp⟩

theorem sorted_ext : ∀ (a b : List (Int × Int)), a.Pairwise (fun x y => x.1 < y.1) → b.Pairwise (fun x y => x.1 < y.1) → (∀ p, p ∈ a ↔ p ∈ b) → a = b
  | [], [], _, _, _ => rfl
  | [], y :: s, _, _, h => absurd ((h y).2 (by simp)) (by simp)
  | x :: r, [], _, _, h => absurd ((h x).1 (by simp)) (by simp)
  | x :: r, y :: s, ha, hb, h => by
    obtain ⟨ha1, ha2⟩ := List.pairwise_cons.1 ha
    obtain ⟨hb1, hb2⟩ := List.pairwise_cons.1 hb
    have hxy : x = y := by
      rcases List.mem_cons.1 ((h x).1 (by simp)) with e | e
      · exact e
      · rcases List.mem_cons.1 ((h y).2 (by simp)) with e2 | e2
        · exact e2.symm
        · have := hb1 x e; have := ha1 y e2; omega
    subst hxy
    rw [sorted_ext r s ha2 hb2 (fun p => ⟨fun hp => by
      rcases List.mem_cons.1 ((h p).1 (List.mem_cons_of_mem _ hp)) with e | e
      · subst e; have := ha1 p hp; omega
      · exact e, fun hp => by
      rcases List.mem_cons.1 ((h p).2 (List.mem_cons_of_mem _ hp)) with e | e
      · subst e; have := hb1 p hp; omega
      · exact e⟩)]
theorem plain_unique {q : IntKind} {D E : DataW Unit} {r s : List (Int × Int)} (h : Plain q D r) (k : Plain q E s) (hh : ∀ x, Maps.has D (.int .u32 x) = Maps.has E (.int .u32 x)) (ha : ∀ x z, D.atKey (.int .u32 x) z = E.atKey (.int .u32 x) z) : r = s := by
  refine sorted_ext r s h.sorted k.sorted (fun p => ⟨fun hp => ?_, fun hp => ?_⟩)
  · obtain ⟨c, hc⟩ := (k.mem p.1).2 (by rw [← hh]; exact (h.mem p.1).1 ⟨p.2, hp⟩)
    have e1 := h.val p hp .nil
    have e2 := k.val _ hc .nil
    rw [ha, e2] at e1
    injection e1 with e1; injection e1 with _ e1
    have : p = (p.1, c) := Prod.ext rfl e1.symm
    rw [this]; exact hc
  · obtain ⟨c, hc⟩ := (h.mem p.1).2 (by rw [hh]; exact (k.mem p.1).1 ⟨p.2, hp⟩)
    have e1 := k.val p hp .nil
    have e2 := h.val _ hc .nil
    rw [← ha, e2] at e1
    injection e1 with e1; injection e1 with _ e1
    have : p = (p.1, c) := Prod.ext rfl e1.symm
    rw [this]; exact hc

def plainP (l : List S53) : List (Int × Int) := l.foldl (fun r p => insP p.f0 p.f1 r) []
theorem fold_plain : ∀ (l : List S53) (D : DataW Unit) (r : List (Int × Int)), IsMap D → Plain .u32 D r → IsMap (l.foldl putP D) ∧ Plain .u32 (l.foldl putP D) (l.foldl (fun r p => insP p.f0 p.f1 r) r)
  | [], D, r, hm, h => ⟨hm, h⟩
  | p :: l, D, r, hm, h => fold_plain l _ _ (hm.put _ _) (plain_put hm h p.f0 p.f1)
theorem plainP_spec (l : List S53) : Plain .u32 (mapP l) (plainP l) := (fold_plain l _ _ isMap_empty (plain_empty _)).2
theorem mapP_isMap (l : List S53) : IsMap (mapP l) := (fold_plain l _ _ isMap_empty (plain_empty .u32)).1

/-- D is A with E laid over it. -/
structure Over (A E D : DataW Unit) : Prop where
  has : ∀ k, Maps.has D k = (Maps.has A k || Maps.has E k)
  new : ∀ k z, Maps.has E k = true → D.atKey k z = E.atKey k z
  old : ∀ k z, Maps.has E k = false → D.atKey k z = A.atKey k z
theorem over_fold (A : DataW Unit) : ∀ (l : List S53) (E D : DataW Unit), IsMap E → IsMap D → Over A E D → Over A (l.foldl putP E) (l.foldl putP D)
  | [], _, _, _, _, h => h
  | p :: l, E, D, hE, hD, h => by
    refine over_fold A l _ _ (hE.put _ _) (hD.put _ _) ⟨fun k => ?_, fun k z hk => ?_, fun k z hk => ?_⟩
    · by_cases e : k = .int .u32 p.f0
      · subst e; unfold putP; rw [has_put_same hD (show WideAt.IsKeyLit (.int .u32 p.f0) from trivial), has_put_same hE (show WideAt.IsKeyLit (.int .u32 p.f0) from trivial)]; simp
      · unfold putP; rw [has_put_other e, has_put_other e, h.has]
    · by_cases e : k = .int .u32 p.f0
      · subst e; unfold putP; rw [atKey_put_same hD (show WideAt.IsKeyLit (.int .u32 p.f0) from trivial), atKey_put_same hE (show WideAt.IsKeyLit (.int .u32 p.f0) from trivial)]
      · unfold putP at hk ⊢; rw [has_put_other e] at hk; rw [atKey_put_other e, atKey_put_other e]; exact h.new k z hk
    · by_cases e : k = .int .u32 p.f0
      · subst e; unfold putP at hk; rw [has_put_same hE (show WideAt.IsKeyLit (.int .u32 p.f0) from trivial)] at hk; cases hk
      · unfold putP at hk ⊢; rw [has_put_other e] at hk; rw [atKey_put_other e]; exact h.old k z hk
theorem over_append (l0 l1 : List S53) : Over (mapP l0) (mapP l1) (mapP (l0 ++ l1)) := by
  have h : mapP (l0 ++ l1) = l1.foldl putP (mapP l0) := by unfold mapP; rw [List.foldl_append]
  rw [h]
  exact over_fold _ l1 (.map []) _ isMap_empty (mapP_isMap l0) ⟨fun k => by simp [has_eq], fun k z hk => by simp [has_eq] at hk, fun k z _ => rfl⟩

def clashP (l0 l1 : List S53) : Bool := (plainP l0).any fun p => (plainP l1).any fun q => decide (p.1 = q.1 ∧ p.2 ≠ q.2)
theorem clash_of {l0 l1 : List S53} (h : Clash (mapP l0) (mapP l1)) : clashP l0 l1 = true := by
  obtain ⟨x, c, c', h0, h1, h2, h3, hne⟩ := h
  obtain ⟨a, ha⟩ := ((plainP_spec l0).mem x).2 h0
  obtain ⟨b, hb⟩ := ((plainP_spec l1).mem x).2 h1
  have ea := (plainP_spec l0).val _ ha (.lit (.int .u32 0))
  have eb := (plainP_spec l1).val _ hb (.lit (.int .u32 0))
  rw [h2] at ea
  rw [h3] at eb
  injection ea with ea; injection ea with _ ea
  injection eb with eb; injection eb with _ eb
  replace ea : c' = a := ea
  replace eb : c = b := eb
  exact List.any_eq_true.2 ⟨_, ha, List.any_eq_true.2 ⟨_, hb, decide_eq_true ⟨rfl, by show a ≠ b; rw [← ea, ← eb]; exact hne⟩⟩⟩
theorem no_clash {l0 l1 : List S53} {X : DataW Unit} (h : Merging (mapP l0) (mapP l1) (fun _ => false) X) : clashP l0 l1 = false := by
  cases hc : clashP l0 l1 with
  | false => rfl
  | true =>
    obtain ⟨p, hp, h2⟩ := List.any_eq_true.1 hc
    obtain ⟨q, hq, h3⟩ := List.any_eq_true.1 h2
    obtain ⟨e1, e2⟩ := of_decide_eq_true h3
    have hA := ((plainP_spec l0).mem p.1).1 ⟨p.2, hp⟩
    have hB := ((plainP_spec l1).mem q.1).1 ⟨q.2, hq⟩
    have ea := (plainP_spec l0).val _ hp .nil
    have eb := (plainP_spec l1).val _ hq .nil
    rw [← e1] at eb hB
    have := h.same (.int .u32 p.1) .nil (by rw [hB]; rfl) hA
    rw [ea, eb] at this
    injection this with this; injection this with _ this
    exact absurd this e2
theorem plain_merged {l0 l1 : List S53} {X : DataW Unit} {r : List (Int × Int)} (h : Merging (mapP l0) (mapP l1) (fun _ => false) X) (hr : Plain .u32 X r) : r = plainP (l0 ++ l1) := by
  have ho := over_append l0 l1
  refine plain_unique hr (plainP_spec _) (fun x => ?_) (fun x z => ?_)
  · rw [h.has, ho.has]; simp
  · cases hB : Maps.has (mapP l1) (.int .u32 x) with
    | true => rw [h.at_ _ z (by rw [hB]; rfl), ho.new _ z hB]
    | false => rw [h.old _ z (by rw [hB]; rfl), ho.old _ z hB]

def okP (l : List S53) : Bool := l.all fun p => wfk p.f0 && wfk p.f1
def impl_Merge.f (l0 l1 : List S53) : Option (List S53 × Bool) :=
  if l0.length + l1.length < 4294967296 ∧ okP l0 = true ∧ okP l1 = true then (if clashP l0 l1 = true then some ([], false) else some ((plainP (l0 ++ l1)).map mk53, true)) else none
theorem okP_mem {l : List S53} (h : okP l = true) : ∀ p ∈ l, wfk p.f0 = true ∧ wfk p.f1 = true := fun p hp => by
  have := List.all_eq_true.1 h p hp
  simpa using this

set_option maxHeartbeats 4000000 in
set_option maxRecDepth 100000 in
theorem impl_Merge.calls (A0 : Option Addr) (c0 : Nat) (l0 : List S53) (A1 : Option Addr) (c1 : Nat) (l1 : List S53) (r1 : List S53) (r2 : Bool) (w : World) (hr0 : Kd.C k53 w A0 l0.length l0) (hc0 : l0.length ≤ c0) (hr1 : Kd.C k53 w A1 l1.length l1) (hc1 : l1.length ≤ c1) (h : impl_Merge.f l0 l1 = some (r1, r2)) :
    Calls Try.prog 23 #[.slice A0 l0.length c0, .slice A1 l1.length c1] w fun e w' => ∃ v0_ : Value, e = .returned (.tuple #[v0_, .bool r2]) ∧ Kd.R k53 53 w' w.heap.size (fun _ => True) v0_ r1 ∧ Below w.heap.size w w' := by
  unfold impl_Merge.f at h
  split at h
  case isFalse => cases h
  rename_i hg
  obtain ⟨hlen, hk0, hk1⟩ := hg
  have hm0 := okP_mem hk0
  have hm1 := okP_mem hk1
  have hcl44 : ∀ (b0 b1 n0 n1 : Nat) (W : World), W.ownsMap Try.prog 129 (plainElem Try.prog 129) b0 n0 (mapP l0) → W.ownsMap Try.prog 129 (plainElem Try.prog 129) b1 n1 (mapP l1) → b0 ≠ b1 → w.heap.size ≤ b0 → n0 + n1 < 8589934592 →
      Calls Try.prog 44 #[.map (some b0), .map (some b1)] W fun e w' => Below w.heap.size W w' ∧ (clashP l0 l1 = false → e = .returned .nilIface ∧ ∃ X, w'.ownsMap Try.prog 129 (plainElem Try.prog 129) b0 (n0 + n1) X ∧ Merging (mapP l0) (mapP l1) (fun _ => false) X) ∧ (clashP l0 l1 = true → ∃ x, e = .returned (.iface 136 x)) := by
    intro b0 b1 n0 n1 W h0 h1 hne hb hn
    refine (allocMerge_calls b0 b1 n0 n1 w.heap.size _ _ W h0 h1 hne hb hn).mono ?_
    rintro e w' ⟨hbw, (⟨he, X, hX, hM⟩ | ⟨hx, hC⟩)⟩
    · exact ⟨hbw, fun _ => ⟨he, X, hX, hM⟩, fun hc => by rw [no_clash hM] at hc; cases hc⟩
    · exact ⟨hbw, (fun hc => by rw [clash_of hC] at hc; cases hc), fun _ => hx⟩
  have HR0 := Aside0.mk hr0
  have HR1 := Aside0.mk hr1
  clear hr0 hr1
  by_cases hcl : clashP l0 l1 = true
  · rw [if_pos hcl] at h
    obtain ⟨rfl, rfl⟩ : [] = r1 ∧ false = r2 := by simpa using h
    go_enter Try.func23, Try.ntmps23
    go_wp2_with (first
      | (go_at_call 43; (with_reducible refine (allocation_calls A0 c0 l0 _ HR0.out hm0 (by omega)).mono ?_); rintro e w1 ⟨b0, rfl, hb0, hM0, hw1⟩; have HM0 := Aside0.mk hM0; have HW1 := Aside0.mk hw1; clear hM0 hw1)
      | (go_at_call 43; (with_reducible refine (allocation_calls A1 c1 l1 _ (Kd.C_below HR1.out HW1.out) hm1 (by omega)).mono ?_); rintro e w2 ⟨b1, rfl, hb1, hM1, hw2⟩; have HM1 := Aside0.mk hM1; have HW2 := Aside0.mk hw2; have hb01 : b0 ≠ b1 := (by have := HM0.out.lt; omega); clear hM1 hw2)
      | (go_at_call 44; (with_reducible refine (hcl44 b0 b1 l0.length l1.length _ (HM0.out.kept ⟨HW2.out.os, HW2.out.tape, HW2.out.output, HW2.out.size, fun k hk _ => HW2.out.block k hk⟩ (row := none) (by simp)) HM1.out hb01 hb0 (by omega)).mono ?_); rintro e w3 ⟨hw3, _, h3⟩; obtain ⟨x, rfl⟩ := h3 hcl; have HW3 := Aside0.mk hw3; clear hw3 h3)
      | go_in)
    go_ret2
    exact ⟨_, rfl, Kd.R_nil _ _ _ _ _, (HW1.out.trans (HW2.out.mono HW1.out.size)).trans HW3.out⟩
  · rw [if_neg hcl] at h
    replace hcl : clashP l0 l1 = false := by simpa using hcl
    obtain ⟨rfl, rfl⟩ : (plainP (l0 ++ l1)).map mk53 = r1 ∧ true = r2 := by simpa using h
    go_enter Try.func23, Try.ntmps23
    go_wp2_with (first
      | (go_at_call 43; (with_reducible refine (allocation_calls A0 c0 l0 _ HR0.out hm0 (by omega)).mono ?_); rintro e w1 ⟨b0, rfl, hb0, hM0, hw1⟩; have HM0 := Aside0.mk hM0; have HW1 := Aside0.mk hw1; clear hM0 hw1)
      | (go_at_call 43; (with_reducible refine (allocation_calls A1 c1 l1 _ (Kd.C_below HR1.out HW1.out) hm1 (by omega)).mono ?_); rintro e w2 ⟨b1, rfl, hb1, hM1, hw2⟩; have HM1 := Aside0.mk hM1; have HW2 := Aside0.mk hw2; have hb01 : b0 ≠ b1 := (by have := HM0.out.lt; omega); clear hM1 hw2)
      | (go_at_call 44; (with_reducible refine (hcl44 b0 b1 l0.length l1.length _ (HM0.out.kept ⟨HW2.out.os, HW2.out.tape, HW2.out.output, HW2.out.size, fun k hk _ => HW2.out.block k hk⟩ (row := none) (by simp)) HM1.out hb01 hb0 (by omega)).mono ?_); rintro e w3 ⟨hw3, h3, _⟩; obtain ⟨rfl, X, hX, hMg⟩ := h3 hcl; have HW3 := Aside0.mk hw3; have HX := Aside0.mk hX; have HMG := Aside0.mk hMg; clear hw3 h3 hX hMg)
      | (go_at_call 45; (with_reducible refine (plain53_calls b0 (l0.length + l1.length) X _ HX.out (by omega)).mono ?_); rintro e w4 ⟨v, r, rfl, hR, hP, hw4⟩; have HW4 := Aside0.mk hw4; have HR := Aside0.mk hR; have HP := Aside0.mk hP; clear hw4 hR hP)
      | go_in)
    go_ret2
    have hB3 := (HW1.out.trans (HW2.out.mono HW1.out.size)).trans HW3.out
    rw [← plain_merged HMG.out HP.out]
    exact ⟨_, rfl, Kd.R_lower HR.out hB3.size, hB3.trans (HW4.out.mono hB3.size)⟩
end Go.Proofs.Ytlmmjchdfngdgaa.Q
