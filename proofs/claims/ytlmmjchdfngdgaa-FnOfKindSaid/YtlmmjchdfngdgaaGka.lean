import Derived.Test.YtlmmjchdfngdgaaGm
namespace Go.Proofs.Ytlmmjchdfngdgaa.Q
open Go.RowKit Go.Maps Go.Shelf Go.Lib Go.Sort Go.Proofs.YtlmmjchdfngdgaaW.PrintWords Go.Proofs.YtlmmjchdfngdgaaW.PrintLast Go.Proofs.YtlmmjchdfngdgaaW.PrintMore
set_option linter.unusedVariables false

/-! ### live masks -/
/-! ### pairs -/
def pr95 (p : S95) : Int × Int := (p.f0, p.f1)
def mk95 (p : Int × Int) : S95 := ⟨p.1, p.2⟩
noncomputable def siT95 : TypeInfo := (Try.prog.info? 55).get (by kernel_rfl)
noncomputable def siE95 : TypeInfo := (Try.prog.info? 95).get (by kernel_rfl)

set_option maxHeartbeats 2000000 in
theorem less95 (blk off c Bs size : Nat) (W : World) (G : Nat → Int) (hs : W.cell? ⟨Bs, 0, none⟩ = some (.slice (some ⟨blk, off, none⟩) size c))
    (hc : ∀ t, t < size → W.cell? ⟨blk, off + t * 2, none⟩ = some (.int .u32 (G t))) (i j : Nat) (hi : i < size) (hj : j < size) :
    Calls Try.prog 63 #[.int .i64 i, .int .i64 j, .pointer (some ⟨Bs, 0, none⟩)] W fun e w' => e = .returned (.bool (decide (G i < G j))) ∧ ∃ q, w' = W.drewN q := by
  have ci := hc i hi
  have cj := hc j hj
  go_enter Try.func63, Try.ntmps63
  go_wp2
  go_quiet (fail)
  go_wp2
  go_ret
  exact ⟨rfl, nq, rfl⟩

theorem sort95 (blk off c Bs : Nat) (d : Array (Int × Int)) (hsz : d.size < 4611686018427387904) (w : World) (hH : HoldsK (encP .u16) 2 w blk off d) (hblk : blk < w.heap.size)
    (hBs : w.cell? ⟨Bs, 0, none⟩ = some (.slice (some ⟨blk, off, none⟩) d.size c)) (hB1 : Bs < w.heap.size) (hB2 : Bs ≠ blk) :
    Calls Try.prog 61 #[.iface 55 (.slice (some ⟨blk, off, none⟩) d.size c), .func (.func 63) #[] #[.pointer (some ⟨Bs, 0, none⟩)]] w fun e w' =>
      e = .returned (.tuple #[]) ∧ ∃ d' n os, PermIn 0 d.size d d' ∧ SortedIn ltP 0 d.size d' ∧ w' = grow (putRowK (encP .u16) 2 (Sort.ahead w n) blk off d') os := by
  by_cases h2 : 2 ≤ d.size
  · have hless : LessReadsK Try.prog 63 #[.pointer (some ⟨Bs, 0, none⟩)] (encP .u16) 2 ltP blk off d.size w := by
      intro m os dk hs i j hi hj
      have e : sortWorldK (encP .u16) 2 w blk off m dk os = putRowK (encP .u16) 2 (grow (Sort.ahead w m) os) blk off dk := by
        unfold sortWorldK; rw [putRowK_grow _ _ (Sort.ahead w m) _ blk off _ hblk]
      have hHg : HoldsK (encP .u16) 2 (grow (Sort.ahead w m) os) blk off d := holdsK_grow _ _ _ _ blk off d hblk (holdsK_ahead _ _ _ _ _ _ _ hH)
      refine less95 blk off c Bs d.size _ (fun t => dk[t]!.1) ?_ (fun t ht => ?_) i j hi hj
      · rw [e, cell?_putRowK_other _ _ _ blk off dk _ (by exact hB2), cell?_grow _ _ _ (by exact hB1)]; exact hBs
      · rw [e]; exact ((holdsK_putRowK _ _ _ blk off d dk hHg hs).cell (i := t) (c := 0) (by omega) (by omega)).1
    exact Any.sort_Slice_cells_sorted Try.sv6 55 95 siT95 siE95 (by kernel_rfl) (by kernel_rfl) (by kernel_rfl) (by kernel_rfl) 25 (fun _ => by kernel_rfl) (encP .u16) 2 (fun _ => rfl) (by kernel_rfl) (fun _ => by kernel_rfl)
      (fun x v hv => by simp [encP] at hv; rcases hv with rfl | rfl <;> rfl) ltP swo_ltP 63 _
      (enters_of Try.func63 (by kernel_rfl) rfl) blk off c d h2 hsz 76 (by rw [swapper_five (by kernel_rfl) (by kernel_rfl) _ _ h2]; kernel_rfl) true
      (fun args W => run_callFunc_extern Try.func76 (by kernel_rfl) (by kernel_rfl) (by kernel_rfl) (e := Extern.ReflectliteSwapper.swap true) (by kernel_rfl) args W) w hless hH hblk
  · refine (Any.sort_Slice_tiny Try.sv6 55 95 siT95 siE95 (by kernel_rfl) (by kernel_rfl) (by kernel_rfl) (by kernel_rfl) 25 (fun _ => by kernel_rfl) (some ⟨blk, off, none⟩) d.size c (by omega) (72 + d.size) (by
      rw [swapper_tiny _ _ (by omega)]
      rcases Nat.eq_zero_or_pos d.size with h | h
      · rw [h]; kernel_rfl
      · rw [show d.size = 1 by omega]; kernel_rfl) (.func 63) #[] #[.pointer (some ⟨Bs, 0, none⟩)] w).mono ?_
    rintro e w' ⟨he, os, rfl⟩
    refine ⟨he, d, 0, os, ⟨rfl, fun _ _ => rfl, List.Perm.refl _⟩, fun i j _ h3 h4 => by omega, ?_⟩
    rw [show Sort.ahead w 0 = w from rfl, putRowK_self _ _ _ _ _ _ hH]

theorem inner95 {w : World} {base : Nat} {ok : Nat → Prop} : ∀ {xs : List S95} {inner : List Value}, Reps (k95.M w base ok) 2 xs inner → inner = (xs.map pr95).flatMap (encP .u16)
  | [], inner, h => by have := h.1; simp at this; simp [this]
  | x :: r, inner, h => by
    have h0 := h.2 0 x rfl
    obtain ⟨c0, c1, e, rfl, rfl⟩ := h0
    simp only [Nat.zero_mul, List.drop_zero] at e
    have hr : Reps (k95.M w base ok) 2 r (inner.drop 2) := ⟨by rw [List.length_drop, h.1]; simp; omega, fun j p hj => by
      have := h.2 (j + 1) p (by simpa using hj)
      rw [List.drop_drop]
      rwa [show 2 + j * 2 = (j + 1) * 2 by omega]⟩
    have ih := inner95 hr
    rw [← List.take_append_drop 2 inner, e, ih]
    simp [encP, pr95]
theorem reps95 {w : World} {base : Nat} {ok : Nat → Prop} (xs : List (Int × Int)) : Reps (k95.M w base ok) 2 (xs.map mk95) (xs.flatMap (encP .u16)) := by
  refine ⟨by rw [length_flat2]; simp, fun j p hj => ?_⟩
  obtain ⟨q, hq, rfl⟩ : ∃ q, xs[j]? = some q ∧ mk95 q = p := by simpa using hj
  have : ((xs.flatMap (encP .u16)).drop (j * 2)).take 2 = encP .u16 q := by
    clear hj
    induction xs generalizing j with
    | nil => simp at hq
    | cons x r ih =>
      rcases j with _ | j
      · obtain rfl : x = q := by simpa using hq
        simp [encP]
      · have := ih j (by simpa using hq)
        rw [List.flatMap_cons, show (j + 1) * 2 = 2 + j * 2 by omega, ← List.drop_drop]
        simpa [encP] using this
  rw [this]
  exact k95_mkM _ _ _ (mk95 q)

/-- The sort at a slice of the call's own. -/
theorem sort95_R (N base : Nat) (ok : Nat → Prop) (v : Value) (xs : List S95) (w : World) (hR : k95.R 95 w base ok v xs) (hB : Boxed w N 55 v) (hsz : xs.length < 4611686018427387904) :
    Calls Try.prog 61 #[.iface 55 v, .func (.func 63) #[] #[.pointer (some ⟨N, 0, none⟩)]] w fun e w' =>
      e = .returned (.tuple #[]) ∧ ∃ ys : List (Int × Int), ys.Perm (xs.map pr95) ∧ ys.Pairwise (fun a b => a.1 ≤ b.1) ∧ k95.R 95 w' base ok v (ys.map mk95) ∧ w.grownBy w' v.ownBlock := by
  obtain ⟨hok, inner, hown, hr⟩ := hR
  have hin := inner95 hr
  rcases hown.2 with ⟨hnil, hl0⟩ | ⟨g, cap, cur, rfl, hbase, hb, h1, h2, h3, h4⟩
  · subst hnil
    have hx0 : xs = [] := List.eq_nil_of_length_eq_zero hl0
    subst hx0
    refine (Any.sort_Slice_tiny Try.sv6 55 95 siT95 siE95 (by kernel_rfl) (by kernel_rfl) (by kernel_rfl) (by kernel_rfl) 25 (fun _ => by kernel_rfl) none 0 0 (by omega) 72 (by
      rw [swapper_tiny _ _ (by omega)]; kernel_rfl) (.func 63) #[] #[.pointer (some ⟨N, 0, none⟩)] w).mono ?_
    rintro e w' ⟨he, os, rfl⟩
    exact ⟨he, [], by simp, List.Pairwise.nil, Kd.R_nil _ _ _ _ _, ⟨rfl, rfl, rfl, by simp, fun k hk _ => heap_grow_old _ _ hk⟩⟩
  have hg : g < w.heap.size := (Array.getElem?_eq_some_iff.1 hb).1
  have hne : N ≠ g := fun e => by
    have h := hB; unfold Boxed at h; rw [e, hb] at h; simp at h
  have hl : (xs.map pr95).toArray.size = xs.length := by simp
  have hlen : ((xs.map pr95).flatMap (encP .u16)).length = xs.length * 2 := by rw [length_flat2]; simp
  have hH : HoldsK (encP .u16) 2 w g 0 (xs.map pr95).toArray := by
    unfold HoldsK; rw [flatK2]
    exact holds_of_blockV hb (by rw [hlen, ← hin]; exact h4)
  have hS := sort95 g 0 cap N (xs.map pr95).toArray (by rw [hl]; exact hsz) w hH hg (by rw [hl]; exact hB.cell) hB.lt hne
  rw [hl] at hS
  refine hS.mono ?_
  rintro e w' ⟨he, d', n, os, hp, hs, rfl⟩
  rw [← hl] at hp hs
  obtain ⟨hp2, hs2⟩ := list_of_sorted hp hs
  have hdl : d'.toList.length = xs.length := by have := hp2.length_eq; simpa using this
  have hdl2 : (d'.toList.flatMap (encP .u16)).length = xs.length * 2 := by rw [length_flat2, hdl]
  have ew : putRowK (encP .u16) 2 (Sort.ahead w n) g 0 d' = putRow id (Sort.ahead w n) g 0 (d'.toList.flatMap (encP .u16)).toArray := by
    unfold putRowK; rw [← flatK2]
  refine ⟨he, d'.toList, by simpa using hp2, hs2, ?_, ?_⟩
  · refine ⟨hok, d'.toList.flatMap (encP .u16), ⟨by simp [hdl2, hdl, k95, Kd.iso, Kd.pair, Kd.int, Kd.scalar], Or.inr ⟨g, cap, _, by simp [hdl], hbase, by rw [ew]; exact heap_sortedV _ hb, by simpa [hdl] using h1, h2, by simp [putCells, h3, k95, Kd.iso, Kd.pair, Kd.int, Kd.scalar], ?_⟩⟩, ?_⟩
    · have := take_putCellsV cur (d'.toList.flatMap (encP .u16)) (by rw [hdl2, h3]; exact Nat.mul_le_mul_right 2 h1)
      rw [hdl2] at this
      simpa [hdl, k95, Kd.iso, Kd.pair, Kd.int, Kd.scalar] using this
    · exact reps95 d'.toList
  · rw [ew]; exact grownBy_sortedV _

set_option maxHeartbeats 4000000 in
set_option maxRecDepth 100000 in
theorem plain95_calls (b n : Nat) (D : DataW Unit) (w : World) (hD : w.ownsMap Try.prog 129 (plainElem Try.prog 22) b n D) (hn : n < 8589934592) :
    Calls Try.prog 48 #[.map (some b)] w fun e w' => ∃ v r, e = .returned v ∧ Kd.R k95 95 w' w.heap.size (fun _ => True) v (r.map mk95) ∧ Plain .u16 D r ∧ Below w.heap.size w w' := by
  have hbl := hD.lt
  have hcnt : Maps.size D ≤ n := hD.size_le
  go_enter Try.func48, Try.ntmps48
  go_wp2_with (first
    | (at_range; refine wpList_range_own _ rfl _ 99 rfl 129 22 key129 Try.underlying99 _ b n _ rfl (hD.alloc _) ?_; intro w0 hrg0 hg0 hs0)
    | go_in)
  go_frame
  have e1 : (w.alloc (.cells #[.slice none 0 0] 55)).heap.size = w.heap.size + 1 := by simp
  rw [e1] at hrg0 hs0 ⊢
  have HBX0 := Aside0.mk ((Boxed.new w 55 (.slice none 0 0)).kept hg0 (by simp))
  have HRG := Aside0.mk hrg0
  have HB0 := Aside0.mk (((Below.refl w.heap.size w).alloc (Nat.le_refl _) (.cells #[.slice none 0 0] 55)).grown hg0 (by simp) (fun j hj => by cases hj))
  have HS := Aside0.mk hs0
  clear hrg0 hg0 hs0
  go_loopw [4, 5] (fun _ _ wr => ∃ (left : Lit → Bool) (cnt : Nat) (o : List (Int × Int)) (v : Value), wr.ranges Try.prog 129 (plainElem Try.prog 22) b (w.heap.size + 1) n D left cnt ∧ o.length + cnt ≤ n ∧
      Boxed wr w.heap.size 55 v ∧ Kd.R k95 95 wr (w.heap.size + 2) (fun k => w.heap.size + 2 ≤ k) v (o.map mk95) ∧ Coll .u16 D left o ∧ Below w.heap.size w wr ∧ w.heap.size + 2 ≤ wr.heap.size)
    (fun _ _ wr => wr.rangeLeft b (w.heap.size + 1))
  case atStart =>
    exact ⟨_, _, [], _, HRG.out, by simpa using hcnt, HBX0.out, Kd.R_nil _ _ _ _ _, coll_start _ D, HB0.out, by have := HS.out; omega⟩
  case round =>
    obtain ⟨left, cnt, o, v, hrg, hcs, hbx, hR, hC, hbw, hsw⟩ := hrel
    obtain ⟨Ao, co, rfl⟩ := Kd.R_slice hR
    rw [List.length_map] at hbx hR
    go_wp2_with (first
      | (at_next; refine wpList_next_ranges_ii _ rfl _ rfl 129 22 .u32 .u16 key129 Try.underlying129 Try.underlying22 b (w.heap.size + 1) n _ _ _ rfl hrg ?_ ?_)
      | go_in)
    · intro hc0 hl0
      have hcell := hbx.cell
      have hfr := hbx.frozen
      have hne : some w.heap.size ≠ (Value.slice Ao o.length co).ownBlock := Kd.R_ne hR hbx (by decide)
      have hob : ∀ k, (Value.slice Ao o.length co).ownBlock = some k → w.heap.size + 2 ≤ k := hR.1
      have HBX := Aside0.mk hbx
      have HR := Aside0.mk hR
      clear hbx hR
      go_wp2_with (first
        | (go_at_call 61; (with_reducible refine (sort95_R w.heap.size _ _ _ _ _ HR.out HBX.out (by simp; omega)).mono ?_); rintro e w2 ⟨rfl, ys, hp, hs, hR2, hg2⟩; have hcell2 := (HBX.out.kept hg2 hne).cell; have HR2 := Aside0.mk hR2; have HG2 := Aside0.mk hg2; clear hR2 hg2)
        | go_in)
      go_ret
      have hmm : (o.map mk95).map pr95 = o := by rw [List.map_map]; exact List.map_id _
      rw [hmm] at hp
      exact ⟨_, ys, rfl, Kd.R_mono (Kd.R_lower HR2.out (by omega)) (fun _ _ => trivial), plain_of_coll hC hl0 hp hs, hbw.grown HG2.out (by omega) (fun j hj => by have := hob _ hj; omega)⟩
    · intro x c w1 cnt1 hwx hwc hlx hat hrg1 hlt hg1 hs1 hen
      have hbx1 := hbx.kept hg1 (by simp)
      have hcell := hbx1.cell
      have hfr := hbx1.frozen
      have HBX1 := Aside0.mk hbx1
      have HRG1 := Aside0.mk hrg1
      have HR1 := Aside0.mk (Kd.R_grown hR hg1 (fun k hk => by simp; omega))
      have HB1 := Aside0.mk (hbw.grown hg1 (by omega) (fun j hj => by cases hj; omega))
      have HS1 := Aside0.mk hs1
      have HSW := Aside0.mk hsw
      have hne1 : some w.heap.size ≠ (Value.slice Ao o.length co).ownBlock := Kd.R_ne HR1.out hbx1 (by decide)
      have hob : ∀ k, (Value.slice Ao o.length co).ownBlock = some k → w.heap.size + 2 ≤ k := HR1.out.1
      have HRG := Aside0.mk hrg
      clear hbx1 hrg1 hs1 hbx hR hrg hsw
      go_wp2_with (first
        | ((with_reducible refine gate_builtin (b := .append) (xs := #[.tmp 13, .tmp 17]) rfl ?_); at_builtin; refine Kd.R_append k95 (w0 := w1) (w.heap.size + 2) rfl (.tmp 13) (.tmp 17) 55 95 (.agg #[(.int .u32 0), (.int .u16 0)]) 8 rfl Try.underlying55 info95 rfl (by decide) (by omega) (.slice Ao o.length co) (o.map mk95) (⟨x, c⟩ : S95) [.int .u32 x, .int .u16 c] (fun k => w.heap.size + 2 ≤ k) (fun _ => False) rfl rfl (k95_mkM _ _ _ (⟨x, c⟩ : S95)) (fun _ hk => hk.elim) ?aF HR1.out (Below.refl _ _) ?aS ?aL ?_
           case aF => (intro k hk; have := HS1.out; have := HSW.out; omega)
           case aS => (have := HS1.out; have := HSW.out; omega)
           case aL => (rw [List.length_map]; omega)
           intro v2 w2 ho2 hb2 hg2 hat2
           have HBX2 := Aside0.mk (HBX1.out.kept hg2 hne1)
           have hcell2 := HBX2.out.cell
           have hfr2 := HBX2.out.frozen
           obtain ⟨A2, c2, rfl⟩ := Kd.R_slice ho2
           have HO2 : Aside0 (k95.R 95 w2 (w.heap.size + 2) (fun k => w.heap.size + 2 ≤ k) (.slice A2 (o.length + 1) c2) ((o ++ [(x, c)]).map mk95)) := ⟨by rw [List.length_append, List.length_map, List.length_singleton] at ho2; rw [List.map_append]; exact ho2⟩
           clear ho2 hb2 hat2
           go_frame)
        | go_in)
      have hgs := grownBy_setCell' w2 w.heap.size (.slice A2 (o.length + 1) c2)
      have hneO : some w.heap.size ≠ (Value.slice A2 (o.length + 1) c2).ownBlock := Kd.R_ne HO2.out HBX2.out (by decide)
      have hrg2 := HRG1.out.kept hg2 (fun e => by have := hob _ e.symm; omega) (fun e => by have := hob _ e.symm; omega)
      have hrg3 := hrg2.kept hgs (fun e => by have := Option.some.inj e; omega) (fun e => by have := Option.some.inj e; omega)
      refine ⟨⟨_, cnt1, o ++ [(x, c)], _, hrg3, by simp; omega, HBX2.out.set _, ?_, coll_step hC hlx hat, ?_, ?_⟩, ?_⟩
      · exact Kd.R_far (p := ⟨w.heap.size, 0, none⟩) HO2.out (fun k hk => by show k ≠ w.heap.size; omega) _
      · exact (HB1.out.grown hg2 (by have := HS1.out; have := HSW.out; omega) (fun j hj => by have := hob _ hj; omega)).setCell (p := ⟨w.heap.size, 0, none⟩) (Nat.le_refl _) _
      · have := hg2.size; have := HS1.out; have := HSW.out; have := hgs.size; omega
      · rw [hrg3.left_eq, HRG.out.left_eq]; exact hlt

def putL (D : DataW Unit) (p : S95) : DataW Unit := D.put (.int .u32 p.f0) (.lit (.int .u16 p.f1))
def mapL (l : List S95) : DataW Unit := l.foldl putL (.map [])
theorem newMasks_calls (w : World) : Calls Try.prog 64 #[] w fun e w' => e = .returned (.map (some w.heap.size)) ∧ w' = w.alloc (.map #[] 0) := by
  have hmm := @run_makeMap Try.prog
  go_enter Try.func64, Try.ntmps64
  go_wp2
  go_ret
  exact ⟨rfl, rfl⟩

set_option maxHeartbeats 4000000 in
set_option maxRecDepth 100000 in
theorem masks_calls (A : Option Addr) (c : Nat) (l : List S95) (w : World) (hr : Kd.C k95 w A l.length l) (hw : ∀ p ∈ l, wfk p.f0 = true ∧ wfe p.f1 = true) (hlen : l.length < 4294967296) :
    Calls Try.prog 49 #[.slice A l.length c] w fun e w' => ∃ b, e = .returned (.map (some b)) ∧ w.heap.size ≤ b ∧ w'.ownsMap Try.prog 129 (plainElem Try.prog 22) b l.length (mapL l) ∧ Below w.heap.size w w' := by
  have HR := Aside0.mk hr
  clear hr
  go_enter Try.func49, Try.ntmps49
  go_wp2_with (first | (go_at_call 64; ((with_reducible refine (newMasks_calls _).mono ?_); rintro e w1 ⟨rfl, rfl⟩)))
  have HM0 := Aside0.mk (World.ownsMap_made (H := Unit) w Try.prog 129 (plainElem Try.prog 22))
  have HB0 := Aside0.mk ((Below.refl w.heap.size w).alloc (Nat.le_refl _) (.map #[] 0))
  go_loopg [9] l.length (fun kq v9 wr => ∃ i : Nat, v9 = .int .i64 (i : Int) ∧ Aside0 (i + kq = l.length) ∧ Aside0 (wr.ownsMap Try.prog 129 (plainElem Try.prog 22) w.heap.size i (mapL (l.take i))) ∧ Aside0 (Below w.heap.size w wr))
  case atStart => exact ⟨0, rfl, ⟨by simp⟩, ⟨by simpa [mapL] using HM0.out⟩, HB0⟩
  case round =>
    obtain ⟨i, rfl, HK, HM, HB⟩ := hrel
    cases gk with
    | zero =>
      have e' : (i < l.length) = False := eq_false (by have := HK.out; omega)
      go_wp2
      go_ret
      have e2 : i = l.length := by have := HK.out; omega
      subst e2
      have h := HM.out
      rw [List.take_length] at h
      exact ⟨_, rfl, Nat.le_refl _, h, HB.out⟩
    | succ k =>
      have hi : i < l.length := by have := HK.out; omega
      obtain ⟨p, hp⟩ : ∃ p, l[i]? = some p := ⟨_, List.getElem?_eq_getElem hi⟩
      have hwi := hw p (List.mem_of_getElem? hp)
      have hrd : rd_T95 l (i : Int) = p := by unfold rd_T95; simp [List.getD, hp]
      have hstep : mapL (l.take (i + 1)) = putL (mapL (l.take i)) p := by
        obtain ⟨_, e⟩ := List.getElem?_eq_some_iff.1 hp
        unfold mapL; rw [take_foldl putL _ l i hi, e]
      obtain ⟨ad, rfl, h0, h1⟩ := at_T95 HR.out (i : Int) (by omega) (by omega)
      rw [Int.toNat_natCast, hrd] at h0 h1
      replace h0 := (HB.out.cell (World.block_lt_of_cell? w _ h0)).trans h0
      replace h1 := (HB.out.cell (World.block_lt_of_cell? w _ h1)).trans h1
      have e' : (i < l.length) = True := eq_true hi
      clear hi
      have hsz := HB.out.size
      go_wp2_with (first
        | (at_mapUpdate; refine wpList_mapUpdate_own _ rfl _ _ _ 99 rfl 129 22 key129 Try.underlying99 _ w.heap.size _ _ rfl (HM.out.alloc _) (by have := HK.out; simp only [maxLen]; omega) _ _ _ rfl rfl (keyOf_int_mk Try.underlying129 (wf32 hwi.1)) _ [] (plainElem_int Try.underlying22 (wf16 hwi.2)) ?_; intro w2 hm2 hg2; go_frame)
        | go_in)
      have HM2 := Aside0.mk hm2
      have HG2 := Aside0.mk hg2
      clear hm2 hg2
      go_roundg k
      case measure => have := HK.out; omega
      case rel =>
        refine ⟨i + 1, by have := HK.out; simp [wrap64]; omega, ⟨by have := HK.out; omega⟩, ⟨by rw [hstep]; exact HM2.out⟩, ⟨?_⟩⟩
        have hb0 : w.heap.size < wr.heap.size := HM.out.lt
        exact (HB.out.alloc (Nat.le_of_lt hb0) _).grown HG2.out (by simp; omega) (fun j hj => by cases hj; exact Nat.le_refl _)

end Go.Proofs.Ytlmmjchdfngdgaa.Q
