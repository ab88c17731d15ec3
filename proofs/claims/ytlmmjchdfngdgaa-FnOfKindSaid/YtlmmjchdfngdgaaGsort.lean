import Derived.Test.YtlmmjchdfngdgaaGb
import Derived.Test.YtlmmjchdfngdgaaShelf
import Derived.Shelf.GgSortFunc.Tiny
import Derived.Sort.OwnSortedInts
import Derived.RangeFuncBox
namespace Go.Proofs.Ytlmmjchdfngdgaa.Q
open Go.RowKit Go.Shelf Go.Lib Go.Sort Go.Proofs.YtlmmjchdfngdgaaW.PrintWords Go.Proofs.YtlmmjchdfngdgaaW.PrintLast Go.Proofs.YtlmmjchdfngdgaaW.PrintMore
set_option linter.unusedVariables false

def encP (q : IntKind) (p : Int × Int) : List Value := [.int .u32 p.1, .int q p.2]
def ltP (a b : Int × Int) : Bool := decide (a.1 < b.1)
theorem swo_ltP : SWO ltP where
  irrefl := fun x => by simp [ltP]
  trans := fun x y z h1 h2 => by simp [ltP] at *; omega
  ntrans := fun x y z h1 h2 => by simp [ltP] at *; omega

theorem get_flat2 (q : IntKind) : ∀ (d : List (Int × Int)) (t : Nat), t < d.length * 2 → (d.flatMap (encP q))[t]! = (encP q (d[t / 2]!))[t % 2]!
  | [], t, h => by simp at h
  | x :: r, t, h => by
    rcases t with _ | _ | t
    · simp [encP]
    · simp [encP]
    · have e1 : (t + 1 + 1) / 2 = t / 2 + 1 := by omega
      have e2 : (t + 1 + 1) % 2 = t % 2 := by omega
      have ih := get_flat2 q r t (by simp at h; omega)
      rw [e1, e2]
      have : ((x :: r).flatMap (encP q))[t + 1 + 1]! = (r.flatMap (encP q))[t]! := by simp [List.flatMap_cons, encP]
      rw [this, ih]
      simp
theorem length_flat2 (q : IntKind) : ∀ d : List (Int × Int), (d.flatMap (encP q)).length = d.length * 2
  | [] => rfl
  | x :: r => by rw [List.flatMap_cons, List.length_append, length_flat2 q r]; simp [encP]; omega
theorem flatK2 (q : IntKind) (d : List (Int × Int)) : flatK (encP q) 2 d.toArray = (d.flatMap (encP q)).toArray := by
  refine ext_get! (by simp only [size_flatK]; simp only [List.size_toArray, length_flat2]) fun t ht => ?_
  have ht' : t < d.length * 2 := by simpa using ht
  rw [get_flatK _ _ _ _ (by simpa using ht')]
  have := get_flat2 q d t ht'
  simp only [List.getElem!_toArray]
  exact this.symm

theorem holds_of_blockV {w : World} {g : Nat} {cur : Array Value} {e : TypeId} {vs : List Value} (hb : w.heap[g]? = some (.cells cur e (0, 0))) (ht : cur.toList.take vs.length = vs) : Holds id w g 0 vs.toArray := by
  intro j hj
  have hj' : j < vs.length := by simpa using hj
  refine ⟨?_, by simp [World.frozen?, hb]⟩
  have h1 : (cur.toList.take vs.length)[j]? = vs[j]? := by rw [ht]
  rw [List.getElem?_take_of_lt hj'] at h1
  simp only [World.cell?, hb, Nat.zero_add]
  simp only [Option.isSome_none, Bool.false_eq_true, if_false]
  rw [← Array.getElem?_toList, h1]
  simp [hj']
theorem heap_sortedV {w : World} {g n : Nat} {os : Array Obj} {cur : Array Value} {e : TypeId} {fr : Nat × Nat} (d : Array Value) (hb : w.heap[g]? = some (.cells cur e fr)) :
    (grow (putRow id (Sort.ahead w n) g 0 d) os).heap[g]? = some (.cells (putCells id 0 d cur) e fr) := by
  have hg : g < w.heap.size := (Array.getElem?_eq_some_iff.1 hb).1
  rw [heap_grow_old _ _ (by simpa using hg)]
  simp [putRow, mapBlock, Sort.ahead, Array.getElem?_modify, hb, onCells]
theorem grownBy_sortedV {w : World} {g n : Nat} {os : Array Obj} (d : Array Value) : w.grownBy (grow (putRow id (Sort.ahead w n) g 0 d) os) (some g) := by
  refine ⟨rfl, rfl, rfl, by simp, fun k hk hne => ?_⟩
  rw [heap_grow_old _ _ (by simpa using hk)]
  have : g ≠ k := fun e => hne (by rw [e])
  simp [putRow, mapBlock, Sort.ahead, Array.getElem?_modify, this]
theorem take_putCellsV (cur : Array Value) (ts : List Value) (h : ts.length ≤ cur.size) : (putCells id 0 ts.toArray cur).toList.take ts.length = ts := by
  apply List.ext_getElem?
  intro j
  by_cases hj : j < ts.length
  · rw [List.getElem?_take_of_lt hj, Array.getElem?_toList]
    simp [putCells, hj, show j < cur.size by omega]
  · rw [List.getElem?_take_eq_none (by omega), List.getElem?_eq_none (by omega)]

theorem swapper_five {ie : TypeInfo} (a : ie.hasPointers = false) (b : ie.bytes = 8) (ke n : Nat) (h2 : 2 ≤ n) : Lib.swapperK n ie ke = 5 := by
  have c : (n == 0) = false := by simp; omega
  have d : (n == 1) = false := by simp; omega
  simp [Lib.swapperK, a, b, c, d]
theorem swapper_tiny {ie : TypeInfo} (ke n : Nat) (h2 : n ≤ 1) : Lib.swapperK n ie ke = n + 1 := by
  rcases Nat.eq_zero_or_pos n with h | h
  · subst h; simp [Lib.swapperK]
  · obtain rfl : n = 1 := by omega
    simp [Lib.swapperK]

/-- From the sort's words to lists. -/
theorem list_of_sorted {d d' : Array (Int × Int)} (hp : PermIn 0 d.size d d') (hs : SortedIn ltP 0 d.size d') : d'.toList.Perm d.toList ∧ d'.toList.Pairwise (fun a b => a.1 ≤ b.1) := by
  obtain ⟨h1, _, h3⟩ := hp
  refine ⟨?_, ?_⟩
  · have e1 : d'.extract 0 d.size = d' := by rw [← h1]; simp
    have e2 : d.extract 0 d.size = d := by simp
    rw [e1, e2] at h3
    exact h3
  · rw [List.pairwise_iff_getElem]
    intro i j hi hj hij
    simp only [Array.length_toList] at hi hj
    have := hs i j (Nat.zero_le _) hij (by omega)
    rw [getElem!_pos d' i hi, getElem!_pos d' j hj] at this
    simp only [ltP, decide_eq_false_iff_not] at this
    simp only [Array.getElem_toList]
    omega

/-! ### pairs -/
def pr53 (p : S53) : Int × Int := (p.f0, p.f1)
def mk53 (p : Int × Int) : S53 := ⟨p.1, p.2⟩
noncomputable def siT53 : TypeInfo := (Try.prog.info? 48).get (by kernel_rfl)
noncomputable def siE53 : TypeInfo := (Try.prog.info? 53).get (by kernel_rfl)

set_option maxHeartbeats 2000000 in
theorem less53 (blk off c Bs size : Nat) (W : World) (G : Nat → Int) (hs : W.cell? ⟨Bs, 0, none⟩ = some (.slice (some ⟨blk, off, none⟩) size c))
    (hc : ∀ t, t < size → W.cell? ⟨blk, off + t * 2, none⟩ = some (.int .u32 (G t))) (i j : Nat) (hi : i < size) (hj : j < size) :
    Calls Try.prog 62 #[.int .i64 i, .int .i64 j, .pointer (some ⟨Bs, 0, none⟩)] W fun e w' => e = .returned (.bool (decide (G i < G j))) ∧ ∃ q, w' = W.drewN q := by
  have ci := hc i hi
  have cj := hc j hj
  go_enter Try.func62, Try.ntmps62
  go_wp2
  go_quiet (fail)
  go_wp2
  go_ret
  exact ⟨rfl, nq, rfl⟩

theorem sort53 (blk off c Bs : Nat) (d : Array (Int × Int)) (hsz : d.size < 4611686018427387904) (w : World) (hH : HoldsK (encP .u32) 2 w blk off d) (hblk : blk < w.heap.size)
    (hBs : w.cell? ⟨Bs, 0, none⟩ = some (.slice (some ⟨blk, off, none⟩) d.size c)) (hB1 : Bs < w.heap.size) (hB2 : Bs ≠ blk) :
    Calls Try.prog 61 #[.iface 48 (.slice (some ⟨blk, off, none⟩) d.size c), .func (.func 62) #[] #[.pointer (some ⟨Bs, 0, none⟩)]] w fun e w' =>
      e = .returned (.tuple #[]) ∧ ∃ d' n os, PermIn 0 d.size d d' ∧ SortedIn ltP 0 d.size d' ∧ w' = grow (putRowK (encP .u32) 2 (Sort.ahead w n) blk off d') os := by
  by_cases h2 : 2 ≤ d.size
  · have hless : LessReadsK Try.prog 62 #[.pointer (some ⟨Bs, 0, none⟩)] (encP .u32) 2 ltP blk off d.size w := by
      intro m os dk hs i j hi hj
      have e : sortWorldK (encP .u32) 2 w blk off m dk os = putRowK (encP .u32) 2 (grow (Sort.ahead w m) os) blk off dk := by
        unfold sortWorldK; rw [putRowK_grow _ _ (Sort.ahead w m) _ blk off _ hblk]
      have hHg : HoldsK (encP .u32) 2 (grow (Sort.ahead w m) os) blk off d := holdsK_grow _ _ _ _ blk off d hblk (holdsK_ahead _ _ _ _ _ _ _ hH)
      refine less53 blk off c Bs d.size _ (fun t => dk[t]!.1) ?_ (fun t ht => ?_) i j hi hj
      · rw [e, cell?_putRowK_other _ _ _ blk off dk _ (by exact hB2), cell?_grow _ _ _ (by exact hB1)]; exact hBs
      · rw [e]; exact ((holdsK_putRowK _ _ _ blk off d dk hHg hs).cell (i := t) (c := 0) (by omega) (by omega)).1
    exact Any.sort_Slice_cells_sorted Try.sv6 48 53 siT53 siE53 (by kernel_rfl) (by kernel_rfl) (by kernel_rfl) (by kernel_rfl) 25 (fun _ => by kernel_rfl) (encP .u32) 2 (fun _ => rfl) (by kernel_rfl) (fun _ => by kernel_rfl)
      (fun x v hv => by simp [encP] at hv; rcases hv with rfl | rfl <;> rfl) ltP swo_ltP 62 _
      (enters_of Try.func62 (by kernel_rfl) rfl) blk off c d h2 hsz 76 (by rw [swapper_five (by kernel_rfl) (by kernel_rfl) _ _ h2]; kernel_rfl) true
      (fun args W => run_callFunc_extern Try.func76 (by kernel_rfl) (by kernel_rfl) (by kernel_rfl) (e := Extern.ReflectliteSwapper.swap true) (by kernel_rfl) args W) w hless hH hblk
  · refine (Any.sort_Slice_tiny Try.sv6 48 53 siT53 siE53 (by kernel_rfl) (by kernel_rfl) (by kernel_rfl) (by kernel_rfl) 25 (fun _ => by kernel_rfl) (some ⟨blk, off, none⟩) d.size c (by omega) (72 + d.size) (by
      rw [swapper_tiny _ _ (by omega)]
      rcases Nat.eq_zero_or_pos d.size with h | h
      · rw [h]; kernel_rfl
      · rw [show d.size = 1 by omega]; kernel_rfl) (.func 62) #[] #[.pointer (some ⟨Bs, 0, none⟩)] w).mono ?_
    rintro e w' ⟨he, os, rfl⟩
    refine ⟨he, d, 0, os, ⟨rfl, fun _ _ => rfl, List.Perm.refl _⟩, fun i j _ h3 h4 => by omega, ?_⟩
    rw [show Sort.ahead w 0 = w from rfl, putRowK_self _ _ _ _ _ _ hH]

theorem inner53 {w : World} {base : Nat} {ok : Nat → Prop} : ∀ {xs : List S53} {inner : List Value}, Reps (k53.M w base ok) 2 xs inner → inner = (xs.map pr53).flatMap (encP .u32)
  | [], inner, h => by have := h.1; simp at this; simp [this]
  | x :: r, inner, h => by
    have h0 := h.2 0 x rfl
    obtain ⟨c0, c1, e, rfl, rfl⟩ := h0
    simp only [Nat.zero_mul, List.drop_zero] at e
    have hr : Reps (k53.M w base ok) 2 r (inner.drop 2) := ⟨by rw [List.length_drop, h.1]; simp; omega, fun j p hj => by
      have := h.2 (j + 1) p (by simpa using hj)
      rw [List.drop_drop]
      rwa [show 2 + j * 2 = (j + 1) * 2 by omega]⟩
    have ih := inner53 hr
    rw [← List.take_append_drop 2 inner, e, ih]
    simp [encP, pr53]
theorem reps53 {w : World} {base : Nat} {ok : Nat → Prop} (xs : List (Int × Int)) : Reps (k53.M w base ok) 2 (xs.map mk53) (xs.flatMap (encP .u32)) := by
  refine ⟨by rw [length_flat2]; simp, fun j p hj => ?_⟩
  obtain ⟨q, hq, rfl⟩ : ∃ q, xs[j]? = some q ∧ mk53 q = p := by simpa using hj
  have : ((xs.flatMap (encP .u32)).drop (j * 2)).take 2 = encP .u32 q := by
    clear hj
    induction xs generalizing j with
    | nil => simp at hq
    | cons x r ih =>
      rcases j with _ | j
      · obtain rfl : x = q := by simpa using hq
        simp [encP]
      · have := ih j (by simpa using hq)
        rw [List.flatMap_cons, show (j + 1) * 2 = 2 + j * 2 by omega, ← List.drop_drop]
        simpa [encP] using this
  rw [this]
  exact k53_mkM _ _ _ (mk53 q)

/-- The sort at a slice of the call's own. -/
theorem sort53_R (N base : Nat) (ok : Nat → Prop) (v : Value) (xs : List S53) (w : World) (hR : k53.R 53 w base ok v xs) (hB : Boxed w N 48 v) (hsz : xs.length < 4611686018427387904) :
    Calls Try.prog 61 #[.iface 48 v, .func (.func 62) #[] #[.pointer (some ⟨N, 0, none⟩)]] w fun e w' =>
      e = .returned (.tuple #[]) ∧ ∃ ys : List (Int × Int), ys.Perm (xs.map pr53) ∧ ys.Pairwise (fun a b => a.1 ≤ b.1) ∧ k53.R 53 w' base ok v (ys.map mk53) ∧ w.grownBy w' v.ownBlock := by
  obtain ⟨hok, inner, hown, hr⟩ := hR
  have hin := inner53 hr
  rcases hown.2 with ⟨hnil, hl0⟩ | ⟨g, cap, cur, rfl, hbase, hb, h1, h2, h3, h4⟩
  · subst hnil
    have hx0 : xs = [] := List.eq_nil_of_length_eq_zero hl0
    subst hx0
    refine (Any.sort_Slice_tiny Try.sv6 48 53 siT53 siE53 (by kernel_rfl) (by kernel_rfl) (by kernel_rfl) (by kernel_rfl) 25 (fun _ => by kernel_rfl) none 0 0 (by omega) 72 (by
      rw [swapper_tiny _ _ (by omega)]; kernel_rfl) (.func 62) #[] #[.pointer (some ⟨N, 0, none⟩)] w).mono ?_
    rintro e w' ⟨he, os, rfl⟩
    exact ⟨he, [], by simp, List.Pairwise.nil, Kd.R_nil _ _ _ _ _, ⟨rfl, rfl, rfl, by simp, fun k hk _ => heap_grow_old _ _ hk⟩⟩
  have hg : g < w.heap.size := (Array.getElem?_eq_some_iff.1 hb).1
  have hne : N ≠ g := fun e => by
    have h := hB; unfold Boxed at h; rw [e, hb] at h; simp at h
  have hl : (xs.map pr53).toArray.size = xs.length := by simp
  have hlen : ((xs.map pr53).flatMap (encP .u32)).length = xs.length * 2 := by rw [length_flat2]; simp
  have hH : HoldsK (encP .u32) 2 w g 0 (xs.map pr53).toArray := by
    unfold HoldsK; rw [flatK2]
    exact holds_of_blockV hb (by rw [hlen, ← hin]; exact h4)
  have hS := sort53 g 0 cap N (xs.map pr53).toArray (by rw [hl]; exact hsz) w hH hg (by rw [hl]; exact hB.cell) hB.lt hne
  rw [hl] at hS
  refine hS.mono ?_
  rintro e w' ⟨he, d', n, os, hp, hs, rfl⟩
  rw [← hl] at hp hs
  obtain ⟨hp2, hs2⟩ := list_of_sorted hp hs
  have hdl : d'.toList.length = xs.length := by have := hp2.length_eq; simpa using this
  have hdl2 : (d'.toList.flatMap (encP .u32)).length = xs.length * 2 := by rw [length_flat2, hdl]
  have ew : putRowK (encP .u32) 2 (Sort.ahead w n) g 0 d' = putRow id (Sort.ahead w n) g 0 (d'.toList.flatMap (encP .u32)).toArray := by
    unfold putRowK; rw [← flatK2]
  refine ⟨he, d'.toList, by simpa using hp2, hs2, ?_, ?_⟩
  · refine ⟨hok, d'.toList.flatMap (encP .u32), ⟨by simp [hdl2, hdl, k53, Kd.iso, Kd.pair, Kd.int, Kd.scalar], Or.inr ⟨g, cap, _, by simp [hdl], hbase, by rw [ew]; exact heap_sortedV _ hb, by simpa [hdl] using h1, h2, by simp [putCells, h3, k53, Kd.iso, Kd.pair, Kd.int, Kd.scalar], ?_⟩⟩, ?_⟩
    · have := take_putCellsV cur (d'.toList.flatMap (encP .u32)) (by rw [hdl2, h3]; exact Nat.mul_le_mul_right 2 h1)
      rw [hdl2] at this
      simpa [hdl, k53, Kd.iso, Kd.pair, Kd.int, Kd.scalar] using this
    · exact reps53 d'.toList
  · rw [ew]; exact grownBy_sortedV _
end Go.Proofs.Ytlmmjchdfngdgaa.Q
