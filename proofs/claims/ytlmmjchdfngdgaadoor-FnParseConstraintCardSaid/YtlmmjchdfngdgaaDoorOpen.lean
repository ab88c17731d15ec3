/- Every plain datum that a law of this seat is given is opened: read as its Lean value, with its sizes. Plain lemmas over any program. -/
import Derived.Test.YtlmmjchdfngdgaaDoorWWords
import Derived.SizedLaws
import Derived.ChangeArms
import Derived.ChangeOld
import Derived.Deep.Slices
namespace Go.Proofs.YtlmmjchdfngdgaaDoor.Open
open Go.RowKit Go.Proofs.YtlmmjchdfngdgaaDoorW.PrintWords

/-- A type's reading is a value of kind K that meets L. -/
structure Opens {α : Type} (P : Program) (t : TypeId) (K : Kd α) (L : α → Prop) : Prop where
  size : P.cellsOf t = K.sz
  get : ∀ {H : Type} {enc : TypeId × Value → H} {w : World} {held : Bool} {fuel : Nat} {cs : List Value} {x : DataW H × List MemPlace},
    DataW.trod enc P w 0 (fun _ => true) held fuel t cs = some x → (∀ n ∈ x.1.weights P t, n ≤ reachBytes) → ∃ a : α, K.K w a cs ∧ L a

theorem Opens.mono {α : Type} {P : Program} {t : TypeId} {K : Kd α} {L L' : α → Prop} (h : Opens P t K L) (hL : ∀ a, L a → L' a) : Opens P t K L' :=
  ⟨h.size, fun ht hw => let ⟨a, h1, h2⟩ := h.get ht hw; ⟨a, h1, hL a h2⟩⟩

theorem Opens.int {P : Program} {t : TypeId} {k : IntKind} (hc : P.cellsOf t = 1) (ht : P.underlying t = some (.int k)) : Opens P t (Kd.int k) (fun n => (Lit.int k n).wf = true) :=
  ⟨hc, fun h _ => by
    obtain ⟨n, rfl, _, hw⟩ := DataW.trod_int ht h
    exact ⟨n, rfl, hw⟩⟩

theorem Opens.bool {P : Program} {t : TypeId} (hc : P.cellsOf t = 1) (ht : P.underlying t = some .bool) : Opens P t Kd.bool (fun _ => True) :=
  ⟨hc, fun h _ => by
    obtain ⟨n, rfl, _⟩ := DataW.trod_bool ht h
    exact ⟨n, rfl, trivial⟩⟩

theorem Opens.string {P : Program} {t : TypeId} (hc : P.cellsOf t = 1) (ht : P.underlying t = some .string) : Opens P t Kd.string (fun s => s.size ≤ 140737488351232) :=
  ⟨hc, fun h hw => by
    obtain ⟨s, rfl, rfl, _⟩ := DataW.trod_string ht h
    refine ⟨s, rfl, ?_⟩
    have := hw s.data.toList.length (by simp [DataW.weights])
    rw [Array.length_toList] at this
    exact this⟩

theorem cells?_get {w : World} {a : Addr} {n : Nat} {cs : List Value} (h : w.cells? 0 a n = some cs) : cs.length = n ∧ ∀ i u, cs[i]? = some u → w.cell? (a.add i) = some u := by
  obtain ⟨_, h1, h2⟩ := World.cells?_some h
  refine ⟨h1, fun i u hu => ?_⟩
  have hi : i < n := by
    rcases Nat.lt_or_ge i n with hi | hi
    · exact hi
    · rw [List.getElem?_eq_none (by omega)] at hu; cases hu
  rw [h2 i hi]
  exact hu

theorem addr_add_add (a : Addr) (i j : Nat) : (a.add i).add j = a.add (i + j) := by
  unfold Addr.add
  by_cases h1 : i = 0 <;> by_cases h2 : j = 0 <;> simp [h1, h2, Nat.add_assoc]

theorem weights_slice {H : Type} {P : Program} {t e : TypeId} {elems spare : List (DataW H)} (hu : P.underlying t = some (.slice e)) {d : DataW H} (hd : d ∈ elems) {n : Nat} (hn : n ∈ d.weights P e) : n ∈ (DataW.slice elems spare).weights P t := by
  have : ∀ (l : List (DataW H)), d ∈ l → n ∈ DataW.weightsAll P e l := by
    intro l
    induction l with
    | nil => intro h; cases h
    | cons x l ih =>
      intro h
      simp only [DataW.weightsAll, List.mem_append]
      rcases List.mem_cons.1 h with rfl | h
      · exact .inl hn
      · exact .inr (ih h)
  simp only [DataW.weights, hu, List.mem_cons, List.mem_append]
  exact .inr (.inl (this _ hd))

theorem list_choose {α : Type} {n : Nat} {p : Nat → α → Prop} (h : ∀ i, i < n → ∃ a, p i a) : ∃ l : List α, l.length = n ∧ ∀ i a, l[i]? = some a → p i a := by
  induction n with
  | zero => exact ⟨[], rfl, fun i a ha => by simp at ha⟩
  | succ n ih =>
    obtain ⟨l, hl, hp⟩ := ih (fun i hi => h i (by omega))
    obtain ⟨a, ha⟩ := h n (by omega)
    refine ⟨l ++ [a], by simp [hl], fun i b hb => ?_⟩
    rcases Nat.lt_or_ge i n with hi | hi
    · rw [List.getElem?_append_left (by omega)] at hb
      exact hp i b hb
    · rw [List.getElem?_append_right (by omega)] at hb
      have hi' : i - l.length = 0 := by
        rcases Nat.eq_zero_or_pos (i - l.length) with h0 | h0
        · exact h0
        · rw [List.getElem?_eq_none (by simp; omega)] at hb; cases hb
      rw [hi'] at hb
      obtain rfl : a = b := by simpa using hb
      obtain rfl : i = n := by omega
      exact ha

theorem Opens.slice {α : Type} {P : Program} {t e : TypeId} {K : Kd α} {L : α → Prop} {B : Nat} (h : Opens P e K L) (hc : P.cellsOf t = 1) (ht : P.underlying t = some (.slice e)) (hB : P.bytesOf e = B) :
    Opens P t (Kd.slice e K) (fun xs => xs.length * B ≤ 140737488351232 ∧ ∀ x ∈ xs, L x) :=
  ⟨hc, fun {H enc w held fuel cs x} hx hw => by
    rcases DataW.trod_slice ht hx with ⟨rfl, rfl⟩ | ⟨a, len, cap, elems, rest, n, rfl, rfl, rfl, _, hl, hm, hlen, hel, hsp, _⟩
    · exact ⟨[], ⟨none, 0, rfl, Nat.le_refl _, rfl, by simp, fun h0 => absurd h0 (by simp)⟩, by simp, fun y hy => by cases hy⟩
    · have hone : ∀ i, i < len → ∃ y : α, (∃ c, c.length = K.sz ∧ K.K w y c ∧ ∀ j u, c[j]? = some u → w.cell? (a.add (i * K.sz + j)) = some u) ∧ L y := by
        intro i hi
        have h1 := hel i hi
        have hi' : i < elems.length := by omega
        rw [List.getElem?_eq_getElem hi'] at h1
        obtain ⟨c, hc1, hc2⟩ := Option.bind_eq_some_iff.1 h1
        obtain ⟨y, hy, hL⟩ := h.get hc2 (fun m hm' => hw m (weights_slice ht (d := elems[i].1) (List.mem_map_of_mem (List.getElem_mem hi')) hm'))
        obtain ⟨hcl, hcc⟩ := cells?_get hc1
        refine ⟨y, ⟨c, by rw [hcl, h.size], hy, fun j u hu => ?_⟩, hL⟩
        have := hcc j u hu
        rw [addr_add_add, h.size] at this
        exact this
      obtain ⟨ys, hyl, hys⟩ := list_choose hone
      refine ⟨ys, ⟨some a, cap, by rw [hyl], by omega, rfl, ?_, fun _ => ⟨a, rfl, fun j p hj => (hys j p hj).1⟩⟩, ?_, fun y hy => ?_⟩
      · simp only [maxLen] at hm; omega
      · have := hw ((elems.length + rest.length) * P.bytesOf e) (by simp [DataW.weights, ht])
        rw [hB] at this
        refine Nat.le_trans (Nat.mul_le_mul_right _ ?_) this
        omega
      · obtain ⟨i, hi, rfl⟩ := List.mem_iff_getElem.1 hy
        exact (hys i _ (List.getElem?_eq_getElem hi)).2⟩

/-- Fields in line, from offset off on, of a struct whose cells are cs. -/
structure OpensAll {α : Type} (P : Program) (fs : List Field) (off : Nat) (K : Kd α) (L : α → Prop) : Prop where
  get : ∀ {H : Type} {enc : TypeId × Value → H} {w : World} {held : Bool} {fuel : Nat} {cs : List Value} {xs : List (DataW H × List MemPlace)}, off + K.sz ≤ cs.length → xs.length = fs.length →
    (∀ (i : Nat) (f : Field), fs[i]? = some f → DataW.trod enc P w 0 (fun _ => true) held fuel f.type ((cs.drop f.offset).take (P.cellsOf f.type)) = xs[i]?) →
    (∀ n ∈ DataW.weightsEach P (fs.map (·.type)) (xs.map (·.1)), n ≤ reachBytes) → ∃ a : α, K.K w a ((cs.drop off).take K.sz) ∧ L a

theorem OpensAll.one {α : Type} {P : Program} {f : Field} {off : Nat} {K : Kd α} {L : α → Prop} (h : Opens P f.type K L) (ho : f.offset = off) : OpensAll P [f] off K L :=
  ⟨fun {H enc w held fuel cs xs} _ hl hx hw => by
    match xs, hl with
    | [x], _ =>
      have h1 := hx 0 f rfl
      rw [List.getElem?_cons_zero, ho, h.size] at h1
      exact h.get h1 (fun n hn => hw n (by simp only [List.map_cons, List.map_nil, DataW.weightsEach, List.append_nil]; exact hn))⟩

theorem OpensAll.cons {α β : Type} {P : Program} {f : Field} {fs : List Field} {off : Nat} {K : Kd α} {K' : Kd β} {L : α → Prop} {L' : β → Prop} (h : Opens P f.type K L) (ho : f.offset = off) (h' : OpensAll P fs (off + K.sz) K' L') :
    OpensAll P (f :: fs) off (Kd.pair K K') (fun x => L x.1 ∧ L' x.2) :=
  ⟨fun {H enc w held fuel cs xs} hcs hl hx hw => by
    match xs, hl with
    | x :: xs, hl =>
      have hsz : (Kd.pair K K').sz = K.sz + K'.sz := rfl
      rw [hsz] at hcs
      have h1 := hx 0 f rfl
      rw [List.getElem?_cons_zero, ho, h.size] at h1
      obtain ⟨a, ha, hLa⟩ := h.get h1 (fun n hn => hw n (by simp only [List.map_cons, DataW.weightsEach, List.mem_append]; exact .inl hn))
      obtain ⟨b, hb, hLb⟩ := h'.get (cs := cs) (xs := xs) (by omega) (by simpa using hl) (fun i g hg => by
        have := hx (i + 1) g (by rw [List.getElem?_cons_succ]; exact hg)
        rw [List.getElem?_cons_succ] at this
        exact this) (fun n hn => hw n (by simp only [List.map_cons, DataW.weightsEach, List.mem_append]; exact .inr hn))
      refine ⟨(a, b), ⟨(cs.drop off).take K.sz, (cs.drop (off + K.sz)).take K'.sz, ?_, ha, hb⟩, hLa, hLb⟩
      rw [hsz, List.take_add, List.drop_drop]⟩

theorem Opens.struct {α β : Type} {P : Program} {t : TypeId} {fs : Array Field} {K : Kd α} {L : α → Prop} (ht : P.underlying t = some (.struct fs)) (hc : P.cellsOf t = K.sz) (h : OpensAll P fs.toList 0 K L) (f : β → α) (g : α → β) (hfg : ∀ a, f (g a) = a) :
    Opens P t (Kd.iso K f) (fun x => L (f x)) :=
  ⟨hc, fun {H enc w held fuel cs x} hx hw => by
    obtain ⟨xs, n, rfl, rfl, hcl, hxl, hfs⟩ := DataW.trod_struct ht hx
    obtain ⟨a, ha, hL⟩ := h.get (cs := cs) (xs := xs) (by omega) (by simpa using hxl) (fun i f' hf' => hfs i f' (by simpa using hf')) (fun n hn => hw n (by
      simp only [DataW.weights, ht]
      exact hn))
    rw [List.drop_zero, List.take_of_length_le (by omega)] at ha
    exact ⟨g a, by show K.K w (f (g a)) cs; rw [hfg]; exact ha, by rw [hfg]; exact hL⟩⟩

/-- A row's argument, opened. -/
theorem Opens.arg {α : Type} {P : Program} {K : Kd α} {L : α → Prop} {t : TypeId} (h : Opens P t K L) {H : Type} {enc : TypeId × Value → H} {w : World} {held : Bool} {v : Value} {d : DataW H} {ps : List MemPlace} {ts : List TypeId} {ds : List (DataW H)} {j : Nat}
    (hsz : (DataW.weightsEach P ts ds).all (· ≤ reachBytes) = true) (ht : ts[j]? = some t) (hd : ds[j]? = some d) (hv : DataW.Trod enc P w 0 (fun _ => true) held t v d ps) : ∃ a : α, K.K w a v.cells.toList ∧ L a := by
  obtain ⟨fuel, hf⟩ := hv
  refine h.get hf (fun n hn => ?_)
  have := List.all_eq_true.1 hsz n (DataW.weights_mem_each ht hd n hn)
  simpa using this
end Go.Proofs.YtlmmjchdfngdgaaDoor.Open
