/- The arguments of this seat's laws are opened: read as lists of texts, with their sizes and with how much is in them. -/
import Derived.Test.YtlmmjchdfngdgaaDoorOpen
import Derived.Test.YtlmmjchdfngdgaaDoorRows
namespace Go.Proofs.YtlmmjchdfngdgaaDoor.Open
open Go.RowKit Go.Proofs.YtlmmjchdfngdgaaDoorW.PrintWords
/-- A type's reading is a value of kind K that meets L, and holds no more than the reading's bulk. -/
structure OpensU {α : Type} (P : Program) (t : TypeId) (K : Kd α) (L : α → Prop) (B : α → Nat) : Prop where
  size : P.cellsOf t = K.sz
  get : ∀ {H : Type} {enc : TypeId × Value → H} {w : World} {held : Bool} {fuel : Nat} {cs : List Value} {x : DataW H × List MemPlace},
    DataW.trod enc P w 0 (fun _ => true) held fuel t cs = some x → (∀ n ∈ x.1.weights P t, n ≤ reachBytes) → ∃ a : α, K.K w a cs ∧ L a ∧ B a ≤ Rows.uptoBulk x.1
theorem OpensU.string {P : Program} {t : TypeId} (hc : P.cellsOf t = 1) (ht : P.underlying t = some .string) : OpensU P t Kd.string (fun s => s.size ≤ 140737488351232) (fun s => s.size + 1) :=
  ⟨hc, fun h hw => by
    obtain ⟨s, rfl, rfl, _⟩ := DataW.trod_string ht h
    refine ⟨s, rfl, ?_, ?_⟩
    · have := hw s.data.toList.length (by simp [DataW.weights])
      rw [Array.length_toList] at this
      exact this
    · simp only [Rows.uptoBulk]
      rw [Array.length_toList]
      exact Nat.le_refl _⟩
theorem sum_bulk {α H : Type} (B : α → Nat) : ∀ (ys : List α) (es : List (DataW H)), ys.length = es.length → (∀ (i : Nat) y e, ys[i]? = some y → es[i]? = some e → B y ≤ Rows.uptoBulk e) → (ys.map B).sum ≤ Rows.uptoBulkAll es
  | [], [], _, _ => by simp [Rows.uptoBulkAll]
  | y :: ys, e :: es, hl, h => by
    have h1 := h 0 y e rfl rfl
    have h2 := sum_bulk B ys es (by simpa using hl) (fun i y' e' hy he => h (i + 1) y' e' (by simpa using hy) (by simpa using he))
    rw [List.map_cons, List.sum_cons]
    simp only [Rows.uptoBulkAll]
    omega
theorem OpensU.slice {α : Type} {P : Program} {t e : TypeId} {K : Kd α} {L : α → Prop} {Z : α → Nat} {B : Nat} (h : OpensU P e K L Z) (hc : P.cellsOf t = 1) (ht : P.underlying t = some (.slice e)) (hB : P.bytesOf e = B) :
    OpensU P t (Kd.slice e K) (fun xs => xs.length * B ≤ 140737488351232 ∧ ∀ x ∈ xs, L x) (fun xs => (xs.map Z).sum + 1) :=
  ⟨hc, fun {H enc w held fuel cs x} hx hw => by
    rcases DataW.trod_slice ht hx with ⟨rfl, rfl⟩ | ⟨a, len, cap, elems, rest, n, rfl, rfl, rfl, _, hl, hm, hlen, hel, hsp, _⟩
    · exact ⟨[], ⟨none, 0, rfl, Nat.le_refl _, rfl, by simp, fun h0 => absurd h0 (by simp)⟩, ⟨by simp, fun y hy => by cases hy⟩, by simp [Rows.uptoBulk]⟩
    · have hone : ∀ i, i < len → ∃ y : α, (∃ c, c.length = K.sz ∧ K.K w y c ∧ ∀ j u, c[j]? = some u → w.cell? (a.add (i * K.sz + j)) = some u) ∧ L y ∧ ∀ e, (elems.map (·.1))[i]? = some e → Z y ≤ Rows.uptoBulk e := by
        intro i hi
        have h1 := hel i hi
        have hi' : i < elems.length := by omega
        rw [List.getElem?_eq_getElem hi'] at h1
        obtain ⟨c, hc1, hc2⟩ := Option.bind_eq_some_iff.1 h1
        obtain ⟨y, hy, hL, hZ⟩ := h.get hc2 (fun m hm' => hw m (weights_slice ht (d := elems[i].1) (List.mem_map_of_mem (List.getElem_mem hi')) hm'))
        obtain ⟨hcl, hcc⟩ := cells?_get hc1
        refine ⟨y, ⟨c, by rw [hcl, h.size], hy, fun j u hu => ?_⟩, hL, fun e he => ?_⟩
        · have := hcc j u hu
          rw [addr_add_add, h.size] at this
          exact this
        · rw [List.getElem?_map, List.getElem?_eq_getElem hi'] at he
          obtain rfl := Option.some.inj he
          exact hZ
      obtain ⟨ys, hyl, hys⟩ := list_choose hone
      refine ⟨ys, ⟨some a, cap, by rw [hyl], by omega, rfl, ?_, fun _ => ⟨a, rfl, fun j p hj => (hys j p hj).1⟩⟩, ⟨?_, fun y hy => ?_⟩, ?_⟩
      · simp only [maxLen] at hm; omega
      · have := hw ((elems.length + rest.length) * P.bytesOf e) (by simp [DataW.weights, ht])
        rw [hB] at this
        refine Nat.le_trans (Nat.mul_le_mul_right _ ?_) this
        omega
      · obtain ⟨i, hi, rfl⟩ := List.mem_iff_getElem.1 hy
        exact (hys i _ (List.getElem?_eq_getElem hi)).2.1
      · have := sum_bulk Z ys (elems.map (·.1)) (by simp; omega) (fun i y e hy he => (hys i y hy).2.2 e he)
        simp only [Rows.uptoBulk]
        omega⟩
theorem OpensU.arg {α : Type} {P : Program} {K : Kd α} {L : α → Prop} {B : α → Nat} {t : TypeId} (h : OpensU P t K L B) {H : Type} {enc : TypeId × Value → H} {w : World} {held : Bool} {v : Value} {d : DataW H} {ps : List MemPlace} {ts : List TypeId} {ds : List (DataW H)} {j : Nat}
    (hsz : (DataW.weightsEach P ts ds).all (· ≤ reachBytes) = true) (ht : ts[j]? = some t) (hd : ds[j]? = some d) (hv : DataW.Trod enc P w 0 (fun _ => true) held t v d ps) : ∃ a : α, K.K w a v.cells.toList ∧ L a ∧ B a ≤ Rows.uptoBulk d := by
  obtain ⟨fuel, hf⟩ := hv
  refine h.get hf (fun n hn => ?_)
  have := List.all_eq_true.1 hsz n (DataW.weights_mem_each ht hd n hn)
  simpa using this
set_option maxRecDepth 100000
def LS (s : ByteArray) : Prop := s.size ≤ 140737488351232
def L24 (l : List ByteArray) : Prop := l.length * 16 ≤ 140737488351232 ∧ ∀ x ∈ l, x.size ≤ 140737488351232
def L23 (l : List (List ByteArray)) : Prop := l.length * 24 ≤ 140737488351232 ∧ ∀ x ∈ l, L24 x
def L22 (l : List (List (List ByteArray))) : Prop := l.length * 24 ≤ 140737488351232 ∧ ∀ x ∈ l, L23 x
def BS (s : ByteArray) : Nat := s.size + 1
def B24 (l : List ByteArray) : Nat := (l.map BS).sum + 1
def B23 (l : List (List ByteArray)) : Nat := (l.map B24).sum + 1
def B22 (l : List (List (List ByteArray))) : Nat := (l.map B23).sum + 1
theorem opens9 : OpensU Tryd.prog 9 Kd.string LS BS := OpensU.string (by kernel_rfl) Tryd.underlying9
theorem opens24 : OpensU Tryd.prog 24 (Kd.slice 9 Kd.string) L24 B24 := OpensU.slice opens9 (by kernel_rfl) Tryd.underlying24 (by kernel_rfl)
theorem opens23 : OpensU Tryd.prog 23 (Kd.slice 24 (Kd.slice 9 Kd.string)) L23 B23 := OpensU.slice opens24 (by kernel_rfl) Tryd.underlying23 (by kernel_rfl)
theorem opens22 : OpensU Tryd.prog 22 (Kd.slice 23 (Kd.slice 24 (Kd.slice 9 Kd.string))) L22 B22 := OpensU.slice opens23 (by kernel_rfl) Tryd.underlying22 (by kernel_rfl)
end Go.Proofs.YtlmmjchdfngdgaaDoor.Open
