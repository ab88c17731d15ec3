/- The rows that FnFormula makes: read as rows of rows. -/
import Derived.Test.YtlmmjchdfngdgaaDoorLv
namespace Go.Proofs.YtlmmjchdfngdgaaDoor.Q
open Go.RowKit Go.Maps Go.Proofs.YtlmmjchdfngdgaaDoorW.PrintWords Go.Proofs.YtlmmjchdfngdgaaDoorW.PrintLast Go.Proofs.YtlmmjchdfngdgaaDoorW.PrintMore Go.Proofs.YtlmmjchdfngdgaaDoor.Pure
theorem C_blk {w : World} {b : Nat} {e : TypeId} {vs : List V1} (h : w.heap[b]? = some (.cells (vs.map Subtype.val).toArray e)) (hm : vs.length ≤ 9223372036854775807) : KV.C w (some ⟨b, 0, none⟩) vs.length vs := by
  refine ⟨rfl, hm, fun _ => ⟨_, rfl, fun j p hj => ⟨[p.1], rfl, rfl, fun i u hu => ?_⟩⟩⟩
  cases i with
  | succ i => simp at hu
  | zero =>
    rw [show (KV : Kd V1).sz = 1 from rfl, addr_add0]
    have : (Addr.add ⟨b, 0, none⟩ j) = ⟨b, j, none⟩ := by
      unfold Addr.add
      by_cases h0 : j = 0
      · subst h0; simp
      · simp [h0]
    rw [this]
    unfold World.cell?
    obtain rfl : p.1 = u := by simpa using hu
    simp [h, hj]
abbrev hdr (A : Option Addr) (n c : Nat) : V1 := ⟨.slice A n c, rfl⟩
abbrev lits3 (w : World) (A1 : Option Addr) (n1 c1 : Nat) (A2 : Option Addr) (n2 c2 : Nat) (name : ByteArray) : World :=
  ((w.alloc (Obj.cells #[Value.string name] 9)).alloc (Obj.cells #[Value.slice A2 n2 c2, Value.slice (some ⟨w.heap.size, 0, none⟩) 1 1] 24)).alloc
      (Obj.cells #[Value.slice A1 n1 c1, Value.slice (some ⟨w.heap.size + 1, 0, none⟩) 2 2] 23)
theorem size_alloc (w : World) (o : Obj) : (w.alloc o).heap.size = w.heap.size + 1 := by simp
theorem lits3_C (w : World) (A1 : Option Addr) (n1 c1 : Nat) (A2 : Option Addr) (n2 c2 : Nat) (name : ByteArray) : KV.C (lits3 w A1 n1 c1 A2 n2 c2 name) (some ⟨w.heap.size + 1 + 1, 0, none⟩) 2 [hdr A1 n1 c1, hdr (some ⟨w.heap.size + 1, 0, none⟩) 2 2] := by
  refine C_blk (e := 23) (vs := [hdr A1 n1 c1, hdr (some ⟨w.heap.size + 1, 0, none⟩) 2 2]) ?_ (by simp)
  have h := blk_new ((w.alloc (Obj.cells #[Value.string name] 9)).alloc (Obj.cells #[Value.slice A2 n2 c2, Value.slice (some ⟨w.heap.size, 0, none⟩) 1 1] 24)) (Obj.cells #[Value.slice A1 n1 c1, Value.slice (some ⟨w.heap.size + 1, 0, none⟩) 2 2] 23)
  rw [size_alloc, size_alloc] at h
  exact h
theorem lits3_0 (w : World) (A1 : Option Addr) (n1 c1 : Nat) (A2 : Option Addr) (n2 c2 : Nat) (name : ByteArray) : (lits3 w A1 n1 c1 A2 n2 c2 name).heap[w.heap.size]? = some (.cells #[Value.string name] 9) := blk_alloc (blk_alloc (blk_new w _) _) _
theorem lits3_1 (w : World) (A1 : Option Addr) (n1 c1 : Nat) (A2 : Option Addr) (n2 c2 : Nat) (name : ByteArray) : (lits3 w A1 n1 c1 A2 n2 c2 name).heap[w.heap.size + 1]? = some (.cells #[Value.slice A2 n2 c2, Value.slice (some ⟨w.heap.size, 0, none⟩) 1 1] 24) := by
  refine blk_alloc ?_ _
  have h := blk_new (w.alloc (Obj.cells #[Value.string name] 9)) (Obj.cells #[Value.slice A2 n2 c2, Value.slice (some ⟨w.heap.size, 0, none⟩) 1 1] 24)
  rwa [size_alloc] at h
theorem lits3_below {w0 w : World} (h : Below w0.heap.size w0 w) (A1 : Option Addr) (n1 c1 : Nat) (A2 : Option Addr) (n2 c2 : Nat) (name : ByteArray) : Below w0.heap.size w0 (lits3 w A1 n1 c1 A2 n2 c2 name) := below_alloc (below_alloc (below_alloc h _) _) _
theorem lits3_size (w : World) (A1 : Option Addr) (n1 c1 : Nat) (A2 : Option Addr) (n2 c2 : Nat) (name : ByteArray) : (lits3 w A1 n1 c1 A2 n2 c2 name).heap.size = w.heap.size + 1 + 1 + 1 := by
  rw [size_alloc, size_alloc, size_alloc]
theorem formula_big {w w39 w46 : World} {ok : Nat → Prop} {v39 v46 : Value} {vcs : List V1} {cs : List (List (List ByteArray))} {c : List (List ByteArray)} {o : List ByteArray} {name : ByteArray} {A1 A2 : Option Addr} {c1 c2 : Nat}
    (HO39 : KV.R 23 w39 w.heap.size ok v39 vcs) (hC1 : Kd.C (Kd.slice 9 Kd.string) w A1 c.length c) (hc1 : c.length ≤ c1) (hC2 : Kd.C Kd.string w A2 o.length o) (hc2 : o.length ≤ c2)
    (hvl : vcs.length = cs.length) (hvk : ∀ (j : Nat) (v : V1) x, vcs[j]? = some v → cs[j]? = some x → (Kd.slice 24 (Kd.slice 9 Kd.string)).K w x [v.1])
    (HO46 : KV.R 23 w46 w.heap.size ok v46 (vcs ++ [hdr A1 c.length c1, hdr (some ⟨w39.heap.size + 1, 0, none⟩) 2 2])) (HB46 : Below w.heap.size w w46)
    (HG : (lits3 w39 A1 c.length c1 A2 o.length c2 name).grownBy w46 v39.ownBlock) :
    ∃ A n, v46 = .slice A (cs ++ [c, [o, [name]]]).length n ∧ (cs ++ [c, [o, [name]]]).length ≤ n ∧ Kd.C (Kd.slice 24 (Kd.slice 9 Kd.string)) w46 A (cs ++ [c, [o, [name]]]).length (cs ++ [c, [o, [name]]]) := by
  have hne : ∀ k, w39.heap.size ≤ k → some k ≠ v39.ownBlock := fun k hk e => by
    have := own_lt (Kd.own_of_R HO39) k e.symm
    omega
  have hs := lits3_size w39 A1 c.length c1 A2 o.length c2 name
  have g0 : w46.heap[w39.heap.size]? = some (.cells #[Value.string name] 9) := (HG.block _ (by omega) (hne _ (Nat.le_refl _))).trans (lits3_0 w39 A1 c.length c1 A2 o.length c2 name)
  have g1 : w46.heap[w39.heap.size + 1]? = some (.cells #[Value.slice A2 o.length c2, Value.slice (some ⟨w39.heap.size, 0, none⟩) 1 1] 24) := (HG.block _ (by omega) (hne _ (by omega))).trans (lits3_1 w39 A1 c.length c1 A2 o.length c2 name)
  have k0 : Kd.C Kd.string w46 (some ⟨w39.heap.size, 0, none⟩) 1 [name] := C_one (cs := [Value.string name]) g0 rfl rfl
  have k1 : Kd.C (Kd.slice 9 Kd.string) w46 (some ⟨w39.heap.size + 1, 0, none⟩) 2 [o, [name]] := by
    refine row_join (C_blk (vs := [hdr A2 o.length c2, hdr (some ⟨w39.heap.size, 0, none⟩) 1 1]) g1 (by simp)) rfl fun j v x hv hx => ?_
    match j with
    | 0 =>
      obtain rfl : hdr A2 o.length c2 = v := by simpa using hv
      obtain rfl : o = x := by simpa using hx
      exact ⟨A2, c2, rfl, hc2, Kd.C_below hC2 HB46⟩
    | 1 =>
      obtain rfl : hdr (some ⟨w39.heap.size, 0, none⟩) 1 1 = v := by simpa using hv
      obtain rfl : [name] = x := by simpa using hx
      exact ⟨_, 1, rfl, Nat.le_refl _, k0⟩
    | j + 2 => simp at hv
  refine row_end HO46 HB46 hvl hvk rfl fun j v x hv hx => ?_
  match j with
  | 0 =>
    obtain rfl : hdr A1 c.length c1 = v := by simpa using hv
    obtain rfl : c = x := by simpa using hx
    exact ⟨A1, c1, rfl, hc1, Kd.C_below hC1 HB46⟩
  | 1 =>
    obtain rfl : hdr (some ⟨w39.heap.size + 1, 0, none⟩) 2 2 = v := by simpa using hv
    obtain rfl : [o, [name]] = x := by simpa using hx
    exact ⟨_, 2, rfl, Nat.le_refl _, k1⟩
  | j + 2 => simp at hv
/-- One row more, that came in. -/
theorem row_more {α : Type} {e e' : Nat} {d : Kd α} {w w2 : World} {ok : Nat → Prop} {v : Value} {vs : List V1} {xs : List (List α)} {y : List α} {A : Option Addr} {c : Nat} (HR : KV.R e' w2 w.heap.size ok v (vs ++ [hdr A y.length c])) (hb : Below w.heap.size w w2)
    (hl : vs.length = xs.length) (hk : ∀ (j : Nat) (v : V1) x, vs[j]? = some v → xs[j]? = some x → (Kd.slice e d).K w x [v.1]) (hC : d.C w A y.length y) (hc : y.length ≤ c) :
    ∃ A c, v = .slice A (xs ++ [y]).length c ∧ (xs ++ [y]).length ≤ c ∧ Kd.C (Kd.slice e d) w2 A (xs ++ [y]).length (xs ++ [y]) := by
  refine row_end HR hb hl hk rfl fun j v x hv hx => ?_
  match j with
  | 0 =>
    obtain rfl : hdr A y.length c = v := by simpa using hv
    obtain rfl : y = x := by simpa using hx
    exact ⟨A, c, rfl, hc, Kd.C_below hC hb⟩
  | j + 1 => simp at hv
end Go.Proofs.YtlmmjchdfngdgaaDoor.Q
