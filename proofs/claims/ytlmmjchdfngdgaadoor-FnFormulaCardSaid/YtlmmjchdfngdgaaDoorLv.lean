/- Rows of one-cell values: what came in, put into a row of the call's own. -/
import Derived.Test.YtlmmjchdfngdgaaDoorPf
import Derived.Test.YtlmmjchdfngdgaaDoorOpen
namespace Go.Proofs.YtlmmjchdfngdgaaDoor.Q
open Go.RowKit Go.Maps Go.Proofs.YtlmmjchdfngdgaaDoorW.PrintWords Go.Proofs.YtlmmjchdfngdgaaDoorW.PrintLast Go.Proofs.YtlmmjchdfngdgaaDoorW.PrintMore Go.Proofs.YtlmmjchdfngdgaaDoor.Pure
abbrev V1 := {v : Value // v.oneCell' = true}
def v0 : V1 := ⟨.bool false, rfl⟩
theorem v1_one (x : V1) : (Subtype.val x).oneCell' = true := x.2
abbrev KV : Kd V1 := Kd.scalar Subtype.val v1_one
theorem addr_add0 (a : Addr) (j : Nat) : a.add (j * 1 + 0) = a.add j := by rw [Nat.mul_one, Nat.add_zero]
theorem row_split {α : Type} {e : Nat} {d : Kd α} {w : World} {A : Option Addr} {n : Nat} {xs : List (List α)} (h : Kd.C (Kd.slice e d) w A n xs) :
    ∃ vs : List V1, KV.C w A n vs ∧ vs.length = xs.length ∧ ∀ (j : Nat) (v : V1) x, vs[j]? = some v → xs[j]? = some x → (Kd.slice e d).K w x [v.1] := by
  obtain ⟨hn, hm, hr⟩ := h
  rcases Nat.eq_zero_or_pos n with h0 | h0
  · subst h0
    obtain rfl : xs = [] := List.eq_nil_of_length_eq_zero hn
    exact ⟨[], ⟨rfl, hm, fun h => absurd h (Nat.lt_irrefl 0)⟩, rfl, fun j v x hv => by simp at hv⟩
  · obtain ⟨ad, rfl, hc⟩ := hr h0
    obtain ⟨vs, hvl, hvs⟩ := Open.list_choose (n := n) (p := fun i (v : V1) => w.cell? (ad.add i) = some v.1 ∧ ∀ x, xs[i]? = some x → (Kd.slice e d).K w x [v.1]) (fun i hi => by
      have hx := List.getElem?_eq_getElem (show i < xs.length by omega)
      obtain ⟨cc, hl, hk, hcell⟩ := hc i _ hx
      have hk' := hk
      obtain ⟨A', c', rfl, _⟩ := hk'
      refine ⟨⟨.slice A' xs[i].length c', rfl⟩, ?_, fun x hx' => ?_⟩
      · have := hcell 0 _ rfl
        rw [show (Kd.slice e d).sz = 1 from rfl, addr_add0] at this
        exact this
      · rw [hx] at hx'
        obtain rfl := Option.some.inj hx'
        exact hk)
    refine ⟨vs, ⟨hvl, hm, fun _ => ⟨ad, rfl, fun j p hj => ⟨[p.1], rfl, rfl, fun i u hu => ?_⟩⟩⟩, by omega, fun j v x hv hx => (hvs j v hv).2 x hx⟩
    cases i with
    | zero =>
      rw [show (KV : Kd V1).sz = 1 from rfl, addr_add0, (hvs j p hj).1]
      simpa using hu
    | succ i => simp at hu
theorem row_join {α : Type} {e : Nat} {d : Kd α} {w : World} {A : Option Addr} {n : Nat} {vs : List V1} {xs : List (List α)} (h : KV.C w A n vs) (hl : vs.length = xs.length)
    (hk : ∀ (j : Nat) (v : V1) x, vs[j]? = some v → xs[j]? = some x → (Kd.slice e d).K w x [v.1]) : Kd.C (Kd.slice e d) w A n xs := by
  obtain ⟨hn, hm, hr⟩ := h
  refine ⟨by omega, hm, fun h0 => ?_⟩
  obtain ⟨ad, rfl, hc⟩ := hr h0
  refine ⟨ad, rfl, fun j x hx => ?_⟩
  have hj : j < vs.length := by rw [hl]; exact (List.getElem?_eq_some_iff.1 hx).1
  have hv := List.getElem?_eq_getElem hj
  obtain ⟨cc, hcl, hck, hcell⟩ := hc j _ hv
  have hck' : cc = [(vs[j]).1] := hck
  subst hck'
  exact ⟨_, rfl, hk j _ x hv hx, hcell⟩
/-- A row laid by a literal. -/
theorem lit_own (base : Nat) (ok : Nat → Prop) (W : World) (e : TypeId) (vs : List V1) (hb : base ≤ W.heap.size) (hok : ok W.heap.size) (hm : vs.length ≤ maxLen) :
    KV.R e (W.alloc (.cells (vs.map Subtype.val).toArray e)) base ok (.slice (some ⟨W.heap.size, 0, none⟩) vs.length vs.length) vs := by
  refine Kd.R_of_own (World.ownsRow_lit (size := 1) W (vs.map Subtype.val).toArray vs.length hb hm (by simp)) (fun k hk => ?_)
  have : W.heap.size = k := by simpa [Value.ownBlock] using hk
  exact this ▸ hok
theorem lit_str (base : Nat) (ok : Nat → Prop) (W : World) (e : TypeId) (vs : List ByteArray) (hb : base ≤ W.heap.size) (hok : ok W.heap.size) (hm : vs.length ≤ maxLen) :
    Kd.string.R e (W.alloc (.cells (vs.map Value.string).toArray e)) base ok (.slice (some ⟨W.heap.size, 0, none⟩) vs.length vs.length) vs := by
  refine Kd.R_of_own (World.ownsRow_lit (size := 1) W (vs.map Value.string).toArray vs.length hb hm (by simp)) (fun k hk => ?_)
  have : W.heap.size = k := by simpa [Value.ownBlock] using hk
  exact this ▸ hok
/-- A row of the call's own, made of what came in and of others: read as a row of rows. -/
theorem row_end {α : Type} {e e' : Nat} {d : Kd α} {w w2 : World} {base : Nat} {ok : Nat → Prop} {v : Value} {vs us : List V1} {xs ys : List (List α)} (HR : KV.R e' w2 base ok v (vs ++ us)) (hb : Below w.heap.size w w2)
    (hl : vs.length = xs.length) (hk : ∀ (j : Nat) (v : V1) x, vs[j]? = some v → xs[j]? = some x → (Kd.slice e d).K w x [v.1])
    (hul : us.length = ys.length) (hu : ∀ (j : Nat) (u : V1) y, us[j]? = some u → ys[j]? = some y → (Kd.slice e d).K w2 y [u.1]) :
    ∃ A c, v = .slice A (xs ++ ys).length c ∧ (xs ++ ys).length ≤ c ∧ Kd.C (Kd.slice e d) w2 A (xs ++ ys).length (xs ++ ys) := by
  obtain ⟨A, c, he, hc, hC⟩ := Kd.R_reads HR
  have hlen : (vs ++ us).length = (xs ++ ys).length := by simp [hl, hul]
  rw [hlen] at he hc hC
  refine ⟨A, c, he, hc, row_join hC hlen fun j p q hp hq => ?_⟩
  rcases Nat.lt_or_ge j vs.length with hj | hj
  · rw [List.getElem?_append_left hj] at hp
    rw [List.getElem?_append_left (by omega)] at hq
    exact (Kd.slice e d).K_below hb (hk j p q hp hq)
  · rw [List.getElem?_append_right hj] at hp
    rw [List.getElem?_append_right (by omega), ← hl] at hq
    exact hu _ p q hp hq
end Go.Proofs.YtlmmjchdfngdgaaDoor.Q
