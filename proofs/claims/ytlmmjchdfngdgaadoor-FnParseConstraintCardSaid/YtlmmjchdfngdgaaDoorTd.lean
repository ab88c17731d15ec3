/- Contracts of constraints: copied, evaluated. -/
import Derived.Test.YtlmmjchdfngdgaaDoorTc
namespace Go.Proofs.YtlmmjchdfngdgaaDoor.Q
open Go.RowKit Go.Maps Go.Proofs.YtlmmjchdfngdgaaDoorW.PrintWords Go.Proofs.YtlmmjchdfngdgaaDoorW.PrintLast Go.Proofs.YtlmmjchdfngdgaaDoorW.PrintMore
set_option linter.unusedVariables false
set_option linter.unusedSimpArgs false

theorem at_row {α : Type} {d : Kd α} {e : Nat} {w : World} {A : Option Addr} {n : Nat} {xs : List (List α)} (h : Kd.C (Kd.slice e d) w A n xs) (i : Nat) (h1 : i < n) (x : List α) (hx : xs[i]? = some x) :
    ∃ ad A' c', A = some ad ∧ w.cell? (ad.add i) = some (.slice A' x.length c') ∧ x.length ≤ c' ∧ d.C w A' x.length x := by
  obtain ⟨ad, c, hA, hlen, ⟨A', c', hcs, hl, hC⟩, hc⟩ := Kd.C_get h [] (i : Int) (by omega) (by omega)
  have e : xs.getD (i : Int).toNat [] = x := by rw [Int.toNat_natCast]; simp [List.getD, hx]
  rw [e] at hcs hl hC
  subst hcs
  refine ⟨ad, A', c', hA, ?_, hl, hC⟩
  have := hc 0 _ rfl
  simpa [Kd.slice] using this

theorem info46 : (Tryd.prog.info? 46).map (fun i => (i.zero, i.size, i.bytes)) = some (some (.slice none 0 0), 1, 24) := by kernel_rfl
set_option maxHeartbeats 4000000 in
set_option maxRecDepth 100000 in
theorem constraint_calls (A : Option Addr) (c : Nat) (l : List (List ByteArray)) (w : World) (hr : Kd.C (Kd.slice 9 Kd.string) w A l.length l) (hlen : l.length < 4294967296) (hin : ∀ x ∈ l, x.length < 4294967296) :
    Calls Tryd.prog 36 #[.slice A l.length c] w fun e w' => ∃ v, e = .returned v ∧ (Kd.slice 41 Kd.string).R 46 w' w.heap.size (fun k => w.heap.size ≤ k) v l ∧ Below w.heap.size w w' := by
  have HR := Aside0.mk hr
  clear hr
  go_enter Tryd.func36, Tryd.ntmps36
  go_wp2
  go_loopg [3, 8] l.length (fun kq v3 v8 wr => ∃ i : Nat, v8 = .int .i64 (i : Int) ∧ Aside0 (i + kq = l.length) ∧ Aside0 ((Kd.slice 41 Kd.string).R 46 wr w.heap.size (fun k => w.heap.size ≤ k) v3 (l.take i)) ∧ Aside0 (Below w.heap.size w wr))
  case atStart => exact ⟨0, rfl, ⟨by simp⟩, ⟨Kd.R_nil _ _ _ _ _⟩, ⟨Below.refl _ _⟩⟩
  case round =>
    obtain ⟨i, rfl, HK, HO, HB⟩ := hrel
    cases gk with
    | zero =>
      have e' : (i < l.length) = False := eq_false (by have := HK.out; omega)
      obtain ⟨A3, c3, rfl⟩ := Kd.R_slice HO.out
      go_wp2
      go_ret
      have e2 : i = l.length := by have := HK.out; omega
      have h := HO.out
      rw [e2, List.take_length] at h
      rw [e2, List.take_length]
      exact ⟨_, rfl, h, HB.out⟩
    | succ k =>
      have hi : i < l.length := by have := HK.out; omega
      obtain ⟨p, hp⟩ : ∃ p, l[i]? = some p := ⟨_, List.getElem?_eq_getElem hi⟩
      have HTK : Aside0 (l.take (i + 1) = l.take i ++ [p]) := ⟨by obtain ⟨h1, h2⟩ := List.getElem?_eq_some_iff.1 hp; rw [List.take_succ_eq_append_getElem h1, h2]⟩
      have HTL : Aside0 ((l.take i).length = i) := ⟨by rw [List.length_take]; omega⟩
      obtain ⟨li, hli⟩ : ∃ li, li = l.take i := ⟨_, rfl⟩
      rw [← hli] at HO HTK HTL
      clear hli
      have hpin := hin p (List.mem_of_getElem? hp)
      obtain ⟨ad, Ap, cp, hA, h0, hcp, hCp⟩ := at_row HR.out i hi p hp
      cases hA
      replace h0 := (HB.out.cell (World.block_lt_of_cell? w _ h0)).trans h0
      have HCp := Aside0.mk (Kd.C_below hCp HB.out)
      obtain ⟨A3, c3, rfl⟩ := Kd.R_slice HO.out
      have e' : (i < l.length) = True := eq_true hi
      have hob : ∀ q, (Value.slice A3 li.length c3).ownBlock = some q → w.heap.size ≤ q ∧ q < wr.heap.size := fun q hq => ⟨HO.out.1 q hq, Kd.R_lt HO.out q hq⟩
      clear hi hCp hcp
      go_wp2_with (first
        | (go_at_call 34; (with_reducible refine (option_calls Ap cp p _ HCp.out hpin).mono ?_); rintro e w5 ⟨vx, rfl, hX, hb5⟩; have HX := Aside0.mk hX; have HB5 := Aside0.mk hb5; obtain ⟨Ax, cx, rfl⟩ := Kd.R_slice hX; clear hX hb5)
        | ((with_reducible refine gate_builtin (b := .append) (xs := #[.tmp 12, .tmp 15]) rfl ?_); at_builtin; refine Kd.R_append (Kd.slice 41 Kd.string) (w0 := w5) w.heap.size rfl (.tmp 12) (.tmp 15) 49 46 (.slice none 0 0) 24 rfl Tryd.underlying49 info46 rfl (by decide) (by decide) (.slice A3 li.length c3) li p [.slice Ax p.length cx] (fun k => w.heap.size ≤ k) (fun k => wr.heap.size ≤ k) rfl rfl ⟨_, rfl, Kd.R_lower HX.out HB.out.size⟩ (fun q hq => ⟨Nat.le_trans HB.out.size hq, fun e => by have := (hob q e.symm).2; omega⟩) (fun k hk => Nat.le_trans (Nat.le_trans HB.out.size HB5.out.size) hk) (Kd.R_below HO.out HB5.out) (Below.refl _ _) (Nat.le_trans HB.out.size HB5.out.size) (by have := HTL.out; have := HK.out; omega) ?_; intro v6 w6 ho6 hb6 hg6 hat6; have HO6 := Aside0.mk ho6; have HG6 := Aside0.mk hg6; clear ho6 hb6 hg6 hat6; go_frame)
        | go_in)
      go_roundg k
      case measure => have := HK.out; omega
      case rel =>
        exact ⟨i + 1, by have := HK.out; simp [wrap64]; omega, ⟨by have := HK.out; omega⟩, ⟨by rw [HTK.out]; exact HO6.out⟩, ⟨(below_step HB.out HB5.out).grown HG6.out (Nat.le_trans HB.out.size HB5.out.size) (fun q hq => (hob q hq).1)⟩⟩

theorem info49 : (Tryd.prog.info? 49).map (fun i => (i.zero, i.size, i.bytes)) = some (some (.slice none 0 0), 1, 24) := by kernel_rfl
set_option maxHeartbeats 4000000 in
set_option maxRecDepth 100000 in
theorem constraints_calls (A : Option Addr) (c : Nat) (l : List (List (List ByteArray))) (w : World) (hr : Kd.C (Kd.slice 24 (Kd.slice 9 Kd.string)) w A l.length l) (hlen : l.length < 4294967296) (hin : ∀ x ∈ l, x.length < 4294967296 ∧ ∀ y ∈ x, y.length < 4294967296) :
    Calls Tryd.prog 38 #[.slice A l.length c] w fun e w' => ∃ v, e = .returned v ∧ (Kd.slice 46 (Kd.slice 41 Kd.string)).R 49 w' w.heap.size (fun k => w.heap.size ≤ k) v l ∧ Below w.heap.size w w' := by
  have HR := Aside0.mk hr
  clear hr
  go_enter Tryd.func38, Tryd.ntmps38
  go_wp2
  go_loopg [3, 8] l.length (fun kq v3 v8 wr => ∃ i : Nat, v8 = .int .i64 (i : Int) ∧ Aside0 (i + kq = l.length) ∧ Aside0 ((Kd.slice 46 (Kd.slice 41 Kd.string)).R 49 wr w.heap.size (fun k => w.heap.size ≤ k) v3 (l.take i)) ∧ Aside0 (Below w.heap.size w wr))
  case atStart => exact ⟨0, rfl, ⟨by simp⟩, ⟨Kd.R_nil _ _ _ _ _⟩, ⟨Below.refl _ _⟩⟩
  case round =>
    obtain ⟨i, rfl, HK, HO, HB⟩ := hrel
    cases gk with
    | zero =>
      have e' : (i < l.length) = False := eq_false (by have := HK.out; omega)
      obtain ⟨A3, c3, rfl⟩ := Kd.R_slice HO.out
      go_wp2
      go_ret
      have e2 : i = l.length := by have := HK.out; omega
      have h := HO.out
      rw [e2, List.take_length] at h
      rw [e2, List.take_length]
      exact ⟨_, rfl, h, HB.out⟩
    | succ k =>
      have hi : i < l.length := by have := HK.out; omega
      obtain ⟨p, hp⟩ : ∃ p, l[i]? = some p := ⟨_, List.getElem?_eq_getElem hi⟩
      have HTK : Aside0 (l.take (i + 1) = l.take i ++ [p]) := ⟨by obtain ⟨h1, h2⟩ := List.getElem?_eq_some_iff.1 hp; rw [List.take_succ_eq_append_getElem h1, h2]⟩
      have HTL : Aside0 ((l.take i).length = i) := ⟨by rw [List.length_take]; omega⟩
      obtain ⟨li, hli⟩ : ∃ li, li = l.take i := ⟨_, rfl⟩
      rw [← hli] at HO HTK HTL
      clear hli
      have hpin := hin p (List.mem_of_getElem? hp)
      obtain ⟨ad, Ap, cp, hA, h0, hcp, hCp⟩ := at_row HR.out i hi p hp
      cases hA
      replace h0 := (HB.out.cell (World.block_lt_of_cell? w _ h0)).trans h0
      have HCp := Aside0.mk (Kd.C_below hCp HB.out)
      obtain ⟨A3, c3, rfl⟩ := Kd.R_slice HO.out
      have e' : (i < l.length) = True := eq_true hi
      have hob : ∀ q, (Value.slice A3 li.length c3).ownBlock = some q → w.heap.size ≤ q ∧ q < wr.heap.size := fun q hq => ⟨HO.out.1 q hq, Kd.R_lt HO.out q hq⟩
      clear hi hCp hcp
      go_wp2_with (first
        | (go_at_call 36; (with_reducible refine (constraint_calls Ap cp p _ HCp.out hpin.1 hpin.2).mono ?_); rintro e w5 ⟨vx, rfl, hX, hb5⟩; have HX := Aside0.mk hX; have HB5 := Aside0.mk hb5; obtain ⟨Ax, cx, rfl⟩ := Kd.R_slice hX; clear hX hb5)
        | ((with_reducible refine gate_builtin (b := .append) (xs := #[.tmp 12, .tmp 15]) rfl ?_); at_builtin; refine Kd.R_append (Kd.slice 46 (Kd.slice 41 Kd.string)) (w0 := w5) w.heap.size rfl (.tmp 12) (.tmp 15) 52 49 (.slice none 0 0) 24 rfl Tryd.underlying52 info49 rfl (by decide) (by decide) (.slice A3 li.length c3) li p [.slice Ax p.length cx] (fun k => w.heap.size ≤ k) (fun k => wr.heap.size ≤ k) rfl rfl ⟨_, rfl, Kd.R_lower HX.out HB.out.size⟩ (fun q hq => ⟨Nat.le_trans HB.out.size hq, fun e => by have := (hob q e.symm).2; omega⟩) (fun k hk => Nat.le_trans (Nat.le_trans HB.out.size HB5.out.size) hk) (Kd.R_below HO.out HB5.out) (Below.refl _ _) (Nat.le_trans HB.out.size HB5.out.size) (by have := HTL.out; have := HK.out; omega) ?_; intro v6 w6 ho6 hb6 hg6 hat6; have HO6 := Aside0.mk ho6; have HG6 := Aside0.mk hg6; clear ho6 hb6 hg6 hat6; go_frame)
        | go_in)
      go_roundg k
      case measure => have := HK.out; omega
      case rel =>
        exact ⟨i + 1, by have := HK.out; simp [wrap64]; omega, ⟨by have := HK.out; omega⟩, ⟨by rw [HTK.out]; exact HO6.out⟩, ⟨(below_step HB.out HB5.out).grown HG6.out (Nat.le_trans HB.out.size HB5.out.size) (fun q hq => (hob q hq).1)⟩⟩
end Go.Proofs.YtlmmjchdfngdgaaDoor.Q
