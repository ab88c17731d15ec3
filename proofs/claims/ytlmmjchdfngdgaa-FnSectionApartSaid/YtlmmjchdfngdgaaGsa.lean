/- Contracts of the data section (ir.Global): made, grown, appended to; and of impl.Section, for every script. -/
import Derived.Test.YtlmmjchdfngdgaaGb
import Derived.RangeFuncBox
namespace Go.Proofs.Ytlmmjchdfngdgaa.Q
open Go.RowKit Go.Proofs.YtlmmjchdfngdgaaW.PrintWords Go.Proofs.YtlmmjchdfngdgaaW.PrintLast Go.Proofs.YtlmmjchdfngdgaaW.PrintMore
set_option linter.unusedVariables false
set_option linter.unusedSimpArgs false

abbrev Dt := Int × Int × Int × ByteArray
def cV (c : Int × Int × ByteArray) : Value := constV c.1 c.2.1 c.2.2
theorem cV_one (c : Int × Int × ByteArray) : (cV c).oneCell' = true := by
  unfold cV constV
  repeat' split
  all_goals rfl
def kC : Kd (Int × Int × ByteArray) := Kd.scalar cV cV_one
def kDt : Kd Dt := Kd.pair (Kd.int .i64) kC
theorem kDt_mkM (w : World) (base : Nat) (ok : Nat → Prop) (x : Dt) : kDt.M w base ok x [.int .i64 x.1, cV x.2] := ⟨[.int .i64 x.1], [cV x.2], rfl, rfl, rfl⟩
theorem info69 : (Try.prog.info? 69).map (fun i => (i.zero, i.size, i.bytes)) = some (some (.agg #[(.int .i64 0), .nilIface]), 2, 24) := by kernel_rfl
theorem info4' : (Try.prog.info? 4).map (fun i => (i.zero, i.size, i.bytes)) = some (some (.bool false), 1, 1) := by kernel_rfl

/-- The section's own block. -/
def GObj (v : Value) (size : Int) : Obj := .cells #[.string ⟨#[]⟩, .bool true, .int .u16 0, v, .int .i64 size] 85 (0, 0)
structure GAt (w : World) (g : Nat) (v : Value) (size : Int) : Prop where
  at_ : w.heap[g]? = some (GObj v size)
theorem GAt.lt {w : World} {g : Nat} {v : Value} {size : Int} (h : GAt w g v size) : g < w.heap.size := (Array.getElem?_eq_some_iff.1 h.at_).1
theorem GAt.c3 {w : World} {g : Nat} {v : Value} {size : Int} (h : GAt w g v size) : w.cell? ⟨g, 3, none⟩ = some v := by simp [World.cell?, h.at_, GObj]
theorem GAt.c4 {w : World} {g : Nat} {v : Value} {size : Int} (h : GAt w g v size) : w.cell? ⟨g, 4, none⟩ = some (.int .i64 size) := by simp [World.cell?, h.at_, GObj]
theorem GAt.fr {w : World} {g : Nat} {v : Value} {size : Int} (h : GAt w g v size) (o : Nat) : w.frozen? ⟨g, o, none⟩ = false := by simp [World.frozen?, h.at_, GObj]
theorem GAt.set4 {w : World} {g : Nat} {v : Value} {size : Int} (h : GAt w g v size) (n : Int) : GAt (w.setCell ⟨g, 4, none⟩ (.int .i64 n)) g v n := by
  obtain ⟨hlt, hk⟩ := Array.getElem?_eq_some_iff.1 h.at_
  refine ⟨?_⟩
  show (w.heap.modify g _)[g]? = _
  rw [Array.getElem?_eq_getElem (by rw [Array.size_modify]; exact hlt), Array.getElem_modify_self, hk]
  rfl
theorem GAt.set3 {w : World} {g : Nat} {v : Value} {size : Int} (h : GAt w g v size) (v' : Value) : GAt (w.setCell ⟨g, 3, none⟩ v') g v' size := by
  obtain ⟨hlt, hk⟩ := Array.getElem?_eq_some_iff.1 h.at_
  refine ⟨?_⟩
  show (w.heap.modify g _)[g]? = _
  rw [Array.getElem?_eq_getElem (by rw [Array.size_modify]; exact hlt), Array.getElem_modify_self, hk]
  rfl
theorem GAt.kept {w w' : World} {g : Nat} {v : Value} {size : Int} (h : GAt w g v size) {row : Option Nat} (hg : w.grownBy w' row) (hne : some g ≠ row) : GAt w' g v size := ⟨(hg.block g h.lt hne).trans h.at_⟩
theorem GAt.below {w w' : World} {g : Nat} {v : Value} {size : Int} (h : GAt w g v size) (hb : Below w.heap.size w w') : GAt w' g v size := ⟨(hb.block g h.lt).trans h.at_⟩
theorem GAt.ne_own {w : World} {g : Nat} {v : Value} {size : Int} (h : GAt w g v size) {α : Type} {d : Kd α} {e base : Nat} {ok : Nat → Prop} {u : Value} {xs : List α} (hR : d.R e w base ok u xs) (he : e ≠ 85) : some g ≠ u.ownBlock := Kd.R_ne hR h.at_ he
theorem grownBy_set (w : World) (g o : Nat) (u : Value) : w.grownBy (w.setCell ⟨g, o, none⟩ u) (some g) :=
  ⟨rfl, rfl, rfl, (KeepsWalks.setCell w _ u).size, fun k _ hk => Below.heap_setCell _ _ _ k (fun e => hk (by rw [e]))⟩

/-- All but block g and the row's block lies as it lay. -/
structure Turned (w w' : World) (g : Nat) (ob : Option Nat) : Prop where
  os : w'.os = w.os
  tape : w'.tape = w.tape
  output : w'.output = w.output
  size : w.heap.size ≤ w'.heap.size
  block : ∀ k, k < w.heap.size → k ≠ g → some k ≠ ob → w'.heap[k]? = w.heap[k]?
theorem Turned.refl (w : World) (g : Nat) (ob : Option Nat) : Turned w w g ob := ⟨rfl, rfl, rfl, Nat.le_refl _, fun _ _ _ _ => rfl⟩
theorem Turned.below {a w w' : World} {g : Nat} {ob : Option Nat} (h : Turned a w g ob) (hb : Below w.heap.size w w') : Turned a w' g ob :=
  ⟨hb.os.trans h.os, hb.tape.trans h.tape, hb.output.trans h.output, Nat.le_trans h.size hb.size, fun k hk h1 h2 => (hb.block k (Nat.lt_of_lt_of_le hk h.size)).trans (h.block k hk h1 h2)⟩
theorem Turned.own {a w w' : World} {g : Nat} {ob : Option Nat} (h : Turned a w g ob) (hg : w.grownBy w' (some g)) : Turned a w' g ob :=
  ⟨hg.os.trans h.os, hg.tape.trans h.tape, hg.output.trans h.output, Nat.le_trans h.size hg.size, fun k hk h1 h2 => (hg.block k (Nat.lt_of_lt_of_le hk h.size) (fun e => h1 (Option.some.inj e))).trans (h.block k hk h1 h2)⟩
theorem Turned.row {a w w' : World} {g : Nat} {ob : Option Nat} (h : Turned a w g ob) (hg : w.grownBy w' ob) : Turned a w' g ob :=
  ⟨hg.os.trans h.os, hg.tape.trans h.tape, hg.output.trans h.output, Nat.le_trans h.size hg.size, fun k hk h1 h2 => (hg.block k (Nat.lt_of_lt_of_le hk h.size) h2).trans (h.block k hk h1 h2)⟩
theorem Turned.toBelow {w w' : World} {g B : Nat} {ob : Option Nat} (h : Turned w w' g ob) (hB : B ≤ w.heap.size) (hg : B ≤ g) (ho : ∀ k, ob = some k → B ≤ k) : Below B w w' :=
  ⟨h.os, h.tape, h.output, h.size, fun k hk => h.block k (by omega) (by omega) (fun e => by have := ho k e.symm; omega)⟩

def mxI (a b : Int) : Int := if a < b then b else a
theorem newStatic_calls (w : World) : Calls Try.prog 37 #[.string ⟨#[]⟩] w fun e w' => ∃ g, e = .returned (.pointer (some ⟨g, 0, none⟩)) ∧ w.heap.size ≤ g ∧ GAt w' g (.slice none 0 0) 0 ∧ Below w.heap.size w w' := by
  have h55 : ∀ W : World, Calls Try.prog 55 #[.string ⟨#[]⟩] W fun e w' => e = .returned (.agg #[.string ⟨#[]⟩, .bool true]) ∧ Below W.heap.size W w' := by
    intro W
    go_enter Try.func55, Try.ntmps55
    go_wp2
    exact bodyPost_ret (v := .agg #[.string ⟨#[]⟩, .bool true]) (by simp [results, Try.results55, go_sem]) rfl ⟨rfl, (Below.refl _ _).alloc (Nat.le_refl _) _⟩
  have h54 : ∀ W : World, Calls Try.prog 54 #[.agg #[.string ⟨#[]⟩, .bool true]] W fun e w' => ∃ g, e = .returned (.pointer (some ⟨g, 0, none⟩)) ∧ W.heap.size ≤ g ∧ GAt w' g (.slice none 0 0) 0 ∧ Below W.heap.size W w' := by
    intro W
    go_enter Try.func54, Try.ntmps54
    go_wp2
    go_ret
    exact ⟨_, rfl, by simp, ⟨by have := World.alloc_heap_new (W.alloc (.cells #[.string ⟨#[]⟩, .bool true] 81)) (GObj (.slice none 0 0) 0); rwa [World.size_alloc] at this⟩, ((Below.refl _ _).alloc (Nat.le_refl _) _).alloc (by simp) _⟩
  go_enter Try.func37, Try.ntmps37
  go_wp2_with (first
    | (go_at_call 55; (with_reducible refine (h55 _).mono ?_); rintro e w1 ⟨rfl, hb1⟩)
    | (go_at_call 54; (with_reducible refine (h54 _).mono ?_); rintro e w2 ⟨g, rfl, hg, hG, hb2⟩)
    | go_in)
  go_ret
  exact ⟨g, rfl, by have := hb1.size; omega, hG, below_step hb1 hb2⟩

theorem growTo_calls (g : Nat) (v : Value) (size n : Int) (w : World) (hG : GAt w g v size) :
    Calls Try.prog 40 #[.pointer (some ⟨g, 0, none⟩), .int .i64 n] w fun e w' => e = .returned (.tuple #[]) ∧ w.grownBy w' (some g) ∧ GAt w' g v (mxI size n) := by
  have h4 := hG.c4
  have hf := hG.fr 4
  by_cases c : size < n
  · have hm : mxI size n = n := if_pos c
    rw [hm]
    have b : decide (size < n) = true := decide_eq_true c
    go_enter Try.func40, Try.ntmps40
    go_wp2
    go_end0
    exact ⟨rfl, grownBy_set _ _ _ _, hG.set4 n⟩
  · have hm : mxI size n = size := if_neg c
    rw [hm]
    have b : decide (size < n) = false := decide_eq_false c
    clear c hm
    go_enter Try.func40, Try.ntmps40
    go_wp2
    go_end0
    exact ⟨rfl, ⟨rfl, rfl, rfl, Nat.le_refl _, fun _ _ _ => rfl⟩, hG⟩

set_option maxHeartbeats 4000000 in
set_option maxRecDepth 100000 in
theorem addDt_calls (g base : Nat) (v : Value) (size : Int) (ds : List Dt) (o k b : Int) (s : ByteArray) (w : World) (hG : GAt w g v size) (hR : kDt.R 69 w base (fun k => base ≤ k) v ds) (hk : isC k = true) (hb : base ≤ w.heap.size) (hgb : g < base) (hl : ds.length < 1000000) :
    Calls Try.prog 57 #[.pointer (some ⟨g, 0, none⟩), .agg #[.int .i64 o, constV k b s]] w fun e w' => e = .returned (.tuple #[]) ∧ Turned w w' g v.ownBlock ∧
      ∃ v', GAt w' g v' (mxI size (wrap64 (o + cBytes k s))) ∧ kDt.R 69 w' base (fun k => base ≤ k) v' (ds ++ [(o, k, b, s)]) := by
  have k1 : 1 ≤ k ∧ k ≤ 11 := of_decide_eq_true hk
  have HB := Aside0.mk (hasBytes k1.1 k1.2 b s)
  have hv1 : ∃ T x, constV k b s = .iface T x := by obtain ⟨T, x, _, h, _⟩ := HB.out; exact ⟨T, x, h⟩
  obtain ⟨T, x, hcv⟩ := hv1
  obtain ⟨d, hd⟩ : ∃ d : Dt, d = (o, k, b, s) := ⟨_, rfl⟩
  have hM : ∀ (W : World) (base : Nat) (ok : Nat → Prop), kDt.M W base ok d [.int .i64 o, .iface T x] := fun W base ok => by have := kDt_mkM W base ok d; rw [hd] at this ⊢; unfold cV at this; rwa [hcv] at this
  rw [hcv] at HB ⊢
  rw [← hd]
  clear hcv hd k1
  obtain ⟨n, hn⟩ : ∃ n, n = cBytes k s := ⟨_, rfl⟩
  rw [← hn] at HB ⊢
  clear hn
  obtain ⟨A, c, rfl⟩ := Kd.R_slice hR
  have HG := Aside0.mk hG
  have HR := Aside0.mk hR
  have hob : ∀ k, (Value.slice A ds.length c).ownBlock = some k → base ≤ k ∧ k < w.heap.size := fun k hk => ⟨HR.out.1 k hk, Kd.R_lt HR.out k hk⟩
  clear hG hR
  go_enter Try.func57, Try.ntmps57
  go_wp2_with (first
    | (go_at_call 42; (with_reducible refine (datInterval HB.out _ _).mono ?_); rintro e w1 ⟨rfl, hb1⟩; obtain ⟨hc1, hf1⟩ := bcell hb1; have HB1 := Aside0.mk (below_step ((Below.refl _ _).alloc (Nat.le_refl _) _) hb1); have HX0 : Aside0 (w1.cell? ⟨w.heap.size, 0, none⟩ = some (.int .i64 o)) := ⟨(hc1 w.heap.size 0 (by simp)).trans (by simp)⟩; have HX1 : Aside0 (w1.cell? ⟨w.heap.size, 1, none⟩ = some (.iface T x)) := ⟨(hc1 w.heap.size 1 (by simp)).trans (by simp)⟩; have HL1 := Aside0.mk (Nat.lt_of_lt_of_le (show w.heap.size < _ by simp) hb1.size); have HG1 := Aside0.mk (HG.out.below HB1.out); have HR1 := Aside0.mk (Kd.R_below HR.out HB1.out); clear hb1 hc1 hf1)
    | (go_at_call 40; (with_reducible refine (growTo_calls g _ _ _ _ HG1.out).mono ?_); rintro e w2 ⟨rfl, hg2, hG2⟩; have HG2 := Aside0.mk hG2; have HR2 := Aside0.mk (Kd.R_grown HR1.out hg2 (fun k hk => by have : k ≠ g := (by omega); simpa using this)); have HT2 := Aside0.mk (Turned.own (Turned.below (Turned.refl _ g (Value.slice A ds.length c).ownBlock) HB1.out) hg2); have HY := Aside0.mk hg2; clear hg2 hG2)
    | go_in)
  have hkX : ∀ (W W' : World) (r : Option Nat), W.grownBy W' r → some w.heap.size ≠ r → w.heap.size < W.heap.size → ∀ (j : Nat) (u : Value), W.cell? ⟨w.heap.size, j, none⟩ = some u → W'.cell? ⟨w.heap.size, j, none⟩ = some u := fun W W' r hg hr hlt j u h => (World.cell?_of_block (a := ⟨w.heap.size, j, none⟩) (hg.block _ hlt hr)).trans h
  have hgl := HG.out.lt
  have HX0' := Aside0.mk (hkX _ _ _ HY.out (by simp; omega) HL1.out 0 _ HX0.out)
  have HX1' := Aside0.mk (hkX _ _ _ HY.out (by simp; omega) HL1.out 1 _ HX1.out)
  clear HX0 HX1
  have HX0 := HX0'
  have HX1 := HX1'
  clear HX0' HX1'
  have HBs : Aside0 (base ≤ w2.heap.size) := ⟨by have := HT2.out.size; omega⟩
  have HL2 : Aside0 (w.heap.size < w2.heap.size) := ⟨Nat.lt_of_lt_of_le HL1.out HY.out.size⟩
  have HKB : ∀ (W' : World), w2.drew.grownBy W' (Value.slice A ds.length c).ownBlock → ∀ (j : Nat) {u : Value}, w2.cell? ⟨w.heap.size, j, none⟩ = some u → W'.cell? ⟨w.heap.size, j, none⟩ = some u := fun W' hg j u h =>
    hkX w2.drew W' _ hg (fun e => by have := hob _ e.symm; omega) HL2.out j u h
  refine start_ (n := 11) (S := fun w' => w'.cell? ⟨g, 3, none⟩ = some (.slice A ds.length c) ∧ w'.cell? ⟨w.heap.size, 0, none⟩ = some (.int .i64 o) ∧ w'.cell? ⟨w.heap.size, 1, none⟩ = some (.iface T x)) (ds := [10]) #[false, false, false, false, false, false, false, false, false, false, false] (by kernel_rfl) rfl rfl ⟨HG2.out.c3, HX0.out, HX1.out⟩ (fun hHeld => ?_)
  refine pure_ (i := 0) (N := some 14) (v := ?_) (a' := ?_) #[true, false, false, false, false, false, false, false, false, false, false] rfl rfl (by kernel_rfl) (fun _ _ _ h => h) (Or.inl ⟨by rfl, ?_⟩) ?_ ?_
  rotate_left
  · intro w'
    go_simp
    with_reducible rfl
  rotate_left
  · simp only [Act.put, List.setIfInBounds_toArray, List.set_cons_zero, List.set_cons_succ, i64_w, i32_w]
    rfl
  refine pure_ (i := 1) (N := some 15) (v := ?_) (a' := ?_) #[true, true, false, false, false, false, false, false, false, false, false] rfl rfl (by kernel_rfl) (fun _ _ _ h => h) (Or.inl ⟨by rfl, ?_⟩) ?_ ?_
  rotate_left
  · intro w'
    go_simp
    with_reducible rfl
  rotate_left
  · simp only [Act.put, List.setIfInBounds_toArray, List.set_cons_zero, List.set_cons_succ, i64_w, i32_w]
    rfl
  refine pure_ (i := 2) (N := some 16) (v := ?_) (a' := ?_) #[true, true, true, false, false, false, false, false, false, false, false] rfl rfl (by kernel_rfl) (fun _ _ _ h => h) (Or.inl ⟨by rfl, ?_⟩) ?_ ?_
  rotate_left
  · intro w'
    go_simp
    with_reducible rfl
  rotate_left
  · simp only [Act.put, List.setIfInBounds_toArray, List.set_cons_zero, List.set_cons_succ, i64_w, i32_w]
    rfl
  refine pure_ (i := 3) (N := some 17) (v := ?_) (a' := ?_) #[true, true, true, true, false, false, false, false, false, false, false] rfl rfl (by kernel_rfl) (fun _ _ _ h => h) (Or.inl ⟨by rfl, ?_⟩) ?_ ?_
  rotate_left
  · intro w'
    go_simp
    with_reducible rfl
  rotate_left
  · simp only [Act.put, List.setIfInBounds_toArray, List.set_cons_zero, List.set_cons_succ, i64_w, i32_w]
    rfl
  refine take_ (i := 4) (N := some 18) (v := ?_) (a' := ?_) #[true, true, true, true, true, false, false, false, false, false, false] rfl rfl (by kernel_rfl) (fun _ _ _ h => h) (Or.inl ⟨by rfl, ?_⟩) hHeld ?_ ?_
  rotate_left
  · rintro w' ⟨s0, s1, s2⟩
    go_simp
    with_reducible rfl
  rotate_left
  · simp only [Act.put, List.setIfInBounds_toArray, List.set_cons_zero, List.set_cons_succ, i64_w, i32_w]
    rfl
  refine take_ (i := 5) (N := some 19) (v := ?_) (a' := ?_) #[true, true, true, true, true, true, false, false, false, false, false] rfl rfl (by kernel_rfl) (fun _ _ _ h => h) (Or.inl ⟨by rfl, ?_⟩) hHeld ?_ ?_
  rotate_left
  · rintro w' ⟨s0, s1, s2⟩
    go_simp
    with_reducible rfl
  rotate_left
  · simp only [Act.put, List.setIfInBounds_toArray, List.set_cons_zero, List.set_cons_succ, i64_w, i32_w]
    rfl
  refine one_ (i := 6) (N := some 20) #[true, true, true, true, true, true, true, false, false, false, false] rfl rfl (by kernel_rfl) (by decide) (fun K hK => ?_)
  refine value_ (w1 := ?_) (v := ?_) (by rfl) rfl ?_ ?_
  rotate_left 2
  · go_simp
    constructor
    · rfl
    · rfl
  refine hK.out _ _ ⟨(pw_cell_below ((Below.refl _ _).alloc (Nat.le_refl _) _) HG2.out.c3), (pw_cell_below ((Below.refl _ _).alloc (Nat.le_refl _) _) HX0.out), (pw_cell_below ((Below.refl _ _).alloc (Nat.le_refl _) _) HX1.out)⟩ (fun hHeld => ?_)
  clear hK K
  refine norm_ (a' := ?_) ?_ ?_
  rotate_left
  · show Act.put _ (some 20) _ = _
    simp only [Act.put, List.setIfInBounds_toArray, List.set_cons_zero, List.set_cons_succ, i64_w, i32_w]
    rfl
  refine one_ (i := 7) (N := some 21) #[true, true, true, true, true, true, true, true, false, false, false] rfl rfl (by kernel_rfl) (by decide) (fun K hK => ?_)
  rw [show (w2.alloc (Obj.cells #[.int .i64 o, .iface T x] 69)).drew = w2.drew.alloc (Obj.cells #[.int .i64 o, .iface T x] 69) from rfl]
  refine Kd.R_append_step kDt (w0 := w2.drew) base (by rfl) (.tmp 18) (.tmp 20) 83 69 (.agg #[(.int .i64 0), .nilIface]) 24 rfl Try.underlying83 info69 rfl (by decide) (by decide) (.slice A ds.length c) ds d [.int .i64 o, .iface T x] (fun k => base ≤ k) (fun _ => False) rfl rfl (hM _ _ _) (fun _ hk => hk.elim) (fun k hk => Nat.le_trans HBs.out hk) (Kd.R_drew HR2.out) (Below.refl _ _) HBs.out (by show (ds.length + 1) * 24 ≤ 140737488355328; omega) ?_
  intro v1 w3 ho3 hb3 hg3 hat3
  have HG3 := Aside0.mk (GAt.kept (w := w2.drew) ⟨HG2.out.at_⟩ hg3 (HG2.out.ne_own HR2.out (by decide)))
  have hc3 := HG3.out.c3
  have hf3 := HG3.out.fr 3
  have HO3 := Aside0.mk ho3
  have HGB3 := Aside0.mk hg3
  obtain ⟨A3, c3, rfl⟩ := Kd.R_slice ho3
  clear ho3 hb3 hg3 hat3
  refine hK.out _ _ ⟨hc3, (HKB _ HGB3.out 0 HX0.out), (HKB _ HGB3.out 1 HX1.out)⟩ (fun hHeld => ?_)
  clear hK K
  refine norm_ (a' := ?_) ?_ ?_
  rotate_left
  · show Act.put _ (some 21) _ = _
    simp only [Act.put, List.setIfInBounds_toArray, List.set_cons_zero, List.set_cons_succ, i64_w, i32_w]
    rfl
  refine pure_ (i := 8) (N := some 22) (v := ?_) (a' := ?_) #[true, true, true, true, true, true, true, true, true, false, false] rfl rfl (by kernel_rfl) (fun _ _ _ h => h) (Or.inl ⟨by rfl, ?_⟩) ?_ ?_
  rotate_left
  · intro w'
    go_simp
    with_reducible rfl
  rotate_left
  · simp only [Act.put, List.setIfInBounds_toArray, List.set_cons_zero, List.set_cons_succ, i64_w, i32_w]
    rfl
  refine pure_ (i := 9) (N := some 23) (v := ?_) (a' := ?_) #[true, true, true, true, true, true, true, true, true, true, false] rfl rfl (by kernel_rfl) (fun _ _ _ h => h) (Or.inl ⟨by rfl, ?_⟩) ?_ ?_
  rotate_left
  · intro w'
    go_simp
    with_reducible rfl
  rotate_left
  · simp only [Act.put, List.setIfInBounds_toArray, List.set_cons_zero, List.set_cons_succ, i64_w, i32_w]
    rfl
  refine last_ (i := 10) (N := none) #[true, true, true, true, true, true, true, true, true, true, true] rfl rfl (by kernel_rfl) (by decide) (fun K hK => ?_)
  refine skip_ (w1 := ?_) (by rfl) rfl ?_ ?_
  rotate_left
  · go_simp
    rfl
  refine hK.out _ _ ?_
  clear hK K
  refine done_ (by kernel_rfl) ?_


  go_end0
  have hT2 : Turned w w2.drew g (Value.slice A ds.length c).ownBlock := ⟨HT2.out.os, HT2.out.tape, HT2.out.output, HT2.out.size, HT2.out.block⟩
  have hO3 := HO3.out
  rw [List.length_append, List.length_singleton] at hO3
  exact ⟨rfl, (hT2.row HGB3.out).own (grownBy_set w3 g 3 _), .slice A3 (ds.length + 1) c3, HG3.out.set3 _, Kd.R_far (p := ⟨g, 3, none⟩) hO3 (fun k hk => by show k ≠ g; omega) _⟩

theorem appendC_calls (g base : Nat) (v : Value) (size : Int) (ds : List Dt) (k b : Int) (s : ByteArray) (w : World) (hG : GAt w g v size) (hR : kDt.R 69 w base (fun k => base ≤ k) v ds) (hk : isC k = true) (hb : base ≤ w.heap.size) (hgb : g < base) (hl : ds.length < 1000000) :
    Calls Try.prog 39 #[.pointer (some ⟨g, 0, none⟩), constV k b s] w fun e w' => e = .returned (.tuple #[]) ∧ Turned w w' g v.ownBlock ∧
      ∃ v', GAt w' g v' (mxI size (wrap64 (size + cBytes k s))) ∧ kDt.R 69 w' base (fun k => base ≤ k) v' (ds ++ [(size, k, b, s)]) := by
  have h57 := addDt_calls g base v size ds size k b s w hG hR hk hb hgb hl
  have k1 : 1 ≤ k ∧ k ≤ 11 := of_decide_eq_true hk
  have hv1 : ∃ T x, constV k b s = .iface T x := by obtain ⟨T, x, _, h, _⟩ := hasBytes k1.1 k1.2 b s; exact ⟨T, x, h⟩
  obtain ⟨T, x, hcv⟩ := hv1
  rw [hcv] at h57 ⊢
  have H57 := Aside0.mk h57
  have h4 := hG.c4
  clear h57
  go_enter Try.func39, Try.ntmps39
  go_wp2_with (first
    | (go_at_call 57; (with_reducible refine H57.out.mono ?_); rintro e w1 ⟨rfl, hT, hr⟩)
    | go_in)
  go_end0
  exact ⟨rfl, hT, hr⟩

def zDt : Dt := (0, 0, 0, ⟨#[]⟩)
theorem at_Dt {w : World} {A : Option Addr} {n : Nat} {xs : List Dt} (h : Kd.C kDt w A n xs) (i : Nat) (h1 : i < n) (p : Dt) (hp : xs[i]? = some p) :
    ∃ ad, A = some ad ∧ w.cell? (ad.add (i * 2)) = some (.int .i64 p.1) ∧ w.cell? ⟨(ad.add (i * 2)).block, (ad.add (i * 2)).off + 1, none⟩ = some (cV p.2) := by
  obtain ⟨ad, c, hA, hlen, ⟨c0, c1, rfl, rfl, rfl⟩, hc⟩ := Kd.C_get h zDt (i : Int) (by omega) (by omega)
  have e : xs.getD (i : Int).toNat zDt = p := by rw [Int.toNat_natCast]; simp [List.getD, hp]
  rw [e] at hc
  refine ⟨ad, hA, ?_, ?_⟩
  · have := hc 0 (.int .i64 p.1) rfl
    simpa [kDt, kC, Kd.pair, Kd.int, Kd.scalar] using this
  · have h1 : w.cell? (ad.add ((i : Int).toNat * 2 + 1)) = some (cV p.2) := hc 1 (cV p.2) rfl
    rw [Int.toNat_natCast] at h1
    rw [← add_field _ _ 1 (by omega)]
    exact h1

/-- Does a datum of n bytes at o overlap with one that is there? -/
def hits (ds : List Dt) (o n : Int) : Bool := ds.any fun d => ovB o n d.1 (cBytes d.2.1 d.2.2.2)
theorem err56 (s : ByteArray) (w : World) : Calls Try.prog 56 #[.string s] w fun e w' => (∃ x, e = .returned (.iface 136 x)) ∧ Below w.heap.size w w' := by
  go_enter Try.func56, Try.ntmps56
  go_wp2
  go_ret
  exact ⟨⟨_, rfl⟩, (Below.refl _ _).alloc (Nat.le_refl _) _⟩

set_option maxHeartbeats 4000000 in
set_option maxRecDepth 100000 in
theorem addDatum_calls (g base : Nat) (v : Value) (size : Int) (ds : List Dt) (o k b : Int) (s : ByteArray) (w : World) (hG : GAt w g v size) (hR : kDt.R 69 w base (fun k => base ≤ k) v ds) (hk : isC k = true) (hks : ∀ d ∈ ds, isC d.2.1 = true) (hb : base ≤ w.heap.size) (hgb : g < base) (hl : ds.length < 1000000) :
    Calls Try.prog 38 #[.pointer (some ⟨g, 0, none⟩), .agg #[.int .i64 o, constV k b s]] w fun e w' => Turned w w' g v.ownBlock ∧
      ((hits ds o (cBytes k s) = true ∧ (∃ x, e = .returned (.iface 136 x)) ∧ GAt w' g v size ∧ kDt.R 69 w' base (fun k => base ≤ k) v ds) ∨
       (hits ds o (cBytes k s) = false ∧ e = .returned .nilIface ∧ ∃ v', GAt w' g v' (mxI size (wrap64 (o + cBytes k s))) ∧ kDt.R 69 w' base (fun k => base ≤ k) v' (ds ++ [(o, k, b, s)]))) := by
  have h57 := fun W hG hR hb => addDt_calls g base v size ds o k b s W hG hR hk hb hgb hl
  have k1 : 1 ≤ k ∧ k ≤ 11 := of_decide_eq_true hk
  have HB := Aside0.mk (hasBytes k1.1 k1.2 b s)
  have hv1 : ∃ T x, constV k b s = .iface T x := by obtain ⟨T, x, _, h, _⟩ := HB.out; exact ⟨T, x, h⟩
  obtain ⟨T, x, hcv⟩ := hv1
  rw [hcv] at h57 HB ⊢
  obtain ⟨n, hn⟩ : ∃ n, n = cBytes k s := ⟨_, rfl⟩
  rw [← hn] at HB ⊢
  simp only [← hn] at h57
  clear hn hcv k1
  have H57 := Aside0.mk h57
  clear h57
  obtain ⟨A, c, rfl⟩ := Kd.R_slice hR
  have HG := Aside0.mk hG
  have HR := Aside0.mk hR
  have h3 : (w.alloc (.cells #[.int .i64 o, .iface T x] 69)).cell? ⟨g, 3, none⟩ = some (.slice A ds.length c) := pw_cell_below ((Below.refl _ _).alloc (Nat.le_refl _) _) hG.c3
  clear hG hR
  go_enter Try.func38, Try.ntmps38
  go_wp2
  go_loopg [12] ds.length (fun kq v12 wr => ∃ i : Nat, v12 = .int .i64 (i : Int) ∧ Aside0 (i + kq = ds.length) ∧ Aside0 (hits ds o n = hits (ds.drop i) o n) ∧ Aside0 (Below (w.heap.size + 1) (w.alloc (.cells #[.int .i64 o, .iface T x] 69)) wr))
  case atStart => exact ⟨0, rfl, ⟨by simp⟩, ⟨by rw [List.drop_zero]⟩, ⟨Below.refl _ _⟩⟩
  case round =>
    obtain ⟨i, rfl, HK, HH, HW⟩ := hrel
    have HB1 : Aside0 (Below w.heap.size w wr) := ⟨((Below.refl _ _).alloc (Nat.le_refl _) _).trans (HW.out.mono (Nat.le_succ _))⟩
    have hx0 : wr.cell? ⟨w.heap.size, 0, none⟩ = some (.int .i64 o) := (HW.out.cell (p := ⟨w.heap.size, 0, none⟩) (Nat.lt_succ_self _)).trans (by simp)
    have hx1 : wr.cell? ⟨w.heap.size, 1, none⟩ = some (.iface T x) := (HW.out.cell (p := ⟨w.heap.size, 1, none⟩) (Nat.lt_succ_self _)).trans (by simp)
    cases gk with
    | zero =>
      have e' : (i < ds.length) = False := eq_false (by have := HK.out; omega)
      have hno : Aside0 (hits ds o n = false) := ⟨by rw [HH.out, List.drop_eq_nil_of_le (by have := HK.out; omega)]; rfl⟩
      go_wp2_with (first
        | (go_at_call 57; (with_reducible refine (H57.out _ (HG.out.below HB1.out) (Kd.R_below HR.out HB1.out) (by have := HB1.out.size; omega)).mono ?_); rintro e w1 ⟨rfl, hT, hr⟩; have HT := Aside0.mk hT; have HRR := Aside0.mk hr; clear hT hr)
        | go_in)
      go_ret
      refine ⟨⟨HT.out.os.trans HB1.out.os, HT.out.tape.trans HB1.out.tape, HT.out.output.trans HB1.out.output, Nat.le_trans HB1.out.size HT.out.size, fun q hq h1 h2 => (HT.out.block q (Nat.lt_of_lt_of_le hq HB1.out.size) h1 h2).trans (HB1.out.block q hq)⟩, Or.inr ⟨hno.out, rfl, HRR.out⟩⟩
    | succ kk =>
      have hi : i < ds.length := by have := HK.out; omega
      obtain ⟨p, hp⟩ : ∃ p, ds[i]? = some p := ⟨_, List.getElem?_eq_getElem hi⟩
      obtain ⟨hpi, hpe⟩ := List.getElem?_eq_some_iff.1 hp
      have hkp : isC p.2.1 = true := hks p (List.mem_of_getElem? hp)
      have kp1 : 1 ≤ p.2.1 ∧ p.2.1 ≤ 11 := of_decide_eq_true hkp
      have HBp := Aside0.mk (hasBytes kp1.1 kp1.2 p.2.2.1 p.2.2.2)
      have hvp : ∃ T x, constV p.2.1 p.2.2.1 p.2.2.2 = .iface T x := by obtain ⟨T, x, _, h, _⟩ := HBp.out; exact ⟨T, x, h⟩
      obtain ⟨Tp, xp, hcp⟩ := hvp
      have hdrop : Aside0 (hits (ds.drop i) o n = (ovB o n p.1 (cBytes p.2.1 p.2.2.2) || hits (ds.drop (i + 1)) o n)) := ⟨by unfold hits; rw [List.drop_eq_getElem_cons hpi, List.any_cons, hpe]⟩
      obtain ⟨op, hop⟩ : ∃ op, op = p.1 := ⟨_, rfl⟩
      obtain ⟨np, hnp⟩ : ∃ np, np = cBytes p.2.1 p.2.2.2 := ⟨_, rfl⟩
      obtain ⟨ad, hAd, c0, c1⟩ := at_Dt (Kd.R_reads' (Kd.R_below HR.out HB1.out)).2.2 i hi p hp
      cases hAd
      unfold cV at c1
      rw [hcp] at c1 HBp
      rw [← hnp] at HBp
      rw [← hop] at c0
      rw [← hop, ← hnp] at hdrop
      clear hcp hop hnp kp1 hkp
      have e' : (i < ds.length) = True := eq_true hi
      clear hi
      have hy0 : ∀ ob, (wr.alloc ob).cell? ⟨w.heap.size, 0, none⟩ = some (.int .i64 o) := fun ob => pw_cell_below ((Below.refl _ _).alloc (Nat.le_refl _) _) hx0
      have hy1 : ∀ ob, (wr.alloc ob).cell? ⟨w.heap.size, 1, none⟩ = some (.iface T x) := fun ob => pw_cell_below ((Below.refl _ _).alloc (Nat.le_refl _) _) hx1
      by_cases cov : ovB o n op np = true
      · go_wp2_with (first
          | (go_at_call 34; (with_reducible refine (datOverlaps HB.out HBp.out o op _).mono ?_); rintro e w1 ⟨rfl, hb1⟩; rw [cov]; have HW1 := Aside0.mk hb1; clear hb1)
          | (go_at_call 56; (with_reducible refine (err56 _ _).mono ?_); rintro e w2 ⟨⟨xe, rfl⟩, hb2⟩; have HW2 := Aside0.mk hb2; clear hb2)
          | go_in)
        go_ret
        have hB : Below w.heap.size w w2 := (HB1.out.trans ((below_step ((Below.refl wr.heap.size wr).alloc (Nat.le_refl _) _) HW1.out).mono HB1.out.size)).trans (HW2.out.mono (by have := HB1.out.size; have := HW1.out.size; simp at this; omega))
        refine ⟨(Turned.refl _ _ _).below hB, Or.inl ⟨?_, ⟨_, rfl⟩, HG.out.below hB, Kd.R_below HR.out hB⟩⟩
        rw [HH.out, hdrop.out, cov]; rfl
      · replace cov : ovB o n op np = false := by simpa using cov
        go_wp2_with (first
          | (go_at_call 34; (with_reducible refine (datOverlaps HB.out HBp.out o op _).mono ?_); rintro e w1 ⟨rfl, hb1⟩; rw [cov]; have HW1 := Aside0.mk hb1; clear hb1)
          | go_in)
        go_roundg kk
        case measure => have := HK.out; omega
        case rel =>
          refine ⟨i + 1, by have := HK.out; simp [wrap64]; try omega, ⟨by have := HK.out; omega⟩, ⟨by rw [HH.out, hdrop.out, cov]; rfl⟩, ⟨?_⟩⟩
          exact HW.out.trans ((below_step ((Below.refl wr.heap.size wr).alloc (Nat.le_refl _) _) HW1.out).mono (by have := HW.out.size; simp at this; omega))
end Go.Proofs.Ytlmmjchdfngdgaa.Q
