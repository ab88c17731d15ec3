/- Contracts of parsing: an option. -/
import Derived.Test.YtlmmjchdfngdgaaDoorTz
namespace Go.Proofs.YtlmmjchdfngdgaaDoor.Q
open Go.RowKit Go.Maps Go.Proofs.YtlmmjchdfngdgaaDoorW.PrintWords Go.Proofs.YtlmmjchdfngdgaaDoorW.PrintLast Go.Proofs.YtlmmjchdfngdgaaDoorW.PrintMore Go.Proofs.YtlmmjchdfngdgaaDoor.Pure
set_option linter.unusedVariables false
set_option linter.unusedSimpArgs false
theorem size_alloc' (w : World) (o : Obj) : (w.alloc o).heap.size = w.heap.size + 1 := by simp
/-- An empty row laid by a literal. -/
theorem lit_none {α : Type} (d : Kd α) (base : Nat) (ok : Nat → Prop) (W : World) (e : TypeId) (hb : base ≤ W.heap.size) (hok : ok W.heap.size) :
    d.R e (W.alloc (.cells #[] e)) base ok (.slice (some ⟨W.heap.size, 0, none⟩) 0 0) [] := by
  refine ⟨fun k hk => ?_, [], World.ownsRow_lit (size := d.sz) W #[] 0 hb (by decide) (by simp), ?_⟩
  · have : W.heap.size = k := by simpa [Value.ownBlock] using hk
    exact this ▸ hok
  · exact Reps.none _ _
theorem splitL_mem : ∀ (l : List UInt8), ∀ x ∈ splitL l, (∀ b ∈ x, b ∈ l) ∧ x.length ≤ l.length
  | [], x, hx => by
    obtain rfl : x = [] := by simpa [splitL] using hx
    simp
  | b :: t, x, hx => by
    have ih := splitL_mem t
    unfold splitL at hx
    split at hx
    · rcases List.mem_cons.1 hx with rfl | hx
      · simp
      · obtain ⟨h1, h2⟩ := ih x hx
        exact ⟨fun c hc => .tail _ (h1 c hc), by simp; omega⟩
    · cases h : splitL t with
      | nil => exact absurd h (splitL_ne t)
      | cons y r =>
        rw [h] at hx ih
        rcases List.mem_cons.1 hx with rfl | hx
        · obtain ⟨h1, h2⟩ := ih y (.head _)
          refine ⟨fun c hc => ?_, by simp; omega⟩
          rcases List.mem_cons.1 hc with rfl | hc
          · exact .head _
          · exact .tail _ (h1 c hc)
        · obtain ⟨h1, h2⟩ := ih x (.tail _ hx)
          exact ⟨fun c hc => .tail _ (h1 c hc), by simp; omega⟩
theorem asciiB_pieces (s : ByteArray) (ha : asciiB s = true) (hs : s.size ≤ 140737488355328) : okO (splitB s) = true := by
  refine List.all_eq_true.2 fun t ht => ?_
  unfold splitB at ht
  obtain ⟨x, hx, rfl⟩ := List.mem_map.1 ht
  obtain ⟨h1, h2⟩ := splitL_mem _ x hx
  rw [Bool.and_eq_true, decide_eq_true_eq]
  refine ⟨List.all_eq_true.2 fun b hb => List.all_eq_true.1 ha b (h1 b hb), ?_⟩
  rw [Lib.size_eq, toB_data]
  rw [Lib.size_eq] at hs
  omega
set_option maxHeartbeats 4000000 in
set_option maxRecDepth 100000 in
theorem parseOption_calls (s : ByteArray) (w : World) (hP : Tabs w) (ha : asciiB s = true) (hs : s.size < 4294967200) :
    Calls Tryd.prog 61 #[.string s] w fun e w' => ∃ v x, e = .returned (.tuple #[v, x]) ∧ (validO (splitB s) = true → x = .nilIface) ∧ (validO (splitB s) = false → ∃ y, x = .iface 74 y) ∧ Kd.string.R 41 w' w.heap.size (fun k => w.heap.size ≤ k) v (splitB s) ∧ Below w.heap.size w w' := by
  have hok := asciiB_pieces s ha (by omega)
  have hlen : (splitB s).length ≤ 4294967200 := by have := splitB_len s; omega
  have HSC := Aside0.mk (fun W => split_calls s W (by omega))
  obtain ⟨l, hl⟩ : ∃ l, l = splitB s := ⟨_, rfl⟩
  rw [← hl] at hok hlen ⊢
  have HL := Aside0.mk hl
  have HP := Aside0.mk hP
  have HOK := Aside0.mk hok
  have HLEN := Aside0.mk hlen
  clear hl hP ha hs hok hlen
  go_enter Tryd.func61, Tryd.ntmps61
  go_wp2_with (first
    | (go_at_call 74; (with_reducible refine (HSC.out _).mono ?_); rintro e w3 ⟨v9, rfl, hO, hb⟩; rw [← HL.out] at hO; obtain ⟨A9, c9, rfl⟩ := Kd.R_slice hO; have HO9 := Aside0.mk hO; have HB3 := Aside0.mk hb; clear hO hb)
    | go_in)
  have HB1 : Below w.heap.size w w3 := below_step (below_alloc (Below.refl _ _) _) HB3.out
  have HBX := Aside0.mk HB1
  have HF : Aside0 (∀ k, (Value.slice A9 l.length c9).ownBlock = some k → w.heap.size < k) := ⟨fun k hk => by have := HO9.out.1 k hk; simp only [size_alloc'] at this; omega⟩
  go_loopg [4, 11] l.length (fun kq v4 v11 wr => ∃ i : Nat, v11 = .int .i64 (i : Int) ∧ Aside0 (i + kq = l.length) ∧ Aside0 (Kd.string.R 41 wr w.heap.size (fun k => w.heap.size ≤ k ∧ some k ≠ (Value.slice A9 l.length c9).ownBlock) v4 (l.take i)) ∧ Aside0 (Kd.string.R 9 wr w.heap.size (fun k => w.heap.size ≤ k) (.slice A9 l.length c9) l) ∧ Aside0 (Below w.heap.size w wr))
  case atStart =>
    refine ⟨0, rfl, ⟨by simp⟩, ⟨Kd.R_below (lit_none Kd.string w.heap.size _ w 41 (Nat.le_refl _) ⟨Nat.le_refl _, fun e => ?_⟩) HB3.out⟩, ⟨Kd.R_mono (Kd.R_lower HO9.out (below_alloc (Below.refl _ _) _).size) (fun k hk => Nat.le_trans (below_alloc (Below.refl _ _) _).size hk)⟩, ⟨HB1⟩⟩
    have := HF.out _ e.symm
    omega
  case round =>
    obtain ⟨i, rfl, HK, HO, HR, HB⟩ := hrel
    clear HO9 HB3 HBX
    cases gk with
    | zero =>
      have e' : (i < l.length) = False := eq_false (by have := HK.out; omega)
      have e2 : i = l.length := by have := HK.out; omega
      have h := HO.out
      rw [e2, List.take_length] at h
      have HT := Aside0.mk h
      obtain ⟨A4, c4, rfl⟩ := Kd.R_slice h
      clear h HO
      obtain ⟨bv, hbv⟩ : ∃ b, b = validO l := ⟨_, rfl⟩
      have HV := Aside0.mk hbv
      have FV : Aside0 (∀ W : World, Below wr.heap.size wr W → Calls Tryd.prog 40 #[.slice A4 l.length c4] W fun e w' => (bv = true → e = .returned .nilIface) ∧ (bv = false → ∃ x, e = .returned (.iface 74 x)) ∧ Below W.heap.size W w') := ⟨fun W h => by
        rw [hbv]
        exact optValid_calls A4 c4 l W (Kd.C_below (Kd.R_reads' HT.out).2.2 h) (HP.out.below (below_step HB.out h)) HOK.out (by have := HLEN.out; omega)⟩
      clear hbv
      cases bv with
      | true =>
        go_wp2_with (first
          | (go_at_call 40; (with_reducible refine (FV.out _ (Below.refl _ _)).mono ?_); rintro e w5 ⟨h1, _, hb⟩; obtain rfl := h1 rfl; have HB5 := Aside0.mk hb; clear h1 hb)
          | go_in)
        go_ret2
        exact ⟨_, _, rfl, fun _ => rfl, fun h => absurd (HV.out.trans h) (by decide), Kd.R_mono (Kd.R_below HT.out HB5.out) (fun k hk => hk.1), below_step HB.out HB5.out⟩
      | false =>
        go_wp2_with (first
          | (go_at_call 40; (with_reducible refine (FV.out _ (Below.refl _ _)).mono ?_); rintro e w5 ⟨_, h1, hb⟩; obtain ⟨x5, rfl⟩ := h1 rfl; have HB5 := Aside0.mk hb; clear h1 hb)
          | go_in)
        go_ret2
        exact ⟨_, _, rfl, fun h => absurd (HV.out.trans h) (by decide), fun _ => ⟨_, rfl⟩, Kd.R_mono (Kd.R_below HT.out HB5.out) (fun k hk => hk.1), below_step HB.out HB5.out⟩
    | succ k =>
      have hi : i < l.length := by have := HK.out; omega
      obtain ⟨p, hp⟩ : ∃ p, l[i]? = some p := ⟨_, List.getElem?_eq_getElem hi⟩
      have HTK : Aside0 (l.take (i + 1) = l.take i ++ [p]) := ⟨by obtain ⟨h1, h2⟩ := List.getElem?_eq_some_iff.1 hp; rw [List.take_succ_eq_append_getElem h1, h2]⟩
      have HTL : Aside0 ((l.take i).length = i) := ⟨by rw [List.length_take]; omega⟩
      obtain ⟨ad, hA, h0⟩ := at_str (Kd.R_reads' HR.out).2.2 i hi p hp
      cases hA
      obtain ⟨A4, c4, rfl⟩ := Kd.R_slice HO.out
      have e' : (i < l.length) = True := eq_true hi
      have hob : ∀ q, (Value.slice A4 (l.take i).length c4).ownBlock = some q → w.heap.size ≤ q ∧ some q ≠ (Value.slice (some ad) l.length c9).ownBlock := HO.out.1
      clear hi
      go_wp2_with (first
        | ((with_reducible refine gate_builtin (b := .append) (xs := #[.tmp 15, .tmp 17]) rfl ?_); at_builtin; refine Kd.R_append Kd.string (w0 := wr) w.heap.size rfl (.tmp 15) (.tmp 17) 46 41 (.string ⟨#[]⟩) 16 rfl Tryd.underlying46 info41 rfl (by decide) (by decide) (.slice A4 (l.take i).length c4) (l.take i) p [.string p] (fun k => w.heap.size ≤ k ∧ some k ≠ (Value.slice (some ad) l.length c9).ownBlock) (fun _ => False) rfl rfl rfl (fun _ hk => hk.elim) (fun k hk => ⟨Nat.le_trans HB.out.size hk, Kd.fresh' (Kd.R_lt HR.out) k hk⟩) HO.out (Below.refl _ _) HB.out.size (by have := HTL.out; have := HK.out; have := HLEN.out; omega) ?_; intro v6 w6 ho6 hb6 hg6 hat6; have HO6 := Aside0.mk ho6; have HG6 := Aside0.mk hg6; clear ho6 hb6 hg6 hat6; go_frame)
        | go_in)
      go_roundg k
      case measure => have := HK.out; omega
      case rel =>
        exact ⟨i + 1, by have := HK.out; have := HLEN.out; simp [wrap64]; omega, ⟨by have := HK.out; omega⟩, ⟨by rw [HTK.out]; exact HO6.out⟩, ⟨Kd.R_grown2 HR.out rfl HG6.out (fun q hq => (hob q hq).2)⟩, ⟨HB.out.grown HG6.out HB.out.size (fun q hq => (hob q hq).1)⟩⟩
end Go.Proofs.YtlmmjchdfngdgaaDoor.Q
