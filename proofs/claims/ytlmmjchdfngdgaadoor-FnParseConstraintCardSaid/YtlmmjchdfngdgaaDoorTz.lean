/- Contract of zzSplit at a comma. -/
import Derived.Test.YtlmmjchdfngdgaaDoorTv
import Derived.Test.YtlmmjchdfngdgaaDoorPs
namespace Go.Proofs.YtlmmjchdfngdgaaDoor.Q
open Go.RowKit Go.Maps Go.Proofs.YtlmmjchdfngdgaaDoorW.PrintWords Go.Proofs.YtlmmjchdfngdgaaDoorW.PrintLast Go.Proofs.YtlmmjchdfngdgaaDoorW.PrintMore Go.Proofs.YtlmmjchdfngdgaaDoor.Pure
set_option linter.unusedVariables false
set_option linter.unusedSimpArgs false
theorem infoS9 : (Tryd.prog.info? 9).map (fun i => (i.zero, i.size, i.bytes)) = some (some (.string ⟨#[]⟩), 1, 16) := by kernel_rfl
theorem splitL_len : ∀ l : List UInt8, (splitL l).length ≤ l.length + 1
  | [] => by simp [splitL]
  | b :: t => by
    have ih := splitL_len t
    unfold splitL
    split
    · simp; omega
    · cases h : splitL t with
      | nil => simp [consHead]
      | cons x r => rw [h] at ih; simp [consHead] at ih ⊢; omega
theorem splitB_len (s : ByteArray) : (splitB s).length ≤ s.size + 1 := by
  unfold splitB
  rw [List.length_map, Lib.size_eq]
  exact splitL_len _
set_option maxHeartbeats 4000000 in
set_option maxRecDepth 100000 in
theorem split_calls (s : ByteArray) (w : World) (hs : s.size < 4294967296) :
    Calls Tryd.prog 74 #[.string s, .string (⟨#[44]⟩ : ByteArray)] w fun e w' => ∃ v, e = .returned v ∧ Kd.string.R 9 w' w.heap.size (fun k => w.heap.size ≤ k) v (splitB s) ∧ Below w.heap.size w w' := by
  have HS := Aside0.mk hs
  clear hs
  go_enter Tryd.func74, Tryd.ntmps74
  go_wp2
  go_loopg [0, 5] (s.size + 1) (fun kq v0 v5 wr => ∃ (t : ByteArray) (out : List ByteArray), v0 = .string t ∧ Aside0 (t.size < kq) ∧ Aside0 (t.size ≤ s.size) ∧ Aside0 (out ++ splitB t = splitB s) ∧ Aside0 (Kd.string.R 9 wr w.heap.size (fun k => w.heap.size ≤ k) v5 out) ∧ Aside0 (Below w.heap.size w wr))
  case atStart => exact ⟨s, [], rfl, ⟨Nat.lt_succ_self _⟩, ⟨Nat.le_refl _⟩, ⟨rfl⟩, ⟨Kd.R_nil _ _ _ _ _⟩, ⟨Below.refl _ _⟩⟩
  case round =>
    obtain ⟨t, out, rfl, HK, HT, HSP, HO, HB⟩ := hrel
    cases gk with
    | zero => exact absurd HK.out (by omega)
    | succ k =>
      have HOL : Aside0 (out.length ≤ 4294967296) := ⟨by have h := congrArg List.length HSP.out; rw [List.length_append] at h; have := splitB_len s; have := HS.out; omega⟩
      have FI : Aside0 (∀ W : World, Calls Tryd.prog 80 #[.string t, .string (⟨#[44]⟩ : ByteArray)] W fun e w' => e = .returned (.int .i64 (idxC t)) ∧ Below W.heap.size W w') := ⟨fun W => index_calls t W (by have := HS.out; have := HT.out; omega)⟩
      obtain ⟨A5, c5, rfl⟩ := Kd.R_slice HO.out
      have hob : ∀ q, (Value.slice A5 out.length c5).ownBlock = some q → w.heap.size ≤ q := HO.out.1
      by_cases hp : (preC t.data.toList).length < t.size
      case neg =>
        have hi : idxC t = -1 := by unfold idxC; rw [if_neg hp]
        rw [hi] at FI
        have HE : Aside0 (out ++ [t] = splitB s) := ⟨by rw [← HSP.out, split_here t hp]⟩
        go_wp2_with (first
          | (go_at_call 80; (with_reducible refine (FI.out _).mono ?_); rintro e w3 ⟨rfl, hb⟩; have HB3 := Aside0.mk hb; clear hb)
          | ((with_reducible refine gate_builtin (b := .append) (xs := #[.tmp 42, .tmp 44]) rfl ?_); at_builtin; refine Kd.R_append Kd.string (w0 := w3) w.heap.size rfl (.tmp 42) (.tmp 44) 24 9 (.string ⟨#[]⟩) 16 rfl Tryd.underlying24 infoS9 rfl (by decide) (by decide) (.slice A5 out.length c5) out t [.string t] (fun k => w.heap.size ≤ k) (fun _ => False) rfl rfl rfl (fun _ hk => hk.elim) (fun k hk => Nat.le_trans (Nat.le_trans HB.out.size HB3.out.size) hk) (Kd.R_below HO.out HB3.out) (Below.refl _ _) (Nat.le_trans HB.out.size HB3.out.size) (by have := HOL.out; omega) ?_; intro v6 w6 ho6 hb6 hg6 hat6; have HO6 := Aside0.mk ho6; have HG6 := Aside0.mk hg6; clear ho6 hb6 hg6 hat6; go_frame)
          | go_in)
        go_ret
        exact ⟨_, rfl, HE.out ▸ HO6.out, (below_step HB.out HB3.out).grown HG6.out (Nat.le_trans HB.out.size HB3.out.size) hob⟩
      case pos =>
        obtain ⟨p, hpe⟩ : ∃ p, p = (preC t.data.toList).length := ⟨_, rfl⟩
        have hi : idxC t = (p : Int) := by unfold idxC; rw [if_pos hp, hpe]
        rw [hi] at FI
        rw [← hpe] at hp
        have HE : Aside0 ((out ++ [t.extract 0 p]) ++ splitB (t.extract (p + 1) t.size) = splitB s) := ⟨by rw [← HSP.out, split_more t (by rw [← hpe]; exact hp), ← hpe, List.append_assoc]; rfl⟩
        have HPT : Aside0 (p < t.size) := ⟨hp⟩
        have hn : decide ((p : Int) < 0) = false := decide_eq_false (by omega)
        have h1 : (p ≤ t.size) = True := eq_true (by omega)
        have h2 : (p + 1 ≤ t.size) = True := eq_true (by omega)
        have h3 : ((0 : Int) ≤ (p : Int) + 1 ∧ (p : Int) + 1 ≤ (t.size : Int)) = True := eq_true ⟨by omega, by omega⟩
        have hw1 : wrap64 ((p : Int) + 1) = ((p + 1 : Nat) : Int) := by have := HS.out; have := HT.out; unfold wrap64; omega
        clear hpe hi hp
        go_wp2_with (first
          | (go_at_call 80; (with_reducible refine (FI.out _).mono ?_); rintro e w3 ⟨rfl, hb⟩; have HB3 := Aside0.mk hb; clear hb)
          | ((with_reducible refine gate_builtin (b := .append) (xs := #[.tmp 46, .tmp 50]) rfl ?_); at_builtin; refine Kd.R_append Kd.string (w0 := w3) w.heap.size rfl (.tmp 46) (.tmp 50) 24 9 (.string ⟨#[]⟩) 16 rfl Tryd.underlying24 infoS9 rfl (by decide) (by decide) (.slice A5 out.length c5) out (t.extract 0 p) [.string (t.extract 0 p)] (fun k => w.heap.size ≤ k) (fun _ => False) rfl rfl rfl (fun _ hk => hk.elim) (fun k hk => Nat.le_trans (Nat.le_trans HB.out.size HB3.out.size) hk) (Kd.R_below HO.out HB3.out) (Below.refl _ _) (Nat.le_trans HB.out.size HB3.out.size) (by have := HOL.out; omega) ?_; intro v6 w6 ho6 hb6 hg6 hat6; have HO6 := Aside0.mk ho6; have HG6 := Aside0.mk hg6; clear ho6 hb6 hg6 hat6; go_frame)
          | go_in)
        have HTS : (t.extract (p + 1) t.size).size < t.size := by have := HPT.out; rw [ByteArray.size_extract]; omega
        go_roundg k
        case measure => have := HK.out; omega
        case rel => exact ⟨t.extract (p + 1) t.size, out ++ [t.extract 0 p], rfl, ⟨by have := HK.out; omega⟩, ⟨by have := HT.out; omega⟩, HE, HO6, ⟨(below_step HB.out HB3.out).grown HG6.out (Nat.le_trans HB.out.size HB3.out.size) hob⟩⟩
end Go.Proofs.YtlmmjchdfngdgaaDoor.Q
