-- Written by wip/drive.py (this claim's own program, over the kit's print).
import Derived.Test.YtlmmjchdfngdgaaProg
import Derived.Below
import Derived.Deep.Draws
import Derived.Deep.AppendLies
import Derived.Maps.AppendAt
import Derived.OwnWalk
import Derived.Laws.BytesArg
import Derived.Laws.MakeOwn
import Derived.Laws.OwnMore
import Derived.Deep.OwnRows
import Derived.Tactics
import Derived.Lib.ConvBytes
import Derived.Laws.Slices
import Derived.WalkKit
import Derived.KernelRfl
import Derived.RowKit3
import Derived.Deep.LoopGhost
import Derived.Deep.QuietTactic
import Derived.BigQuiet
import Derived.WideLaws
import Derived.Deep.DeepCutAuto
import Derived.Deep.CutBlock
import Derived.Deep.RegionHeld3
import Derived.Laws.Rows
import Derived.Lib.AppendStr
import Derived.ArgAppend
import Derived.Laws.IdiomCopy
import Derived.OrdersHeld
import Derived.Laws.BitsLemmas
import Derived.RowKit
import Derived.Test.YtlmmjchdfngdgaaWWords
import Derived.Test.YtlmmjchdfngdgaaWLast
import Derived.Test.YtlmmjchdfngdgaaWTab
import Derived.Test.YtlmmjchdfngdgaaWFour
import Derived.Test.YtlmmjchdfngdgaaWQPut
import Derived.Test.YtlmmjchdfngdgaaWApart
import Derived.Test.YtlmmjchdfngdgaaWArr
import Derived.Test.YtlmmjchdfngdgaaWZeros
import Derived.Test.YtlmmjchdfngdgaaWFoot
import Derived.Test.YtlmmjchdfngdgaaWKept
import Derived.Test.YtlmmjchdfngdgaaWShare
import Derived.Test.YtlmmjchdfngdgaaWN
import Derived.Test.YtlmmjchdfngdgaaWFootNe
import Derived.Test.YtlmmjchdfngdgaaWAt
import Derived.Test.YtlmmjchdfngdgaaWEqStruct
import Derived.Test.YtlmmjchdfngdgaaWRepsOne
import Derived.Test.YtlmmjchdfngdgaaWInv
import Derived.Test.YtlmmjchdfngdgaaWInvWords
import Derived.Test.YtlmmjchdfngdgaaWGuard
import Derived.Test.YtlmmjchdfngdgaaWNEv
import Derived.Test.YtlmmjchdfngdgaaWMore
namespace Go.Proofs.Ytlmmjchdfngdgaa.Q
open Go.RowKit Go.Proofs.YtlmmjchdfngdgaaW.PrintWords Go.Proofs.YtlmmjchdfngdgaaW.PrintLast Go.Proofs.YtlmmjchdfngdgaaW.PrintMore
attribute [local go_sem] max2_int min2_int max_two min_two max_three min_three max_four min_four   -- for this text's walks alone
set_option linter.unusedVariables false
set_option linter.unusedSimpArgs false



def errW : Option Int → Value
  | none => .nilIface
  | some c => .iface 0 (.int .i64 c)
theorem errW_none : errW none = .nilIface := rfl
theorem errW_some (c : Int) : errW (some c) = .iface 0 (.int .i64 c) := rfl

theorem info35 : (Try.prog.info? 35).map (fun i => (i.zero, i.size, i.bytes)) = some (some (.agg #[(.int .i64 0), (.int .i64 0), (.int .u64 0), (.string ⟨#[]⟩)]), 4, 40) := by kernel_rfl
theorem info39 : (Try.prog.info? 39).map (fun i => (i.zero, i.size, i.bytes)) = some (some (.agg #[(.int .i64 0), (.int .i64 0), (.int .i64 0), (.int .u64 0), (.string ⟨#[]⟩), (.int .i64 0)]), 6, 56) := by kernel_rfl
theorem info53 : (Try.prog.info? 53).map (fun i => (i.zero, i.size, i.bytes)) = some (some (.agg #[(.int .u32 0), (.int .u32 0)]), 2, 8) := by kernel_rfl
theorem info95 : (Try.prog.info? 95).map (fun i => (i.zero, i.size, i.bytes)) = some (some (.agg #[(.int .u32 0), (.int .u16 0)]), 2, 8) := by kernel_rfl
-- the values' own types
/-! #### struct type 31 -/
structure S31 where
  f0 : Int
  f1 : Int
  f2 : ByteArray
def z31 : S31 := ⟨(0 : Int), (0 : Int), (⟨#[]⟩ : ByteArray)⟩
def k31 : Kd S31 := Kd.iso (Kd.pair (Kd.int .i64) (Kd.pair (Kd.int .u64) Kd.string)) (fun x : S31 => (x.f0, x.f1, x.f2))
theorem k31_open {w : World} {x : S31} {cs : List Value} (h : k31.K w x cs) : cs = [.int .i64 x.f0, .int .u64 x.f1, .string x.f2] := by
  obtain ⟨_, _, rfl, rfl, ⟨_, _, rfl, rfl, rfl⟩⟩ := h
  exact rfl
theorem k31_openM {w : World} {base : Nat} {ok : Nat → Prop} {x : S31} {cs : List Value} (h : k31.M w base ok x cs) : cs = [.int .i64 x.f0, .int .u64 x.f1, .string x.f2] := by
  obtain ⟨_, _, rfl, rfl, ⟨_, _, rfl, rfl, rfl⟩⟩ := h
  exact rfl
theorem k31_mk (w : World) (x : S31)  : k31.K w x [.int .i64 x.f0, .int .u64 x.f1, .string x.f2] := ⟨[.int .i64 x.f0], [.int .u64 x.f1, .string x.f2], rfl, rfl, ⟨[.int .u64 x.f1], [.string x.f2], rfl, rfl, rfl⟩⟩
theorem k31_mkM (w : World) (base : Nat) (ok : Nat → Prop) (x : S31)  : k31.M w base ok x [.int .i64 x.f0, .int .u64 x.f1, .string x.f2] := ⟨[.int .i64 x.f0], [.int .u64 x.f1, .string x.f2], rfl, rfl, ⟨[.int .u64 x.f1], [.string x.f2], rfl, rfl, rfl⟩⟩
def rd_T31 (xs : List S31) (i : Int) : S31 := xs.getD i.toNat z31
theorem at_T31 {w : World} {A : Option Addr} {n : Nat} {xs : List S31} (h : Kd.C k31 w A n xs) (i : Int) (h0 : 0 ≤ i) (h1 : i < n) : ∃ ad , A = some ad ∧ w.cell? (ad.add (i.toNat * 3)) = some (.int .i64 (rd_T31 xs i).f0) ∧ w.cell? ⟨(ad.add (i.toNat * 3)).block, (ad.add (i.toNat * 3)).off + 1, none⟩ = some (.int .u64 (rd_T31 xs i).f1) ∧ w.cell? ⟨(ad.add (i.toNat * 3)).block, (ad.add (i.toNat * 3)).off + 2, none⟩ = some (.string (rd_T31 xs i).f2) := by
  obtain ⟨ad, c, e, _, hK, hc0⟩ := Kd.C_get h z31 i h0 h1
  have hc : ∀ j u, c[j]? = some u → w.cell? (ad.add (i.toNat * 3 + j)) = some u := hc0
  obtain rfl := k31_open hK
  exact ⟨ad, e, hc 0 _ rfl, by rw [← add_field _ _ 1 (by omega)]; exact hc 1 _ rfl, by rw [← add_field _ _ 2 (by omega)]; exact hc 2 _ rfl⟩

/-! #### struct type 35 -/
structure S35 where
  f0 : Int
  f1 : S31
def z35 : S35 := ⟨(0 : Int), z31⟩
def k35 : Kd S35 := Kd.iso (Kd.pair (Kd.int .i64) k31) (fun x : S35 => (x.f0, x.f1))
theorem k35_open {w : World} {x : S35} {cs : List Value} (h : k35.K w x cs) : cs = [.int .i64 x.f0, .int .i64 x.f1.f0, .int .u64 x.f1.f1, .string x.f1.f2] := by
  obtain ⟨_, _, rfl, rfl, s1⟩ := h
  obtain rfl := k31_open s1
  exact rfl
theorem k35_openM {w : World} {base : Nat} {ok : Nat → Prop} {x : S35} {cs : List Value} (h : k35.M w base ok x cs) : cs = [.int .i64 x.f0, .int .i64 x.f1.f0, .int .u64 x.f1.f1, .string x.f1.f2] := by
  obtain ⟨_, _, rfl, rfl, s1⟩ := h
  obtain rfl := k31_openM s1
  exact rfl
theorem k35_mk (w : World) (x : S35)  : k35.K w x [.int .i64 x.f0, .int .i64 x.f1.f0, .int .u64 x.f1.f1, .string x.f1.f2] := ⟨[.int .i64 x.f0], [.int .i64 x.f1.f0, .int .u64 x.f1.f1, .string x.f1.f2], rfl, rfl, (k31_mk w x.f1 )⟩
theorem k35_mkM (w : World) (base : Nat) (ok : Nat → Prop) (x : S35)  : k35.M w base ok x [.int .i64 x.f0, .int .i64 x.f1.f0, .int .u64 x.f1.f1, .string x.f1.f2] := ⟨[.int .i64 x.f0], [.int .i64 x.f1.f0, .int .u64 x.f1.f1, .string x.f1.f2], rfl, rfl, (k31_mkM w base ok x.f1 )⟩
def rd_T35 (xs : List S35) (i : Int) : S35 := xs.getD i.toNat z35
theorem at_T35 {w : World} {A : Option Addr} {n : Nat} {xs : List S35} (h : Kd.C k35 w A n xs) (i : Int) (h0 : 0 ≤ i) (h1 : i < n) : ∃ ad , A = some ad ∧ w.cell? (ad.add (i.toNat * 4)) = some (.int .i64 (rd_T35 xs i).f0) ∧ w.cell? ⟨(ad.add (i.toNat * 4)).block, (ad.add (i.toNat * 4)).off + 1, none⟩ = some (.int .i64 (rd_T35 xs i).f1.f0) ∧ w.cell? ⟨(ad.add (i.toNat * 4)).block, (ad.add (i.toNat * 4)).off + 2, none⟩ = some (.int .u64 (rd_T35 xs i).f1.f1) ∧ w.cell? ⟨(ad.add (i.toNat * 4)).block, (ad.add (i.toNat * 4)).off + 3, none⟩ = some (.string (rd_T35 xs i).f1.f2) := by
  obtain ⟨ad, c, e, _, hK, hc0⟩ := Kd.C_get h z35 i h0 h1
  have hc : ∀ j u, c[j]? = some u → w.cell? (ad.add (i.toNat * 4 + j)) = some u := hc0
  obtain rfl := k35_open hK
  exact ⟨ad, e, hc 0 _ rfl, by rw [← add_field _ _ 1 (by omega)]; exact hc 1 _ rfl, by rw [← add_field _ _ 2 (by omega)]; exact hc 2 _ rfl, by rw [← add_field _ _ 3 (by omega)]; exact hc 3 _ rfl⟩

/-! #### struct type 39 -/
structure S39 where
  f0 : Int
  f1 : S35
  f2 : Int
def z39 : S39 := ⟨(0 : Int), z35, (0 : Int)⟩
def k39 : Kd S39 := Kd.iso (Kd.pair (Kd.int .i64) (Kd.pair k35 (Kd.int .i64))) (fun x : S39 => (x.f0, x.f1, x.f2))
theorem k39_open {w : World} {x : S39} {cs : List Value} (h : k39.K w x cs) : cs = [.int .i64 x.f0, .int .i64 x.f1.f0, .int .i64 x.f1.f1.f0, .int .u64 x.f1.f1.f1, .string x.f1.f1.f2, .int .i64 x.f2] := by
  obtain ⟨_, _, rfl, rfl, ⟨_, _, rfl, s1, rfl⟩⟩ := h
  obtain rfl := k35_open s1
  exact rfl
theorem k39_openM {w : World} {base : Nat} {ok : Nat → Prop} {x : S39} {cs : List Value} (h : k39.M w base ok x cs) : cs = [.int .i64 x.f0, .int .i64 x.f1.f0, .int .i64 x.f1.f1.f0, .int .u64 x.f1.f1.f1, .string x.f1.f1.f2, .int .i64 x.f2] := by
  obtain ⟨_, _, rfl, rfl, ⟨_, _, rfl, s1, rfl⟩⟩ := h
  obtain rfl := k35_openM s1
  exact rfl
theorem k39_mk (w : World) (x : S39)  : k39.K w x [.int .i64 x.f0, .int .i64 x.f1.f0, .int .i64 x.f1.f1.f0, .int .u64 x.f1.f1.f1, .string x.f1.f1.f2, .int .i64 x.f2] := ⟨[.int .i64 x.f0], [.int .i64 x.f1.f0, .int .i64 x.f1.f1.f0, .int .u64 x.f1.f1.f1, .string x.f1.f1.f2, .int .i64 x.f2], rfl, rfl, ⟨[.int .i64 x.f1.f0, .int .i64 x.f1.f1.f0, .int .u64 x.f1.f1.f1, .string x.f1.f1.f2], [.int .i64 x.f2], rfl, (k35_mk w x.f1 ), rfl⟩⟩
theorem k39_mkM (w : World) (base : Nat) (ok : Nat → Prop) (x : S39)  : k39.M w base ok x [.int .i64 x.f0, .int .i64 x.f1.f0, .int .i64 x.f1.f1.f0, .int .u64 x.f1.f1.f1, .string x.f1.f1.f2, .int .i64 x.f2] := ⟨[.int .i64 x.f0], [.int .i64 x.f1.f0, .int .i64 x.f1.f1.f0, .int .u64 x.f1.f1.f1, .string x.f1.f1.f2, .int .i64 x.f2], rfl, rfl, ⟨[.int .i64 x.f1.f0, .int .i64 x.f1.f1.f0, .int .u64 x.f1.f1.f1, .string x.f1.f1.f2], [.int .i64 x.f2], rfl, (k35_mkM w base ok x.f1 ), rfl⟩⟩
def rd_T39 (xs : List S39) (i : Int) : S39 := xs.getD i.toNat z39
theorem at_T39 {w : World} {A : Option Addr} {n : Nat} {xs : List S39} (h : Kd.C k39 w A n xs) (i : Int) (h0 : 0 ≤ i) (h1 : i < n) : ∃ ad , A = some ad ∧ w.cell? (ad.add (i.toNat * 6)) = some (.int .i64 (rd_T39 xs i).f0) ∧ w.cell? ⟨(ad.add (i.toNat * 6)).block, (ad.add (i.toNat * 6)).off + 1, none⟩ = some (.int .i64 (rd_T39 xs i).f1.f0) ∧ w.cell? ⟨(ad.add (i.toNat * 6)).block, (ad.add (i.toNat * 6)).off + 2, none⟩ = some (.int .i64 (rd_T39 xs i).f1.f1.f0) ∧ w.cell? ⟨(ad.add (i.toNat * 6)).block, (ad.add (i.toNat * 6)).off + 3, none⟩ = some (.int .u64 (rd_T39 xs i).f1.f1.f1) ∧ w.cell? ⟨(ad.add (i.toNat * 6)).block, (ad.add (i.toNat * 6)).off + 4, none⟩ = some (.string (rd_T39 xs i).f1.f1.f2) ∧ w.cell? ⟨(ad.add (i.toNat * 6)).block, (ad.add (i.toNat * 6)).off + 5, none⟩ = some (.int .i64 (rd_T39 xs i).f2) := by
  obtain ⟨ad, c, e, _, hK, hc0⟩ := Kd.C_get h z39 i h0 h1
  have hc : ∀ j u, c[j]? = some u → w.cell? (ad.add (i.toNat * 6 + j)) = some u := hc0
  obtain rfl := k39_open hK
  exact ⟨ad, e, hc 0 _ rfl, by rw [← add_field _ _ 1 (by omega)]; exact hc 1 _ rfl, by rw [← add_field _ _ 2 (by omega)]; exact hc 2 _ rfl, by rw [← add_field _ _ 3 (by omega)]; exact hc 3 _ rfl, by rw [← add_field _ _ 4 (by omega)]; exact hc 4 _ rfl, by rw [← add_field _ _ 5 (by omega)]; exact hc 5 _ rfl⟩

def rd_L7 (xs : List (List S39)) (i : Int) : (List S39) := xs.getD i.toNat ([] : List S39)
theorem at_L7 {w : World} {A : Option Addr} {n : Nat} {xs : List (List S39)} (h : Kd.C (Kd.slice 39 k39) w A n xs) (i : Int) (h0 : 0 ≤ i) (h1 : i < n) : ∃ ad A0 c0, A = some ad ∧ w.cell? (ad.add i.toNat) = some (.slice A0 (rd_L7 xs i).length c0) ∧ (rd_L7 xs i).length ≤ c0 ∧ k39.C w A0 (rd_L7 xs i).length (rd_L7 xs i) := by
  obtain ⟨ad, c, e, _, hK, hc0⟩ := Kd.C_get h ([] : List S39) i h0 h1
  have hc : ∀ j u, c[j]? = some u → w.cell? (ad.add (i.toNat * 1 + j)) = some u := hc0
  obtain ⟨A0, c0, rfl, l0, g0⟩ := hK
  exact ⟨ad, A0, c0, e, by have hq := hc 0 _ rfl; rwa [Nat.mul_one, Nat.add_zero] at hq, l0, g0⟩

def rd_L8 (xs : List (List Bool)) (i : Int) : (List Bool) := xs.getD i.toNat ([] : List Bool)
theorem at_L8 {w : World} {A : Option Addr} {n : Nat} {xs : List (List Bool)} (h : Kd.C (Kd.slice 4 Kd.bool) w A n xs) (i : Int) (h0 : 0 ≤ i) (h1 : i < n) : ∃ ad A0 c0, A = some ad ∧ w.cell? (ad.add i.toNat) = some (.slice A0 (rd_L8 xs i).length c0) ∧ (rd_L8 xs i).length ≤ c0 ∧ Kd.bool.C w A0 (rd_L8 xs i).length (rd_L8 xs i) := by
  obtain ⟨ad, c, e, _, hK, hc0⟩ := Kd.C_get h ([] : List Bool) i h0 h1
  have hc : ∀ j u, c[j]? = some u → w.cell? (ad.add (i.toNat * 1 + j)) = some u := hc0
  obtain ⟨A0, c0, rfl, l0, g0⟩ := hK
  exact ⟨ad, A0, c0, e, by have hq := hc 0 _ rfl; rwa [Nat.mul_one, Nat.add_zero] at hq, l0, g0⟩

def rd_L9 (xs : List (List S35)) (i : Int) : (List S35) := xs.getD i.toNat ([] : List S35)
theorem at_L9 {w : World} {A : Option Addr} {n : Nat} {xs : List (List S35)} (h : Kd.C (Kd.slice 35 k35) w A n xs) (i : Int) (h0 : 0 ≤ i) (h1 : i < n) : ∃ ad A0 c0, A = some ad ∧ w.cell? (ad.add i.toNat) = some (.slice A0 (rd_L9 xs i).length c0) ∧ (rd_L9 xs i).length ≤ c0 ∧ k35.C w A0 (rd_L9 xs i).length (rd_L9 xs i) := by
  obtain ⟨ad, c, e, _, hK, hc0⟩ := Kd.C_get h ([] : List S35) i h0 h1
  have hc : ∀ j u, c[j]? = some u → w.cell? (ad.add (i.toNat * 1 + j)) = some u := hc0
  obtain ⟨A0, c0, rfl, l0, g0⟩ := hK
  exact ⟨ad, A0, c0, e, by have hq := hc 0 _ rfl; rwa [Nat.mul_one, Nat.add_zero] at hq, l0, g0⟩

/-! #### struct type 53 -/
structure S53 where
  f0 : Int
  f1 : Int
def z53 : S53 := ⟨(0 : Int), (0 : Int)⟩
def k53 : Kd S53 := Kd.iso (Kd.pair (Kd.int .u32) (Kd.int .u32)) (fun x : S53 => (x.f0, x.f1))
theorem k53_open {w : World} {x : S53} {cs : List Value} (h : k53.K w x cs) : cs = [.int .u32 x.f0, .int .u32 x.f1] := by
  obtain ⟨_, _, rfl, rfl, rfl⟩ := h
  exact rfl
theorem k53_openM {w : World} {base : Nat} {ok : Nat → Prop} {x : S53} {cs : List Value} (h : k53.M w base ok x cs) : cs = [.int .u32 x.f0, .int .u32 x.f1] := by
  obtain ⟨_, _, rfl, rfl, rfl⟩ := h
  exact rfl
theorem k53_mk (w : World) (x : S53)  : k53.K w x [.int .u32 x.f0, .int .u32 x.f1] := ⟨[.int .u32 x.f0], [.int .u32 x.f1], rfl, rfl, rfl⟩
theorem k53_mkM (w : World) (base : Nat) (ok : Nat → Prop) (x : S53)  : k53.M w base ok x [.int .u32 x.f0, .int .u32 x.f1] := ⟨[.int .u32 x.f0], [.int .u32 x.f1], rfl, rfl, rfl⟩
def rd_T53 (xs : List S53) (i : Int) : S53 := xs.getD i.toNat z53
theorem at_T53 {w : World} {A : Option Addr} {n : Nat} {xs : List S53} (h : Kd.C k53 w A n xs) (i : Int) (h0 : 0 ≤ i) (h1 : i < n) : ∃ ad , A = some ad ∧ w.cell? (ad.add (i.toNat * 2)) = some (.int .u32 (rd_T53 xs i).f0) ∧ w.cell? ⟨(ad.add (i.toNat * 2)).block, (ad.add (i.toNat * 2)).off + 1, none⟩ = some (.int .u32 (rd_T53 xs i).f1) := by
  obtain ⟨ad, c, e, _, hK, hc0⟩ := Kd.C_get h z53 i h0 h1
  have hc : ∀ j u, c[j]? = some u → w.cell? (ad.add (i.toNat * 2 + j)) = some u := hc0
  obtain rfl := k53_open hK
  exact ⟨ad, e, hc 0 _ rfl, by rw [← add_field _ _ 1 (by omega)]; exact hc 1 _ rfl⟩

def rd_L12 (xs : List (List S53)) (i : Int) : (List S53) := xs.getD i.toNat ([] : List S53)
theorem at_L12 {w : World} {A : Option Addr} {n : Nat} {xs : List (List S53)} (h : Kd.C (Kd.slice 53 k53) w A n xs) (i : Int) (h0 : 0 ≤ i) (h1 : i < n) : ∃ ad A0 c0, A = some ad ∧ w.cell? (ad.add i.toNat) = some (.slice A0 (rd_L12 xs i).length c0) ∧ (rd_L12 xs i).length ≤ c0 ∧ k53.C w A0 (rd_L12 xs i).length (rd_L12 xs i) := by
  obtain ⟨ad, c, e, _, hK, hc0⟩ := Kd.C_get h ([] : List S53) i h0 h1
  have hc : ∀ j u, c[j]? = some u → w.cell? (ad.add (i.toNat * 1 + j)) = some u := hc0
  obtain ⟨A0, c0, rfl, l0, g0⟩ := hK
  exact ⟨ad, A0, c0, e, by have hq := hc 0 _ rfl; rwa [Nat.mul_one, Nat.add_zero] at hq, l0, g0⟩

/-! #### struct type 95 -/
structure S95 where
  f0 : Int
  f1 : Int
def z95 : S95 := ⟨(0 : Int), (0 : Int)⟩
def k95 : Kd S95 := Kd.iso (Kd.pair (Kd.int .u32) (Kd.int .u16)) (fun x : S95 => (x.f0, x.f1))
theorem k95_open {w : World} {x : S95} {cs : List Value} (h : k95.K w x cs) : cs = [.int .u32 x.f0, .int .u16 x.f1] := by
  obtain ⟨_, _, rfl, rfl, rfl⟩ := h
  exact rfl
theorem k95_openM {w : World} {base : Nat} {ok : Nat → Prop} {x : S95} {cs : List Value} (h : k95.M w base ok x cs) : cs = [.int .u32 x.f0, .int .u16 x.f1] := by
  obtain ⟨_, _, rfl, rfl, rfl⟩ := h
  exact rfl
theorem k95_mk (w : World) (x : S95)  : k95.K w x [.int .u32 x.f0, .int .u16 x.f1] := ⟨[.int .u32 x.f0], [.int .u16 x.f1], rfl, rfl, rfl⟩
theorem k95_mkM (w : World) (base : Nat) (ok : Nat → Prop) (x : S95)  : k95.M w base ok x [.int .u32 x.f0, .int .u16 x.f1] := ⟨[.int .u32 x.f0], [.int .u16 x.f1], rfl, rfl, rfl⟩
def rd_T95 (xs : List S95) (i : Int) : S95 := xs.getD i.toNat z95
theorem at_T95 {w : World} {A : Option Addr} {n : Nat} {xs : List S95} (h : Kd.C k95 w A n xs) (i : Int) (h0 : 0 ≤ i) (h1 : i < n) : ∃ ad , A = some ad ∧ w.cell? (ad.add (i.toNat * 2)) = some (.int .u32 (rd_T95 xs i).f0) ∧ w.cell? ⟨(ad.add (i.toNat * 2)).block, (ad.add (i.toNat * 2)).off + 1, none⟩ = some (.int .u16 (rd_T95 xs i).f1) := by
  obtain ⟨ad, c, e, _, hK, hc0⟩ := Kd.C_get h z95 i h0 h1
  have hc : ∀ j u, c[j]? = some u → w.cell? (ad.add (i.toNat * 2 + j)) = some u := hc0
  obtain rfl := k95_open hK
  exact ⟨ad, e, hc 0 _ rfl, by rw [← add_field _ _ 1 (by omega)]; exact hc 1 _ rfl⟩

def rd_L15 (xs : List (List S95)) (i : Int) : (List S95) := xs.getD i.toNat ([] : List S95)
theorem at_L15 {w : World} {A : Option Addr} {n : Nat} {xs : List (List S95)} (h : Kd.C (Kd.slice 95 k95) w A n xs) (i : Int) (h0 : 0 ≤ i) (h1 : i < n) : ∃ ad A0 c0, A = some ad ∧ w.cell? (ad.add i.toNat) = some (.slice A0 (rd_L15 xs i).length c0) ∧ (rd_L15 xs i).length ≤ c0 ∧ k95.C w A0 (rd_L15 xs i).length (rd_L15 xs i) := by
  obtain ⟨ad, c, e, _, hK, hc0⟩ := Kd.C_get h ([] : List S95) i h0 h1
  have hc : ∀ j u, c[j]? = some u → w.cell? (ad.add (i.toNat * 1 + j)) = some u := hc0
  obtain ⟨A0, c0, rfl, l0, g0⟩ := hK
  exact ⟨ad, A0, c0, e, by have hq := hc 0 _ rfl; rwa [Nat.mul_one, Nat.add_zero] at hq, l0, g0⟩

end Go.Proofs.Ytlmmjchdfngdgaa.Q
