/- The plain law behind FnBytes: the package's bytes of a constant are the reference's. -/
import Derived.Test.YtlmmjchdfngdgaaArgFnBytes
namespace Go.Proofs.Ytlmmjchdfngdgaa.Pure
open Go.RowKit Go.Proofs.Ytlmmjchdfngdgaa.Q Go.Proofs.YtlmmjchdfngdgaaW.PrintWords Go.Proofs.YtlmmjchdfngdgaaW.PrintLast

theorem spec_Bytes_eq (k : Nat) (a b : Int) (s : ByteArray) : spec_Bytes.f (k + 4) a b s = some (cBytes a s) := by
  unfold spec_Bytes.f cBytes
  by_cases h1 : a = 1
  · subst h1; simp [spec_Bytes.j0]
  by_cases h2 : a = 2
  · subst h2; simp [spec_Bytes.j0]
  by_cases h3 : a = 3
  · subst h3; simp [spec_Bytes.j0, spec_Bytes.j1]
  by_cases h4 : a = 4
  · subst h4; simp [spec_Bytes.j0, spec_Bytes.j1]
  by_cases h5 : a = 5
  · subst h5; simp [spec_Bytes.j0, spec_Bytes.j1, spec_Bytes.j2]
  by_cases h6 : a = 6
  · subst h6; simp [spec_Bytes.j0, spec_Bytes.j1, spec_Bytes.j2]
  by_cases h9 : a = 9
  · subst h9; simp [spec_Bytes.j0, spec_Bytes.j1, spec_Bytes.j2]
  by_cases h7 : a = 7
  · subst h7; simp [spec_Bytes.j0, spec_Bytes.j1, spec_Bytes.j2, spec_Bytes.j3]
  by_cases h8 : a = 8
  · subst h8; simp [spec_Bytes.j0, spec_Bytes.j1, spec_Bytes.j2, spec_Bytes.j3]
  by_cases h10 : a = 10
  · subst h10; simp [spec_Bytes.j0, spec_Bytes.j1, spec_Bytes.j2, spec_Bytes.j3]
  by_cases h11 : a = 11
  · subst h11; simp [spec_Bytes.j0, spec_Bytes.j1, spec_Bytes.j2, spec_Bytes.j3]
  simp [spec_Bytes.j0, spec_Bytes.j1, spec_Bytes.j2, spec_Bytes.j3, h1, h2, h3, h4, h5, h6, h7, h8, h9, h10, h11]

theorem FnBytes : fnBytesArg.PureIs := by
  intro x _
  refine ⟨4, ?_⟩
  unfold laws_FnBytes.f laws_zzFits11.f impl_Bytes.f
  rw [spec_Bytes_eq 0]
  split <;> simp
end Go.Proofs.Ytlmmjchdfngdgaa.Pure
