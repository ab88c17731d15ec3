/- The openers of the arguments of the law FnMerge, and its pure statement. -/
import Derived.Test.YtlmmjchdfngdgaaQ7
import Derived.Test.YtlmmjchdfngdgaaOpen
namespace Go.Proofs.Ytlmmjchdfngdgaa.fnMergeArg
open Go.RowKit Go.Proofs.YtlmmjchdfngdgaaW.PrintWords Go.Proofs.YtlmmjchdfngdgaaW.PrintLast Go.Proofs.Ytlmmjchdfngdgaa.Open Go.Proofs.Ytlmmjchdfngdgaa.Q
set_option maxRecDepth 100000
theorem opens51 : Opens Try.prog 51 (Kd.int .u32) (fun n_ : Int => (Lit.int .u32 n_).wf = true) := Opens.int (by kernel_rfl) Try.underlying51
def L53 (x_ : S53) : Prop := (fun n_ : Int => (Lit.int .u32 n_).wf = true) x_.f0 ∧ (fun n_ : Int => (Lit.int .u32 n_).wf = true) x_.f1
theorem opens53 : Opens Try.prog 53 k53 L53 := Opens.struct Try.underlying53 (by kernel_rfl) (OpensAll.cons opens51 rfl (OpensAll.one opens51 rfl)) _ (fun a_ => ⟨a_.1, a_.2⟩) (fun _ => rfl)
def L48 (l_ : (List S53)) : Prop := l_.length * 8 ≤ 140737488351232 ∧ ∀ x_ ∈ l_, L53 x_
theorem opens48 : Opens Try.prog 48 (Kd.slice 53 k53) L48 := Opens.slice opens53 (by kernel_rfl) Try.underlying48 (by kernel_rfl)
def PureIs : Prop := ∀ (x0 : (List S53)) (x1 : (List S53)), L48 x0 → L48 x1 → ∃ k, laws_FnMerge.f k x0 x1 = some true
end Go.Proofs.Ytlmmjchdfngdgaa.fnMergeArg
