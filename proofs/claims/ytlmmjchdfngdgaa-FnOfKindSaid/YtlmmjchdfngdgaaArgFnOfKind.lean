/- The openers of the arguments of the law FnOfKind, and its pure statement. -/
import Derived.Test.YtlmmjchdfngdgaaQ9
import Derived.Test.YtlmmjchdfngdgaaOpen
namespace Go.Proofs.Ytlmmjchdfngdgaa.fnOfKindArg
open Go.RowKit Go.Proofs.YtlmmjchdfngdgaaW.PrintWords Go.Proofs.YtlmmjchdfngdgaaW.PrintLast Go.Proofs.Ytlmmjchdfngdgaa.Open Go.Proofs.Ytlmmjchdfngdgaa.Q
set_option maxRecDepth 100000
theorem opens51 : Opens Try.prog 51 (Kd.int .u32) (fun n_ : Int => (Lit.int .u32 n_).wf = true) := Opens.int (by kernel_rfl) Try.underlying51
theorem opens22 : Opens Try.prog 22 (Kd.int .u16) (fun n_ : Int => (Lit.int .u16 n_).wf = true) := Opens.int (by kernel_rfl) Try.underlying22
def L95 (x_ : S95) : Prop := (fun n_ : Int => (Lit.int .u32 n_).wf = true) x_.f0 ∧ (fun n_ : Int => (Lit.int .u16 n_).wf = true) x_.f1
theorem opens95 : Opens Try.prog 95 k95 L95 := Opens.struct Try.underlying95 (by kernel_rfl) (OpensAll.cons opens51 rfl (OpensAll.one opens22 rfl)) _ (fun a_ => ⟨a_.1, a_.2⟩) (fun _ => rfl)
def L55 (l_ : (List S95)) : Prop := l_.length * 8 ≤ 140737488351232 ∧ ∀ x_ ∈ l_, L95 x_
theorem opens55 : Opens Try.prog 55 (Kd.slice 95 k95) L55 := Opens.slice opens95 (by kernel_rfl) Try.underlying55 (by kernel_rfl)
theorem opens5 : Opens Try.prog 5 (Kd.int .u8) (fun n_ : Int => (Lit.int .u8 n_).wf = true) := Opens.int (by kernel_rfl) Try.underlying5
def PureIs : Prop := ∀ (x0 : (List S95)) (x1 : Int), L55 x0 → (fun n_ : Int => (Lit.int .u8 n_).wf = true) x1 → ∃ k, laws_FnOfKind.f k x0 x1 = some true
end Go.Proofs.Ytlmmjchdfngdgaa.fnOfKindArg
