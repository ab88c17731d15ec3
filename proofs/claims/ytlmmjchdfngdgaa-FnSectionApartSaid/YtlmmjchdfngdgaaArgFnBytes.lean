/- The openers of the arguments of the law FnBytes, and its pure statement. -/
import Derived.Test.YtlmmjchdfngdgaaQ3
import Derived.Test.YtlmmjchdfngdgaaOpen
namespace Go.Proofs.Ytlmmjchdfngdgaa.fnBytesArg
open Go.RowKit Go.Proofs.YtlmmjchdfngdgaaW.PrintWords Go.Proofs.YtlmmjchdfngdgaaW.PrintLast Go.Proofs.Ytlmmjchdfngdgaa.Open Go.Proofs.Ytlmmjchdfngdgaa.Q
set_option maxRecDepth 100000
theorem opens3 : Opens Try.prog 3 (Kd.int .i64) (fun n_ : Int => (Lit.int .i64 n_).wf = true) := Opens.int (by kernel_rfl) Try.underlying3
theorem opens29 : Opens Try.prog 29 (Kd.int .u64) (fun n_ : Int => (Lit.int .u64 n_).wf = true) := Opens.int (by kernel_rfl) Try.underlying29
theorem opens9 : Opens Try.prog 9 Kd.string (fun s_ : ByteArray => s_.size ≤ 140737488351232) := Opens.string (by kernel_rfl) Try.underlying9
def L31 (x_ : S31) : Prop := (fun n_ : Int => (Lit.int .i64 n_).wf = true) x_.f0 ∧ (fun n_ : Int => (Lit.int .u64 n_).wf = true) x_.f1 ∧ (fun s_ : ByteArray => s_.size ≤ 140737488351232) x_.f2
theorem opens31 : Opens Try.prog 31 k31 L31 := Opens.struct Try.underlying31 (by kernel_rfl) (OpensAll.cons opens3 rfl (OpensAll.cons opens29 rfl (OpensAll.one opens9 rfl))) _ (fun a_ => ⟨a_.1, a_.2.1, a_.2.2⟩) (fun _ => rfl)
def PureIs : Prop := ∀ (x0 : S31), L31 x0 → ∃ k, laws_FnBytes.f k x0.f0 x0.f1 x0.f2 = some true
end Go.Proofs.Ytlmmjchdfngdgaa.fnBytesArg
