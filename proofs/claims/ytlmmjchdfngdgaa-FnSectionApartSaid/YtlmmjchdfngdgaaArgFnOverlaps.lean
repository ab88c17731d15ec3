/- The openers of the arguments of the law FnOverlaps, and its pure statement. -/
import Derived.Test.YtlmmjchdfngdgaaQ5
import Derived.Test.YtlmmjchdfngdgaaOpen
namespace Go.Proofs.Ytlmmjchdfngdgaa.fnOverlapsArg
open Go.RowKit Go.Proofs.YtlmmjchdfngdgaaW.PrintWords Go.Proofs.YtlmmjchdfngdgaaW.PrintLast Go.Proofs.Ytlmmjchdfngdgaa.Open Go.Proofs.Ytlmmjchdfngdgaa.Q
set_option maxRecDepth 100000
theorem opens3 : Opens Try.prog 3 (Kd.int .i64) (fun n_ : Int => (Lit.int .i64 n_).wf = true) := Opens.int (by kernel_rfl) Try.underlying3
theorem opens29 : Opens Try.prog 29 (Kd.int .u64) (fun n_ : Int => (Lit.int .u64 n_).wf = true) := Opens.int (by kernel_rfl) Try.underlying29
theorem opens9 : Opens Try.prog 9 Kd.string (fun s_ : ByteArray => s_.size ≤ 140737488351232) := Opens.string (by kernel_rfl) Try.underlying9
def L31 (x_ : S31) : Prop := (fun n_ : Int => (Lit.int .i64 n_).wf = true) x_.f0 ∧ (fun n_ : Int => (Lit.int .u64 n_).wf = true) x_.f1 ∧ (fun s_ : ByteArray => s_.size ≤ 140737488351232) x_.f2
theorem opens31 : Opens Try.prog 31 k31 L31 := Opens.struct Try.underlying31 (by kernel_rfl) (OpensAll.cons opens3 rfl (OpensAll.cons opens29 rfl (OpensAll.one opens9 rfl))) _ (fun a_ => ⟨a_.1, a_.2.1, a_.2.2⟩) (fun _ => rfl)
def L35 (x_ : S35) : Prop := (fun n_ : Int => (Lit.int .i64 n_).wf = true) x_.f0 ∧ L31 x_.f1
theorem opens35 : Opens Try.prog 35 k35 L35 := Opens.struct Try.underlying35 (by kernel_rfl) (OpensAll.cons opens3 rfl (OpensAll.one opens31 rfl)) _ (fun a_ => ⟨a_.1, a_.2⟩) (fun _ => rfl)
def PureIs : Prop := ∀ (x0 : S35) (x1 : S35), L35 x0 → L35 x1 → ∃ k, laws_FnOverlaps.f k x0.f0 x0.f1.f0 x0.f1.f1 x0.f1.f2 x1.f0 x1.f1.f0 x1.f1.f1 x1.f1.f2 = some true
end Go.Proofs.Ytlmmjchdfngdgaa.fnOverlapsArg
