/-
  No cell of these rows narrows 'for every input' (looked for: loops, veiled, ifaces, maps, wideKeys, modest, calm, conditions, laid).
  DERIVED. THE GIVEN ROWS OF THIS SEAT. 6 by the template 'for every input the law returns true; each argument reads behind the call as it read before'; 0 by the template 'total and deterministic' (their statements: YtlmmjchdfngdgaaTotals.lean).
  GIVEN WITH THE SEED: the statements are not yours to turn. If you find one false, say at which input.
  Laid BY PROGRAM, IN A SANDBOX (cutbox-rows.mjs): the forced cells as the released guide's own fill.sh prints them over the translation fdfe06b006a989d3… (all of the seat's roots in one cut). By AI agents, Wed Nov 11 2026. No macro, syntax, notation, axiom, sorry.
-/
import Derived.Test.YtlmmjchdfngdgaaChecked
import GoSem.Claim
import GoSem.ClaimJoined
import GoSem.ClaimMapViews
import Derived.JoinedTies
import Derived.KernelRfl
namespace Go.Proofs.Ytlmmjchdfngdgaa
/- THE CELL 'sum', in the pinned program and in every row, IS THE sha256 OF THE DUMP (.gsa) THAT YtlmmjchdfngdgaaProg.lean LOADS. Nothing in Lean hashes anything: it is a label: what it is worth is what the hold of that sum in a sandbox is worth. -/
noncomputable def Try.pinned : Pinned := { name := "ytlmmjchdfngdgaa", sum := "fdfe06b006a989d31181b4e0d3fe6c9a7548ab4b9bf57eb453eb28a90300196c", checked := Try.checked }
namespace Rows
def none {H : Type} : Left H := { results := [], args := [] }

/-- 'laws.FnSpecs': WHATEVER THE INPUT: true; the input reads as it did. -/
def fnSpecsSpec : ChangeSpec := { name := "fnSpecs", fn := fun _ => fun
  | [d] => { results := [.lit (.bool true)], args := [d] }
  | _ => none }
def fnSpecsRow : OpenClaim := { program := "ytlmmjchdfngdgaa", sum := "fdfe06b006a989d31181b4e0d3fe6c9a7548ab4b9bf57eb453eb28a90300196c", func := "pub-berthage/laws.FnSpecs", spec := "fnSpecs", apart := false }
def FnSpecsSaid : Prop := fnSpecsRow.holds Try.pinned (OpenSpec.ofChange fnSpecsSpec)

/-- ITS FALSE NEIGHBOUR: 'it returns false'. Refute it at one input. -/
def fnSpecsWrong : ChangeSpec := { name := "fnSpecs", fn := fun _ => fun
  | [d] => { results := [.lit (.bool false)], args := [d] }
  | _ => none }
def FnSpecsWrongFalsely : Prop := fnSpecsRow.holds Try.pinned (OpenSpec.ofChange fnSpecsWrong)

/-- 'laws.FnBytes': WHATEVER THE INPUT: true; the input reads as it did. -/
def fnBytesSpec : ChangeSpec := { name := "fnBytes", fn := fun _ => fun
  | [d] => { results := [.lit (.bool true)], args := [d] }
  | _ => none }
def fnBytesRow : OpenClaim := { program := "ytlmmjchdfngdgaa", sum := "fdfe06b006a989d31181b4e0d3fe6c9a7548ab4b9bf57eb453eb28a90300196c", func := "pub-berthage/laws.FnBytes", spec := "fnBytes", inPlace := ["math.Float32frombits", "math.Float64frombits"], unfollowed := true, recurses := true, apart := false }
def FnBytesSaid : Prop := fnBytesRow.holds Try.pinned (OpenSpec.ofChange fnBytesSpec)

/-- ITS FALSE NEIGHBOUR: 'it returns false'. Refute it at one input. -/
def fnBytesWrong : ChangeSpec := { name := "fnBytes", fn := fun _ => fun
  | [d] => { results := [.lit (.bool false)], args := [d] }
  | _ => none }
def FnBytesWrongFalsely : Prop := fnBytesRow.holds Try.pinned (OpenSpec.ofChange fnBytesWrong)

/-- 'laws.FnOverlaps': WHATEVER THE INPUT: true; the input reads as it did. -/
def fnOverlapsSpec : ChangeSpec := { name := "fnOverlaps", fn := fun _ => fun
  | [d1, d2] => { results := [.lit (.bool true)], args := [d1, d2] }
  | _ => none }
def fnOverlapsRow : OpenClaim := { program := "ytlmmjchdfngdgaa", sum := "fdfe06b006a989d31181b4e0d3fe6c9a7548ab4b9bf57eb453eb28a90300196c", func := "pub-berthage/laws.FnOverlaps", spec := "fnOverlaps", inPlace := ["math.Float32frombits", "math.Float64frombits"], unfollowed := true, recurses := true, apart := false }
def FnOverlapsSaid : Prop := fnOverlapsRow.holds Try.pinned (OpenSpec.ofChange fnOverlapsSpec)

/-- ITS FALSE NEIGHBOUR: 'it returns false'. Refute it at one input. -/
def fnOverlapsWrong : ChangeSpec := { name := "fnOverlaps", fn := fun _ => fun
  | [d1, d2] => { results := [.lit (.bool false)], args := [d1, d2] }
  | _ => none }
def FnOverlapsWrongFalsely : Prop := fnOverlapsRow.holds Try.pinned (OpenSpec.ofChange fnOverlapsWrong)

/-- 'laws.FnSectionApart': WHATEVER THE INPUT: true; the input reads as it did. -/
def fnSectionApartSpec : ChangeSpec := { name := "fnSectionApart", fn := fun _ => fun
  | [d] => { results := [.lit (.bool true)], args := [d] }
  | _ => none }
def fnSectionApartRow : OpenClaim := { program := "ytlmmjchdfngdgaa", sum := "fdfe06b006a989d31181b4e0d3fe6c9a7548ab4b9bf57eb453eb28a90300196c", func := "pub-berthage/laws.FnSectionApart", spec := "fnSectionApart", inPlace := ["math.Float32frombits", "math.Float64frombits", "math.Float32bits", "math.Float64bits"], unfollowed := true, recurses := true, apart := false }
def FnSectionApartSaid : Prop := fnSectionApartRow.holds Try.pinned (OpenSpec.ofChange fnSectionApartSpec)

/-- ITS FALSE NEIGHBOUR: 'it returns false'. Refute it at one input. -/
def fnSectionApartWrong : ChangeSpec := { name := "fnSectionApart", fn := fun _ => fun
  | [d] => { results := [.lit (.bool false)], args := [d] }
  | _ => none }
def FnSectionApartWrongFalsely : Prop := fnSectionApartRow.holds Try.pinned (OpenSpec.ofChange fnSectionApartWrong)

/-- 'laws.FnMerge': WHATEVER THE INPUT: true; the input reads as it did. -/
def fnMergeSpec : ChangeSpec := { name := "fnMerge", fn := fun _ => fun
  | [d1, d2] => { results := [.lit (.bool true)], args := [d1, d2] }
  | _ => none }
def fnMergeRow : OpenClaim := { program := "ytlmmjchdfngdgaa", sum := "fdfe06b006a989d31181b4e0d3fe6c9a7548ab4b9bf57eb453eb28a90300196c", func := "pub-berthage/laws.FnMerge", spec := "fnMerge", inPlace := ["internal/reflectlite.ValueOf", "internal/reflectlite.Swapper", "(internal/reflectlite.Value).Len"], unfollowed := true, recurses := true, apart := false }
def FnMergeSaid : Prop := fnMergeRow.holds Try.pinned (OpenSpec.ofChange fnMergeSpec)

/-- ITS FALSE NEIGHBOUR: 'it returns false'. Refute it at one input. -/
def fnMergeWrong : ChangeSpec := { name := "fnMerge", fn := fun _ => fun
  | [d1, d2] => { results := [.lit (.bool false)], args := [d1, d2] }
  | _ => none }
def FnMergeWrongFalsely : Prop := fnMergeRow.holds Try.pinned (OpenSpec.ofChange fnMergeWrong)

/-- 'laws.FnOfKind': WHATEVER THE INPUT: true; the input reads as it did. -/
def fnOfKindSpec : ChangeSpec := { name := "fnOfKind", fn := fun _ => fun
  | [d1, d2] => { results := [.lit (.bool true)], args := [d1, d2] }
  | _ => none }
def fnOfKindRow : OpenClaim := { program := "ytlmmjchdfngdgaa", sum := "fdfe06b006a989d31181b4e0d3fe6c9a7548ab4b9bf57eb453eb28a90300196c", func := "pub-berthage/laws.FnOfKind", spec := "fnOfKind", inPlace := ["internal/reflectlite.ValueOf", "internal/reflectlite.Swapper", "(internal/reflectlite.Value).Len"], unfollowed := true, recurses := true, apart := false }
def FnOfKindSaid : Prop := fnOfKindRow.holds Try.pinned (OpenSpec.ofChange fnOfKindSpec)

/-- ITS FALSE NEIGHBOUR: 'it returns false'. Refute it at one input. -/
def fnOfKindWrong : ChangeSpec := { name := "fnOfKind", fn := fun _ => fun
  | [d1, d2] => { results := [.lit (.bool false)], args := [d1, d2] }
  | _ => none }
def FnOfKindWrongFalsely : Prop := fnOfKindRow.holds Try.pinned (OpenSpec.ofChange fnOfKindWrong)

/- THE SECOND FORM. 'bulk': how many values and letters a reading holds, each counted each time it is reached (what is shared counts as often as it is met; a slice's spare places count too). A statement '..UptoSaid' is the law's where the arguments, and the package variables that the reading takes, are together of bulk at most 1048576: NARROWER than '..Said'. Prove '..Said' where nothing that the law and all that it calls make is longer than what came in: it says more and counts as full. Else prove '..UptoSaid'. A law counts once. -/
mutual
def uptoBulk {H : Type} : DataW H → Nat
  | .lit (.string bytes) => bytes.length + 1
  | .lit _ => 1
  | .nil => 1
  | .ptr d => uptoBulk d + 1
  | .slice elems spare => uptoBulkAll elems + uptoBulkAll spare + 1
  | .agg parts => uptoBulkAll parts + 1
  | .iface _ d => uptoBulk d + 1
  | .map entries => uptoBulkEntries entries + 1
  | .held _ => 1
def uptoBulkAll {H : Type} : List (DataW H) → Nat
  | [] => 0
  | d :: r => uptoBulk d + uptoBulkAll r
def uptoBulkEntries {H : Type} : List (Lit × DataW H) → Nat
  | [] => 0
  | x :: r => uptoBulkEntry x + uptoBulkEntries r
def uptoBulkEntry {H : Type} : Lit × DataW H → Nat
  | (.string bytes, d) => bytes.length + uptoBulk d + 1
  | (_, d) => uptoBulk d + 1
 end
def uptoSmall : (H : Type) → List (DataW H) → Bool := fun _ ds => decide (uptoBulkAll ds ≤ 1048576)
def OpenSpec.upto (s : _root_.Go.ChangeSpec) : _root_.Go.OpenSpec := { _root_.Go.OpenSpec.ofChange s with cond := some uptoSmall }

/-- 'laws.FnSpecs', WHERE WHAT IT READS IS OF BULK AT MOST 1048576: true; the input reads as it did. -/
def fnSpecsUptoRow : OpenClaim := { program := "ytlmmjchdfngdgaa", sum := "fdfe06b006a989d31181b4e0d3fe6c9a7548ab4b9bf57eb453eb28a90300196c", func := "pub-berthage/laws.FnSpecs", spec := "fnSpecs", apart := false, narrowed := true }
def FnSpecsUptoSaid : Prop := fnSpecsUptoRow.holds Try.pinned (OpenSpec.upto fnSpecsSpec)

/-- 'laws.FnBytes', WHERE WHAT IT READS IS OF BULK AT MOST 1048576: true; the input reads as it did. -/
def fnBytesUptoRow : OpenClaim := { program := "ytlmmjchdfngdgaa", sum := "fdfe06b006a989d31181b4e0d3fe6c9a7548ab4b9bf57eb453eb28a90300196c", func := "pub-berthage/laws.FnBytes", spec := "fnBytes", inPlace := ["math.Float32frombits", "math.Float64frombits"], unfollowed := true, recurses := true, apart := false, narrowed := true }
def FnBytesUptoSaid : Prop := fnBytesUptoRow.holds Try.pinned (OpenSpec.upto fnBytesSpec)

/-- 'laws.FnOverlaps', WHERE WHAT IT READS IS OF BULK AT MOST 1048576: true; the input reads as it did. -/
def fnOverlapsUptoRow : OpenClaim := { program := "ytlmmjchdfngdgaa", sum := "fdfe06b006a989d31181b4e0d3fe6c9a7548ab4b9bf57eb453eb28a90300196c", func := "pub-berthage/laws.FnOverlaps", spec := "fnOverlaps", inPlace := ["math.Float32frombits", "math.Float64frombits"], unfollowed := true, recurses := true, apart := false, narrowed := true }
def FnOverlapsUptoSaid : Prop := fnOverlapsUptoRow.holds Try.pinned (OpenSpec.upto fnOverlapsSpec)

/-- 'laws.FnSectionApart', WHERE WHAT IT READS IS OF BULK AT MOST 1048576: true; the input reads as it did. -/
def fnSectionApartUptoRow : OpenClaim := { program := "ytlmmjchdfngdgaa", sum := "fdfe06b006a989d31181b4e0d3fe6c9a7548ab4b9bf57eb453eb28a90300196c", func := "pub-berthage/laws.FnSectionApart", spec := "fnSectionApart", inPlace := ["math.Float32frombits", "math.Float64frombits", "math.Float32bits", "math.Float64bits"], unfollowed := true, recurses := true, apart := false, narrowed := true }
def FnSectionApartUptoSaid : Prop := fnSectionApartUptoRow.holds Try.pinned (OpenSpec.upto fnSectionApartSpec)

/-- 'laws.FnMerge', WHERE WHAT IT READS IS OF BULK AT MOST 1048576: true; the input reads as it did. -/
def fnMergeUptoRow : OpenClaim := { program := "ytlmmjchdfngdgaa", sum := "fdfe06b006a989d31181b4e0d3fe6c9a7548ab4b9bf57eb453eb28a90300196c", func := "pub-berthage/laws.FnMerge", spec := "fnMerge", inPlace := ["internal/reflectlite.ValueOf", "internal/reflectlite.Swapper", "(internal/reflectlite.Value).Len"], unfollowed := true, recurses := true, apart := false, narrowed := true }
def FnMergeUptoSaid : Prop := fnMergeUptoRow.holds Try.pinned (OpenSpec.upto fnMergeSpec)

/-- 'laws.FnOfKind', WHERE WHAT IT READS IS OF BULK AT MOST 1048576: true; the input reads as it did. -/
def fnOfKindUptoRow : OpenClaim := { program := "ytlmmjchdfngdgaa", sum := "fdfe06b006a989d31181b4e0d3fe6c9a7548ab4b9bf57eb453eb28a90300196c", func := "pub-berthage/laws.FnOfKind", spec := "fnOfKind", inPlace := ["internal/reflectlite.ValueOf", "internal/reflectlite.Swapper", "(internal/reflectlite.Value).Len"], unfollowed := true, recurses := true, apart := false, narrowed := true }
def FnOfKindUptoSaid : Prop := fnOfKindUptoRow.holds Try.pinned (OpenSpec.upto fnOfKindSpec)

end Rows
end Go.Proofs.Ytlmmjchdfngdgaa
