/- impl.plainConstant and impl.Section, for every script. -/
import Derived.Test.YtlmmjchdfngdgaaGsa
namespace Go.Proofs.Ytlmmjchdfngdgaa.Q
open Go.RowKit Go.Proofs.YtlmmjchdfngdgaaW.PrintWords Go.Proofs.YtlmmjchdfngdgaaW.PrintLast Go.Proofs.YtlmmjchdfngdgaaW.PrintMore
set_option linter.unusedVariables false
set_option linter.unusedSimpArgs false
theorem find58 : Extern.find Try.f58 = some Extern.MathFloatBits.float32bits := by rfl
theorem find59 : Extern.find Try.f59 = some Extern.MathFloatBits.float64bits := by rfl
theorem call58 (n : Nat) (W : World) : (callFunc 58 #[.float .f32 n]).run Try.prog W = .ok (.value (.int .u32 (n : Int))) W := by
  rw [run_callFunc_extern (P := Try.prog) Try.func58 (by kernel_rfl) (by kernel_rfl) (by kernel_rfl) find58]
  rfl
theorem call59 (n : Nat) (W : World) : (callFunc 59 #[.float .f64 n]).run Try.prog W = .ok (.value (.int .u64 (n : Int))) W := by
  rw [run_callFunc_extern (P := Try.prog) Try.func59 (by kernel_rfl) (by kernel_rfl) (by kernel_rfl) find59]
  rfl

set_option maxHeartbeats 8000000 in
set_option maxRecDepth 100000 in
theorem plainC_calls (k b : Int) (s : ByteArray) (w : World) (hk : isC k = true) :
    Calls Try.prog 41 #[constV k b s] w fun e w' => (∃ b' s', e = .returned (.agg #[.int .i64 k, .int .u64 b', .string s']) ∧ cBytes k s' = cBytes k s) ∧ Below w.heap.size w w' := by
  have h58 := call58
  have h59 := call59
  have k1 : 1 ≤ k ∧ k ≤ 11 := of_decide_eq_true hk
  have hk : k = 1 ∨ k = 2 ∨ k = 3 ∨ k = 4 ∨ k = 5 ∨ k = 6 ∨ k = 7 ∨ k = 8 ∨ k = 9 ∨ k = 10 ∨ k = 11 := by omega
  clear k1
  rcases hk with rfl | rfl | rfl | rfl | rfl | rfl | rfl | rfl | rfl | rfl | rfl
  · rw [show constV 1 b s = .iface 106 (.int .i8 (IntKind.i8.wrap b)) from rfl]
    have as106 : ∀ v W, (Instr.typeAssert (.iface 106 v) 64 106 true).run Try.prog W = .ok (.tuple #[v, .bool true]) W := fun v W => by kernel_rfl
    go_enter Try.func41, Try.ntmps41
    go_wp2
    exact bodyPost_ret (v := .agg #[.int .i64 1, .int .u64 (IntKind.i8.wrap b % 256), .string ⟨#[]⟩]) (by simp [results, Try.results41, go_sem]) rfl ⟨⟨_, _, rfl, by unfold cBytes; simp⟩, (Below.refl _ _).alloc (Nat.le_refl _) _⟩
  · rw [show constV 2 b s = .iface 107 (.int .u8 (b % 256)) from rfl]
    have as106 : ∀ v W, (Instr.typeAssert (.iface 107 v) 64 106 true).run Try.prog W = .ok (.tuple #[.int .i8 0, .bool false]) W := fun v W => by kernel_rfl
    have as107 : ∀ v W, (Instr.typeAssert (.iface 107 v) 64 107 true).run Try.prog W = .ok (.tuple #[v, .bool true]) W := fun v W => by kernel_rfl
    go_enter Try.func41, Try.ntmps41
    go_wp2
    exact bodyPost_ret (v := .agg #[.int .i64 2, .int .u64 (b % 256), .string ⟨#[]⟩]) (by simp [results, Try.results41, go_sem]) rfl ⟨⟨_, _, rfl, by unfold cBytes; simp⟩, (Below.refl _ _).alloc (Nat.le_refl _) _⟩
  · rw [show constV 3 b s = .iface 109 (.int .i16 (IntKind.i16.wrap b)) from rfl]
    have as106 : ∀ v W, (Instr.typeAssert (.iface 109 v) 64 106 true).run Try.prog W = .ok (.tuple #[.int .i8 0, .bool false]) W := fun v W => by kernel_rfl
    have as107 : ∀ v W, (Instr.typeAssert (.iface 109 v) 64 107 true).run Try.prog W = .ok (.tuple #[.int .u8 0, .bool false]) W := fun v W => by kernel_rfl
    have as109 : ∀ v W, (Instr.typeAssert (.iface 109 v) 64 109 true).run Try.prog W = .ok (.tuple #[v, .bool true]) W := fun v W => by kernel_rfl
    go_enter Try.func41, Try.ntmps41
    go_wp2
    exact bodyPost_ret (v := .agg #[.int .i64 3, .int .u64 (IntKind.u64.wrap (IntKind.u16.wrap (IntKind.i16.wrap b))), .string ⟨#[]⟩]) (by simp [results, Try.results41, go_sem]) rfl ⟨⟨_, _, rfl, by unfold cBytes; simp⟩, (Below.refl _ _).alloc (Nat.le_refl _) _⟩
  · rw [show constV 4 b s = .iface 110 (.int .u16 (b % 65536)) from rfl]
    have as106 : ∀ v W, (Instr.typeAssert (.iface 110 v) 64 106 true).run Try.prog W = .ok (.tuple #[.int .i8 0, .bool false]) W := fun v W => by kernel_rfl
    have as107 : ∀ v W, (Instr.typeAssert (.iface 110 v) 64 107 true).run Try.prog W = .ok (.tuple #[.int .u8 0, .bool false]) W := fun v W => by kernel_rfl
    have as109 : ∀ v W, (Instr.typeAssert (.iface 110 v) 64 109 true).run Try.prog W = .ok (.tuple #[.int .i16 0, .bool false]) W := fun v W => by kernel_rfl
    have as110 : ∀ v W, (Instr.typeAssert (.iface 110 v) 64 110 true).run Try.prog W = .ok (.tuple #[v, .bool true]) W := fun v W => by kernel_rfl
    go_enter Try.func41, Try.ntmps41
    go_wp2
    exact bodyPost_ret (v := .agg #[.int .i64 4, .int .u64 (b % 65536), .string ⟨#[]⟩]) (by simp [results, Try.results41, go_sem]) rfl ⟨⟨_, _, rfl, by unfold cBytes; simp⟩, (Below.refl _ _).alloc (Nat.le_refl _) _⟩
  · rw [show constV 5 b s = .iface 111 (.int .i32 (wrap32 b)) from rfl]
    have as106 : ∀ v W, (Instr.typeAssert (.iface 111 v) 64 106 true).run Try.prog W = .ok (.tuple #[.int .i8 0, .bool false]) W := fun v W => by kernel_rfl
    have as107 : ∀ v W, (Instr.typeAssert (.iface 111 v) 64 107 true).run Try.prog W = .ok (.tuple #[.int .u8 0, .bool false]) W := fun v W => by kernel_rfl
    have as109 : ∀ v W, (Instr.typeAssert (.iface 111 v) 64 109 true).run Try.prog W = .ok (.tuple #[.int .i16 0, .bool false]) W := fun v W => by kernel_rfl
    have as110 : ∀ v W, (Instr.typeAssert (.iface 111 v) 64 110 true).run Try.prog W = .ok (.tuple #[.int .u16 0, .bool false]) W := fun v W => by kernel_rfl
    have as111 : ∀ v W, (Instr.typeAssert (.iface 111 v) 64 111 true).run Try.prog W = .ok (.tuple #[v, .bool true]) W := fun v W => by kernel_rfl
    go_enter Try.func41, Try.ntmps41
    go_wp2
    exact bodyPost_ret (v := .agg #[.int .i64 5, .int .u64 (wrap32 b % 4294967296), .string ⟨#[]⟩]) (by simp [results, Try.results41, go_sem]) rfl ⟨⟨_, _, rfl, by unfold cBytes; simp⟩, (Below.refl _ _).alloc (Nat.le_refl _) _⟩
  · rw [show constV 6 b s = .iface 112 (.int .u32 (b % 4294967296)) from rfl]
    have as106 : ∀ v W, (Instr.typeAssert (.iface 112 v) 64 106 true).run Try.prog W = .ok (.tuple #[.int .i8 0, .bool false]) W := fun v W => by kernel_rfl
    have as107 : ∀ v W, (Instr.typeAssert (.iface 112 v) 64 107 true).run Try.prog W = .ok (.tuple #[.int .u8 0, .bool false]) W := fun v W => by kernel_rfl
    have as109 : ∀ v W, (Instr.typeAssert (.iface 112 v) 64 109 true).run Try.prog W = .ok (.tuple #[.int .i16 0, .bool false]) W := fun v W => by kernel_rfl
    have as110 : ∀ v W, (Instr.typeAssert (.iface 112 v) 64 110 true).run Try.prog W = .ok (.tuple #[.int .u16 0, .bool false]) W := fun v W => by kernel_rfl
    have as111 : ∀ v W, (Instr.typeAssert (.iface 112 v) 64 111 true).run Try.prog W = .ok (.tuple #[.int .i32 0, .bool false]) W := fun v W => by kernel_rfl
    have as112 : ∀ v W, (Instr.typeAssert (.iface 112 v) 64 112 true).run Try.prog W = .ok (.tuple #[v, .bool true]) W := fun v W => by kernel_rfl
    go_enter Try.func41, Try.ntmps41
    go_wp2
    exact bodyPost_ret (v := .agg #[.int .i64 6, .int .u64 (b % 4294967296), .string ⟨#[]⟩]) (by simp [results, Try.results41, go_sem]) rfl ⟨⟨_, _, rfl, by unfold cBytes; simp⟩, (Below.refl _ _).alloc (Nat.le_refl _) _⟩
  · rw [show constV 7 b s = .iface 113 (.int .i64 (wrap64 b)) from rfl]
    have as106 : ∀ v W, (Instr.typeAssert (.iface 113 v) 64 106 true).run Try.prog W = .ok (.tuple #[.int .i8 0, .bool false]) W := fun v W => by kernel_rfl
    have as107 : ∀ v W, (Instr.typeAssert (.iface 113 v) 64 107 true).run Try.prog W = .ok (.tuple #[.int .u8 0, .bool false]) W := fun v W => by kernel_rfl
    have as109 : ∀ v W, (Instr.typeAssert (.iface 113 v) 64 109 true).run Try.prog W = .ok (.tuple #[.int .i16 0, .bool false]) W := fun v W => by kernel_rfl
    have as110 : ∀ v W, (Instr.typeAssert (.iface 113 v) 64 110 true).run Try.prog W = .ok (.tuple #[.int .u16 0, .bool false]) W := fun v W => by kernel_rfl
    have as111 : ∀ v W, (Instr.typeAssert (.iface 113 v) 64 111 true).run Try.prog W = .ok (.tuple #[.int .i32 0, .bool false]) W := fun v W => by kernel_rfl
    have as112 : ∀ v W, (Instr.typeAssert (.iface 113 v) 64 112 true).run Try.prog W = .ok (.tuple #[.int .u32 0, .bool false]) W := fun v W => by kernel_rfl
    have as113 : ∀ v W, (Instr.typeAssert (.iface 113 v) 64 113 true).run Try.prog W = .ok (.tuple #[v, .bool true]) W := fun v W => by kernel_rfl
    go_enter Try.func41, Try.ntmps41
    go_wp2
    exact bodyPost_ret (v := .agg #[.int .i64 7, .int .u64 (IntKind.u64.wrap (wrap64 b)), .string ⟨#[]⟩]) (by simp [results, Try.results41, go_sem]) rfl ⟨⟨_, _, rfl, by unfold cBytes; simp⟩, (Below.refl _ _).alloc (Nat.le_refl _) _⟩
  · rw [show constV 8 b s = .iface 114 (.int .u64 b) from rfl]
    have as106 : ∀ v W, (Instr.typeAssert (.iface 114 v) 64 106 true).run Try.prog W = .ok (.tuple #[.int .i8 0, .bool false]) W := fun v W => by kernel_rfl
    have as107 : ∀ v W, (Instr.typeAssert (.iface 114 v) 64 107 true).run Try.prog W = .ok (.tuple #[.int .u8 0, .bool false]) W := fun v W => by kernel_rfl
    have as109 : ∀ v W, (Instr.typeAssert (.iface 114 v) 64 109 true).run Try.prog W = .ok (.tuple #[.int .i16 0, .bool false]) W := fun v W => by kernel_rfl
    have as110 : ∀ v W, (Instr.typeAssert (.iface 114 v) 64 110 true).run Try.prog W = .ok (.tuple #[.int .u16 0, .bool false]) W := fun v W => by kernel_rfl
    have as111 : ∀ v W, (Instr.typeAssert (.iface 114 v) 64 111 true).run Try.prog W = .ok (.tuple #[.int .i32 0, .bool false]) W := fun v W => by kernel_rfl
    have as112 : ∀ v W, (Instr.typeAssert (.iface 114 v) 64 112 true).run Try.prog W = .ok (.tuple #[.int .u32 0, .bool false]) W := fun v W => by kernel_rfl
    have as113 : ∀ v W, (Instr.typeAssert (.iface 114 v) 64 113 true).run Try.prog W = .ok (.tuple #[.int .i64 0, .bool false]) W := fun v W => by kernel_rfl
    have as114 : ∀ v W, (Instr.typeAssert (.iface 114 v) 64 114 true).run Try.prog W = .ok (.tuple #[v, .bool true]) W := fun v W => by kernel_rfl
    go_enter Try.func41, Try.ntmps41
    go_wp2
    exact bodyPost_ret (v := .agg #[.int .i64 8, .int .u64 (b), .string ⟨#[]⟩]) (by simp [results, Try.results41, go_sem]) rfl ⟨⟨_, _, rfl, by unfold cBytes; simp⟩, (Below.refl _ _).alloc (Nat.le_refl _) _⟩
  · rw [show constV 9 b s = .iface 116 (.float .f32 (b % 4294967296).toNat) from rfl]
    have as106 : ∀ v W, (Instr.typeAssert (.iface 116 v) 64 106 true).run Try.prog W = .ok (.tuple #[.int .i8 0, .bool false]) W := fun v W => by kernel_rfl
    have as107 : ∀ v W, (Instr.typeAssert (.iface 116 v) 64 107 true).run Try.prog W = .ok (.tuple #[.int .u8 0, .bool false]) W := fun v W => by kernel_rfl
    have as109 : ∀ v W, (Instr.typeAssert (.iface 116 v) 64 109 true).run Try.prog W = .ok (.tuple #[.int .i16 0, .bool false]) W := fun v W => by kernel_rfl
    have as110 : ∀ v W, (Instr.typeAssert (.iface 116 v) 64 110 true).run Try.prog W = .ok (.tuple #[.int .u16 0, .bool false]) W := fun v W => by kernel_rfl
    have as111 : ∀ v W, (Instr.typeAssert (.iface 116 v) 64 111 true).run Try.prog W = .ok (.tuple #[.int .i32 0, .bool false]) W := fun v W => by kernel_rfl
    have as112 : ∀ v W, (Instr.typeAssert (.iface 116 v) 64 112 true).run Try.prog W = .ok (.tuple #[.int .u32 0, .bool false]) W := fun v W => by kernel_rfl
    have as113 : ∀ v W, (Instr.typeAssert (.iface 116 v) 64 113 true).run Try.prog W = .ok (.tuple #[.int .i64 0, .bool false]) W := fun v W => by kernel_rfl
    have as114 : ∀ v W, (Instr.typeAssert (.iface 116 v) 64 114 true).run Try.prog W = .ok (.tuple #[.int .u64 0, .bool false]) W := fun v W => by kernel_rfl
    have as116 : ∀ v W, (Instr.typeAssert (.iface 116 v) 64 116 true).run Try.prog W = .ok (.tuple #[v, .bool true]) W := fun v W => by kernel_rfl
    go_enter Try.func41, Try.ntmps41
    go_wp2
    exact bodyPost_ret (v := .agg #[.int .i64 9, .int .u64 (((b % 4294967296).toNat : Int)), .string ⟨#[]⟩]) (by simp [results, Try.results41, go_sem]) rfl ⟨⟨_, _, rfl, by unfold cBytes; simp⟩, (Below.refl _ _).alloc (Nat.le_refl _) _⟩
  · rw [show constV 10 b s = .iface 119 (.float .f64 b.toNat) from rfl]
    have as106 : ∀ v W, (Instr.typeAssert (.iface 119 v) 64 106 true).run Try.prog W = .ok (.tuple #[.int .i8 0, .bool false]) W := fun v W => by kernel_rfl
    have as107 : ∀ v W, (Instr.typeAssert (.iface 119 v) 64 107 true).run Try.prog W = .ok (.tuple #[.int .u8 0, .bool false]) W := fun v W => by kernel_rfl
    have as109 : ∀ v W, (Instr.typeAssert (.iface 119 v) 64 109 true).run Try.prog W = .ok (.tuple #[.int .i16 0, .bool false]) W := fun v W => by kernel_rfl
    have as110 : ∀ v W, (Instr.typeAssert (.iface 119 v) 64 110 true).run Try.prog W = .ok (.tuple #[.int .u16 0, .bool false]) W := fun v W => by kernel_rfl
    have as111 : ∀ v W, (Instr.typeAssert (.iface 119 v) 64 111 true).run Try.prog W = .ok (.tuple #[.int .i32 0, .bool false]) W := fun v W => by kernel_rfl
    have as112 : ∀ v W, (Instr.typeAssert (.iface 119 v) 64 112 true).run Try.prog W = .ok (.tuple #[.int .u32 0, .bool false]) W := fun v W => by kernel_rfl
    have as113 : ∀ v W, (Instr.typeAssert (.iface 119 v) 64 113 true).run Try.prog W = .ok (.tuple #[.int .i64 0, .bool false]) W := fun v W => by kernel_rfl
    have as114 : ∀ v W, (Instr.typeAssert (.iface 119 v) 64 114 true).run Try.prog W = .ok (.tuple #[.int .u64 0, .bool false]) W := fun v W => by kernel_rfl
    have as116 : ∀ v W, (Instr.typeAssert (.iface 119 v) 64 116 true).run Try.prog W = .ok (.tuple #[.float .f32 0, .bool false]) W := fun v W => by kernel_rfl
    have as119 : ∀ v W, (Instr.typeAssert (.iface 119 v) 64 119 true).run Try.prog W = .ok (.tuple #[v, .bool true]) W := fun v W => by kernel_rfl
    go_enter Try.func41, Try.ntmps41
    go_wp2
    exact bodyPost_ret (v := .agg #[.int .i64 10, .int .u64 ((b.toNat : Int)), .string ⟨#[]⟩]) (by simp [results, Try.results41, go_sem]) rfl ⟨⟨_, _, rfl, by unfold cBytes; simp⟩, (Below.refl _ _).alloc (Nat.le_refl _) _⟩
  · rw [show constV 11 b s = .iface 121 (.string s) from rfl]
    have as106 : ∀ v W, (Instr.typeAssert (.iface 121 v) 64 106 true).run Try.prog W = .ok (.tuple #[.int .i8 0, .bool false]) W := fun v W => by kernel_rfl
    have as107 : ∀ v W, (Instr.typeAssert (.iface 121 v) 64 107 true).run Try.prog W = .ok (.tuple #[.int .u8 0, .bool false]) W := fun v W => by kernel_rfl
    have as109 : ∀ v W, (Instr.typeAssert (.iface 121 v) 64 109 true).run Try.prog W = .ok (.tuple #[.int .i16 0, .bool false]) W := fun v W => by kernel_rfl
    have as110 : ∀ v W, (Instr.typeAssert (.iface 121 v) 64 110 true).run Try.prog W = .ok (.tuple #[.int .u16 0, .bool false]) W := fun v W => by kernel_rfl
    have as111 : ∀ v W, (Instr.typeAssert (.iface 121 v) 64 111 true).run Try.prog W = .ok (.tuple #[.int .i32 0, .bool false]) W := fun v W => by kernel_rfl
    have as112 : ∀ v W, (Instr.typeAssert (.iface 121 v) 64 112 true).run Try.prog W = .ok (.tuple #[.int .u32 0, .bool false]) W := fun v W => by kernel_rfl
    have as113 : ∀ v W, (Instr.typeAssert (.iface 121 v) 64 113 true).run Try.prog W = .ok (.tuple #[.int .i64 0, .bool false]) W := fun v W => by kernel_rfl
    have as114 : ∀ v W, (Instr.typeAssert (.iface 121 v) 64 114 true).run Try.prog W = .ok (.tuple #[.int .u64 0, .bool false]) W := fun v W => by kernel_rfl
    have as116 : ∀ v W, (Instr.typeAssert (.iface 121 v) 64 116 true).run Try.prog W = .ok (.tuple #[.float .f32 0, .bool false]) W := fun v W => by kernel_rfl
    have as119 : ∀ v W, (Instr.typeAssert (.iface 121 v) 64 119 true).run Try.prog W = .ok (.tuple #[.float .f64 0, .bool false]) W := fun v W => by kernel_rfl
    have as121 : ∀ v W, (Instr.typeAssert (.iface 121 v) 64 121 true).run Try.prog W = .ok (.tuple #[v, .bool true]) W := fun v W => by kernel_rfl
    go_enter Try.func41, Try.ntmps41
    go_wp2
    exact bodyPost_ret (v := .agg #[.int .i64 11, .int .u64 (0), .string s]) (by simp [results, Try.results41, go_sem]) rfl ⟨⟨_, _, rfl, by unfold cBytes; simp⟩, (Below.refl _ _).alloc (Nat.le_refl _) _⟩
end Go.Proofs.Ytlmmjchdfngdgaa.Q
