/- Contracts of the thin package over constants and data: Bytes, Interval, Overlaps, each for every argument. -/
import Derived.Test.YtlmmjchdfngdgaaQ0
import Derived.WalkLawsBesides
namespace Go.Proofs.Ytlmmjchdfngdgaa.Q
open Go.RowKit Go.Proofs.YtlmmjchdfngdgaaW.PrintWords Go.Proofs.YtlmmjchdfngdgaaW.PrintLast Go.Proofs.YtlmmjchdfngdgaaW.PrintMore

set_option linter.unusedVariables false
theorem find52 : Extern.find Try.f52 = some Extern.MathFloatBits.float32frombits := by rfl
theorem find53 : Extern.find Try.f53 = some Extern.MathFloatBits.float64frombits := by rfl
theorem call52 (n : Int) (W : World) : (callFunc 52 #[.int .u32 n]).run Try.prog W = .ok (.value (.float .f32 n.toNat)) W := by
  rw [run_callFunc_extern (P := Try.prog) Try.func52 (by kernel_rfl) (by kernel_rfl) (by kernel_rfl) find52]
  rfl
theorem call53 (n : Int) (W : World) : (callFunc 53 #[.int .u64 n]).run Try.prog W = .ok (.value (.float .f64 n.toNat)) W := by
  rw [run_callFunc_extern (P := Try.prog) Try.func53 (by kernel_rfl) (by kernel_rfl) (by kernel_rfl) find53]
  rfl

/-- The constant that the plain data make. -/
def constV (k b : Int) (s : ByteArray) : Value :=
  if k = 1 then .iface 106 (.int .i8 (IntKind.i8.wrap b)) else if k = 2 then .iface 107 (.int .u8 (b % 256)) else
  if k = 3 then .iface 109 (.int .i16 (IntKind.i16.wrap b)) else if k = 4 then .iface 110 (.int .u16 (IntKind.u16.wrap b)) else
  if k = 5 then .iface 111 (.int .i32 (wrap32 b)) else if k = 6 then .iface 112 (.int .u32 (b % 4294967296)) else
  if k = 7 then .iface 113 (.int .i64 (wrap64 b)) else if k = 8 then .iface 114 (.int .u64 b) else
  if k = 9 then .iface 116 (.float .f32 (b % 4294967296).toNat) else if k = 10 then .iface 119 (.float .f64 b.toNat) else
  if k = 11 then .iface 121 (.string s) else .nilIface
def isC (k : Int) : Bool := decide (1 ≤ k ∧ k ≤ 11)

set_option maxHeartbeats 4000000 in
set_option maxRecDepth 100000 in
theorem constant_calls (k b : Int) (s : ByteArray) (w : World) :
    Calls Try.prog 31 #[.agg #[.int .i64 k, .int .u64 b, .string s]] w fun e w' => e = .returned (.tuple #[constV k b s, .bool (isC k)]) ∧ Below w.heap.size w w' := by
  by_cases h : k < 1 ∨ 11 < k
  · have e1 : constV k b s = .nilIface := by unfold constV; repeat rw [if_neg (by omega)]
    have e2 : isC k = false := by unfold isC; exact decide_eq_false (by omega)
    rw [e1, e2]
    clear e1 e2
    go_enter Try.func31, Try.ntmps31
    go_wp2
    go_ret2
    exact ⟨rfl, (Below.refl _ _).alloc (Nat.le_refl _) _⟩
  have h52 := call52
  have h53 := call53
  have hk : k = 1 ∨ k = 2 ∨ k = 3 ∨ k = 4 ∨ k = 5 ∨ k = 6 ∨ k = 7 ∨ k = 8 ∨ k = 9 ∨ k = 10 ∨ k = 11 := by omega
  clear h
  rcases hk with rfl | rfl | rfl | rfl | rfl | rfl | rfl | rfl | rfl | rfl | rfl
  all_goals
    (go_enter Try.func31, Try.ntmps31
     go_wp2
     go_ret2
     exact ⟨rfl, (Below.refl _ _).alloc (Nat.le_refl _) _⟩)
def cBytes (k : Int) (s : ByteArray) : Int := if k = 1 then 1 else if k = 2 then 1 else if k = 3 then 2 else if k = 4 then 2 else if k = 5 then 4 else if k = 6 then 4 else
  if k = 7 then 8 else if k = 8 then 8 else if k = 9 then 4 else if k = 10 then 8 else if k = 11 then s.size else -1

theorem m106 (x : Value) (W : World) : (method 289 106 x "Bytes").run Try.prog W = .ok (118, x) W := by kernel_rfl
theorem m107 (x : Value) (W : World) : (method 289 107 x "Bytes").run Try.prog W = .ok (121, x) W := by kernel_rfl
theorem m109 (x : Value) (W : World) : (method 289 109 x "Bytes").run Try.prog W = .ok (124, x) W := by kernel_rfl
theorem m110 (x : Value) (W : World) : (method 289 110 x "Bytes").run Try.prog W = .ok (127, x) W := by kernel_rfl
theorem m111 (x : Value) (W : World) : (method 289 111 x "Bytes").run Try.prog W = .ok (130, x) W := by kernel_rfl
theorem m112 (x : Value) (W : World) : (method 289 112 x "Bytes").run Try.prog W = .ok (133, x) W := by kernel_rfl
theorem m113 (x : Value) (W : World) : (method 289 113 x "Bytes").run Try.prog W = .ok (136, x) W := by kernel_rfl
theorem m114 (x : Value) (W : World) : (method 289 114 x "Bytes").run Try.prog W = .ok (139, x) W := by kernel_rfl
theorem m116 (x : Value) (W : World) : (method 289 116 x "Bytes").run Try.prog W = .ok (142, x) W := by kernel_rfl
theorem m119 (x : Value) (W : World) : (method 289 119 x "Bytes").run Try.prog W = .ok (145, x) W := by kernel_rfl
theorem m121 (x : Value) (W : World) : (method 289 121 x "Bytes").run Try.prog W = .ok (148, x) W := by kernel_rfl


/-- A value of an interface type whose dynamic type has a method Bytes that tells n. -/
def HasBytes (v : Value) (n : Int) : Prop :=
  ∃ (T : TypeId) (x : Value) (f : FuncId), v = .iface T x ∧ (∀ W, (method 289 T x "Bytes").run Try.prog W = .ok (f, x) W) ∧
    (∀ W, (callFunc f #[x]).run Try.prog W = .ok (.enter f #[x]) W) ∧ ∀ W, Calls Try.prog f #[x] W fun e w' => e = .returned (.int .i64 n) ∧ W = w'
theorem enter_of {f : FuncId} {fn : Func} (hf : Try.prog.funcs[f]? = some fn) (hb : fn.body.isSome = true) (hn : (fn.name == "runtime.NumGoroutine") = false) (x : Value) (W : World) : (callFunc f #[x]).run Try.prog W = .ok (.enter f #[x]) W := by
  have h1 : fn.name ≠ "runtime.NumGoroutine" := by simpa using hn
  have h2 : fn.body ≠ none := by
    intro h
    rw [h] at hb
    cases hb
  simp [callFunc, hf, h1, h2]
set_option maxHeartbeats 4000000 in
set_option maxRecDepth 100000 in
theorem hasBytes {k : Int} (h1 : 1 ≤ k) (h2 : k ≤ 11) (b : Int) (s : ByteArray) : HasBytes (constV k b s) (cBytes k s) := by
  have hk : k = 1 ∨ k = 2 ∨ k = 3 ∨ k = 4 ∨ k = 5 ∨ k = 6 ∨ k = 7 ∨ k = 8 ∨ k = 9 ∨ k = 10 ∨ k = 11 := by omega
  clear h1 h2
  rcases hk with rfl | rfl | rfl | rfl | rfl | rfl | rfl | rfl | rfl | rfl | rfl
  · refine ⟨106, _, 118, rfl, m106 _, enter_of Try.func118 (by kernel_rfl) (by kernel_rfl) _, fun W => ?_⟩
    go_enter Try.func118, Try.ntmps118
    go_wp2
    go_ret
    exact ⟨rfl, rfl⟩
  · refine ⟨107, _, 121, rfl, m107 _, enter_of Try.func121 (by kernel_rfl) (by kernel_rfl) _, fun W => ?_⟩
    go_enter Try.func121, Try.ntmps121
    go_wp2
    go_ret
    exact ⟨rfl, rfl⟩
  · refine ⟨109, _, 124, rfl, m109 _, enter_of Try.func124 (by kernel_rfl) (by kernel_rfl) _, fun W => ?_⟩
    go_enter Try.func124, Try.ntmps124
    go_wp2
    go_ret
    exact ⟨rfl, rfl⟩
  · refine ⟨110, _, 127, rfl, m110 _, enter_of Try.func127 (by kernel_rfl) (by kernel_rfl) _, fun W => ?_⟩
    go_enter Try.func127, Try.ntmps127
    go_wp2
    go_ret
    exact ⟨rfl, rfl⟩
  · refine ⟨111, _, 130, rfl, m111 _, enter_of Try.func130 (by kernel_rfl) (by kernel_rfl) _, fun W => ?_⟩
    go_enter Try.func130, Try.ntmps130
    go_wp2
    go_ret
    exact ⟨rfl, rfl⟩
  · refine ⟨112, _, 133, rfl, m112 _, enter_of Try.func133 (by kernel_rfl) (by kernel_rfl) _, fun W => ?_⟩
    go_enter Try.func133, Try.ntmps133
    go_wp2
    go_ret
    exact ⟨rfl, rfl⟩
  · refine ⟨113, _, 136, rfl, m113 _, enter_of Try.func136 (by kernel_rfl) (by kernel_rfl) _, fun W => ?_⟩
    go_enter Try.func136, Try.ntmps136
    go_wp2
    go_ret
    exact ⟨rfl, rfl⟩
  · refine ⟨114, _, 139, rfl, m114 _, enter_of Try.func139 (by kernel_rfl) (by kernel_rfl) _, fun W => ?_⟩
    go_enter Try.func139, Try.ntmps139
    go_wp2
    go_ret
    exact ⟨rfl, rfl⟩
  · refine ⟨116, _, 142, rfl, m116 _, enter_of Try.func142 (by kernel_rfl) (by kernel_rfl) _, fun W => ?_⟩
    go_enter Try.func142, Try.ntmps142
    go_wp2
    go_ret
    exact ⟨rfl, rfl⟩
  · refine ⟨119, _, 145, rfl, m119 _, enter_of Try.func145 (by kernel_rfl) (by kernel_rfl) _, fun W => ?_⟩
    go_enter Try.func145, Try.ntmps145
    go_wp2
    go_ret
    exact ⟨rfl, rfl⟩
  · refine ⟨121, _, 148, rfl, m121 _, enter_of Try.func148 (by kernel_rfl) (by kernel_rfl) _, fun W => ?_⟩
    go_enter Try.func148, Try.ntmps148
    go_wp2
    go_ret
    exact ⟨rfl, rfl⟩

theorem isC_no {k : Int} (h : k < 1 ∨ 11 < k) : isC k = false := by unfold isC; exact decide_eq_false (by omega)
theorem isC_yes {k : Int} (h1 : 1 ≤ k) (h2 : k ≤ 11) : isC k = true := by unfold isC; exact decide_eq_true ⟨h1, h2⟩
theorem constV_no {k b : Int} {s : ByteArray} (h : k < 1 ∨ 11 < k) : constV k b s = .nilIface := by unfold constV; repeat rw [if_neg (by omega)]
theorem cBytes_no {k : Int} {s : ByteArray} (h : k < 1 ∨ 11 < k) : cBytes k s = -1 := by unfold cBytes; repeat rw [if_neg (by omega)]

def impl_Bytes.f (a0_0 : Int) (a0_1 : Int) (a0_2 : ByteArray) : Option Int := some (cBytes a0_0 a0_2)

set_option maxHeartbeats 4000000 in
set_option maxRecDepth 100000 in
theorem impl_Bytes.calls (a0_0 a0_1 : Int) (a0_2 : ByteArray) (r : Int) (w : World) (h : impl_Bytes.f a0_0 a0_1 a0_2 = some r) :
    Calls Try.prog 14 #[.agg #[.int .i64 a0_0, .int .u64 a0_1, .string a0_2]] w fun e w' => e = .returned (.int .i64 r) ∧ Below w.heap.size w w' := by
  obtain rfl := Option.some.inj h
  clear h
  by_cases h : a0_0 < 1 ∨ 11 < a0_0
  · rw [cBytes_no h]
    go_enter Try.func14, Try.ntmps14
    go_wp2_with (first | (go_at_call 31; ((with_reducible refine (constant_calls _ _ _ _).mono ?_); rintro e w1 ⟨rfl, hb⟩; rw [isC_no h, constV_no h])))
    go_ret
    exact ⟨rfl, below_step ((Below.refl _ _).alloc (Nat.le_refl _) _) hb⟩
  have h1 : 1 ≤ a0_0 := by omega
  have h2 : a0_0 ≤ 11 := by omega
  clear h
  have HB := Aside0.mk (hasBytes h1 h2 a0_1 a0_2)
  have HC := Aside0.mk (isC_yes h1 h2)
  clear h1 h2
  go_enter Try.func14, Try.ntmps14
  go_wp2_with (first | (go_at_call 31; ((with_reducible refine (constant_calls _ _ _ _).mono ?_); rintro e w1 ⟨rfl, hb⟩; rw [HC.out]; obtain ⟨T, x, f, e0, hm, hc, hr⟩ := HB.out; rw [e0]; clear e0)) | (with_reducible refine (hr _).mono ?_; rintro e w2 ⟨rfl, rfl⟩))
  go_ret
  exact ⟨rfl, below_step ((Below.refl _ _).alloc (Nat.le_refl _) _) hb⟩

set_option maxHeartbeats 4000000 in
set_option maxRecDepth 100000 in
theorem datInterval {v : Value} {n : Int} (HB : HasBytes v n) (off : Int) (w : World) :
    Calls Try.prog 42 #[.agg #[.int .i64 off, v]] w fun e w' => e = .returned (.tuple #[.int .i64 off, .int .i64 (wrap64 (off + n))]) ∧ Below w.heap.size w w' := by
  obtain ⟨T, x, f, rfl, hm, hc, hr⟩ := HB
  go_enter Try.func42, Try.ntmps42
  go_wp2
  go_quiet ((exact Calls.quiet_of_same ((hr _).mono fun _ _ h => ⟨h.1, h.2.symm⟩)))
  go_wp2
  go_ret2
  exact ⟨rfl, pw_below_drewN ((Below.refl _ _).alloc (Nat.le_refl _) _) _⟩

theorem bcell {W w1 : World} (hb : Below W.heap.size W w1) : (∀ b o, b < W.heap.size → w1.cell? ⟨b, o, none⟩ = W.cell? ⟨b, o, none⟩) ∧ (∀ b o, b < W.heap.size → w1.frozen? ⟨b, o, none⟩ = W.frozen? ⟨b, o, none⟩) :=
  ⟨fun b o h => hb.cell (p := ⟨b, o, none⟩) h, fun b o h => hb.frozen (p := ⟨b, o, none⟩) h⟩
/-- Do two data overlap, as the package reckons it? -/
def ovB (o1 n1 o2 n2 : Int) : Bool := if wrap64 (o2 + n2) ≤ o1 then false else if wrap64 (o1 + n1) ≤ o2 then false else true
set_option maxHeartbeats 4000000 in
set_option maxRecDepth 100000 in
theorem datOverlaps {v1 v2 : Value} {n1 n2 : Int} (H1 : HasBytes v1 n1) (H2 : HasBytes v2 n2) (o1 o2 : Int) (w : World) :
    Calls Try.prog 34 #[.agg #[.int .i64 o1, v1], .agg #[.int .i64 o2, v2]] w fun e w' => e = .returned (.bool (ovB o1 n1 o2 n2)) ∧ Below w.heap.size w w' := by
  have A1 := Aside0.mk H1
  have A2 := Aside0.mk H2
  clear H1 H2
  have w1 : ∃ T1 x1, v1 = .iface T1 x1 := by obtain ⟨T, x, _, h, _⟩ := A1.out; exact ⟨T, x, h⟩
  have w2 : ∃ T1 x1, v2 = .iface T1 x1 := by obtain ⟨T, x, _, h, _⟩ := A2.out; exact ⟨T, x, h⟩
  obtain ⟨T1, x1, rfl⟩ := w1
  obtain ⟨T2, x2, rfl⟩ := w2
  by_cases c1 : wrap64 (o2 + n2) ≤ o1
  · have e1 : ovB o1 n1 o2 n2 = false := by unfold ovB; rw [if_pos c1]
    rw [e1]
    clear e1
    have b1 : decide (wrap64 (o2 + n2) ≤ o1) = true := decide_eq_true c1
    clear c1
    go_enter Try.func34, Try.ntmps34
    go_wp2_with (first | (go_at_call 42; first | ((with_reducible refine (datInterval A1.out _ _).mono ?_); rintro e w1 ⟨rfl, hb1⟩; obtain ⟨hc1, hf1⟩ := bcell hb1; replace hb1 := Aside0.mk hb1) | ((with_reducible refine (datInterval A2.out _ _).mono ?_); rintro e w2 ⟨rfl, hb2⟩; replace hb2 := Aside0.mk hb2)))
    go_ret
    exact ⟨rfl, below_step (below_step (((Below.refl _ _).alloc (Nat.le_refl _) _).alloc (by simp) _) hb1.out) hb2.out⟩
  have b1 : decide (wrap64 (o2 + n2) ≤ o1) = false := decide_eq_false c1
  by_cases c2 : wrap64 (o1 + n1) ≤ o2
  · have e1 : ovB o1 n1 o2 n2 = false := by unfold ovB; rw [if_neg c1, if_pos c2]
    rw [e1]
    clear e1
    have b2 : decide (wrap64 (o1 + n1) ≤ o2) = true := decide_eq_true c2
    clear c1 c2
    go_enter Try.func34, Try.ntmps34
    go_wp2_with (first | (go_at_call 42; first | ((with_reducible refine (datInterval A1.out _ _).mono ?_); rintro e w1 ⟨rfl, hb1⟩; obtain ⟨hc1, hf1⟩ := bcell hb1; replace hb1 := Aside0.mk hb1) | ((with_reducible refine (datInterval A2.out _ _).mono ?_); rintro e w2 ⟨rfl, hb2⟩; replace hb2 := Aside0.mk hb2)))
    go_ret
    exact ⟨rfl, below_step (below_step (((Below.refl _ _).alloc (Nat.le_refl _) _).alloc (by simp) _) hb1.out) hb2.out⟩
  · have e1 : ovB o1 n1 o2 n2 = true := by unfold ovB; rw [if_neg c1, if_neg c2]
    rw [e1]
    clear e1
    have b2 : decide (wrap64 (o1 + n1) ≤ o2) = false := decide_eq_false c2
    clear c1 c2
    go_enter Try.func34, Try.ntmps34
    go_wp2_with (first | (go_at_call 42; first | ((with_reducible refine (datInterval A1.out _ _).mono ?_); rintro e w1 ⟨rfl, hb1⟩; obtain ⟨hc1, hf1⟩ := bcell hb1; replace hb1 := Aside0.mk hb1) | ((with_reducible refine (datInterval A2.out _ _).mono ?_); rintro e w2 ⟨rfl, hb2⟩; replace hb2 := Aside0.mk hb2)))
    go_ret
    exact ⟨rfl, below_step (below_step (((Below.refl _ _).alloc (Nat.le_refl _) _).alloc (by simp) _) hb1.out) hb2.out⟩

set_option maxHeartbeats 4000000 in
set_option maxRecDepth 100000 in
theorem newDatum (o : Int) (v : Value) (w : World) (hv : ∃ T x, v = .iface T x) :
    Calls Try.prog 33 #[.int .i64 o, v] w fun e w' => e = .returned (.agg #[.int .i64 o, v]) ∧ Below w.heap.size w w' := by
  obtain ⟨T, x, rfl⟩ := hv
  go_enter Try.func33, Try.ntmps33
  go_wp2
  exact bodyPost_ret (v := .agg #[.int .i64 o, .iface T x]) (by simp [results, Try.results33, go_sem]) rfl ⟨rfl, (Below.refl _ _).alloc (Nat.le_refl _) _⟩

structure SO (w : World) (o1 o2 : Int) (w' : World) : Prop where
  b : Below w.heap.size w w'
  z : w.heap.size + 2 ≤ w'.heap.size
  c1 : w'.cell? ⟨w.heap.size, 0, none⟩ = some (.int .i64 o1)
  c2 : w'.cell? ⟨w.heap.size + 1, 0, none⟩ = some (.int .i64 o2)
theorem SO.below {w : World} {o1 o2 : Int} {W w' : World} (h : SO w o1 o2 W) (hb : Below W.heap.size W w') : SO w o1 o2 w' :=
  ⟨below_step h.b hb, Nat.le_trans h.z hb.size, (pw_cell_below hb h.c1), (pw_cell_below hb h.c2)⟩
theorem SO.drew {w : World} {o1 o2 : Int} {W : World} (h : SO w o1 o2 W) : SO w o1 o2 W.drew :=
  ⟨below_drew h.b, h.z, by simpa using h.c1, by simpa using h.c2⟩
theorem SO.all {w : World} {o1 o2 : Int} {w' : World} (h : SO w o1 o2 w') : w'.cell? ⟨w.heap.size, 0, none⟩ = some (.int .i64 o1) ∧ w'.cell? ⟨w.heap.size + 1, 0, none⟩ = some (.int .i64 o2) ∧ SO w o1 o2 w' := ⟨h.c1, h.c2, h⟩

theorem SO.belowA {w : World} {o1 o2 : Int} {W w' : World} (h : W.cell? ⟨w.heap.size, 0, none⟩ = some (.int .i64 o1) ∧ W.cell? ⟨w.heap.size + 1, 0, none⟩ = some (.int .i64 o2) ∧ SO w o1 o2 W) (hb : Below W.heap.size W w') : SO w o1 o2 w' := SO.below h.2.2 hb
def impl_Overlaps.f (a0_0 : Int) (a0_1 : Int) (a0_2 : Int) (a0_3 : ByteArray) (a1_0 : Int) (a1_1 : Int) (a1_2 : Int) (a1_3 : ByteArray) : Option Bool :=
  some (isC a0_1 && isC a1_1 && ovB a0_0 (cBytes a0_1 a0_3) a1_0 (cBytes a1_1 a1_3))

set_option maxHeartbeats 8000000 in
set_option maxRecDepth 100000 in
theorem overlaps_yes (o1 k1 b1 : Int) (s1 : ByteArray) (o2 k2 b2 : Int) (s2 : ByteArray) (w : World) (h1 : 1 ≤ k1) (h1' : k1 ≤ 11) (h2 : 1 ≤ k2) (h2' : k2 ≤ 11) :
    Calls Try.prog 18 #[.agg #[.int .i64 o1, .int .i64 k1, .int .u64 b1, .string s1], .agg #[.int .i64 o2, .int .i64 k2, .int .u64 b2, .string s2]] w
      fun e w' => e = .returned (.bool (ovB o1 (cBytes k1 s1) o2 (cBytes k2 s2))) ∧ Below w.heap.size w w' := by
  have HB1 := Aside0.mk (hasBytes h1 h1' b1 s1)
  have HC1 := Aside0.mk (isC_yes h1 h1')
  have HB2 := Aside0.mk (hasBytes h2 h2' b2 s2)
  have HC2 := Aside0.mk (isC_yes h2 h2')
  clear h1 h2 h1' h2'
  have hv1 : ∃ T x, constV k1 b1 s1 = .iface T x := by obtain ⟨T, x, _, h, _⟩ := HB1.out; exact ⟨T, x, h⟩
  have hv2 : ∃ T x, constV k2 b2 s2 = .iface T x := by obtain ⟨T, x, _, h, _⟩ := HB2.out; exact ⟨T, x, h⟩
  obtain ⟨v1, hE1⟩ : ∃ v, v = constV k1 b1 s1 := ⟨_, rfl⟩
  obtain ⟨v2, hE2⟩ : ∃ v, v = constV k2 b2 s2 := ⟨_, rfl⟩
  have E1 := Aside0.mk hE1
  have E2 := Aside0.mk hE2
  rw [← hE1] at HB1 hv1
  rw [← hE2] at HB2 hv2
  clear hE1 hE2
  obtain ⟨n1, hn1⟩ : ∃ n, n = cBytes k1 s1 := ⟨_, rfl⟩
  obtain ⟨n2, hn2⟩ : ∃ n, n = cBytes k2 s2 := ⟨_, rfl⟩
  rw [← hn1] at HB1 ⊢
  rw [← hn2] at HB2 ⊢
  clear hn1 hn2
  obtain ⟨T1, x1, rfl⟩ := hv1
  obtain ⟨T2, x2, rfl⟩ := hv2
  go_enter Try.func18, Try.ntmps18
  go_wp2_with (first
    | (go_at_call 31; ((with_reducible refine (constant_calls k1 _ _ _).mono ?_); rintro e w1 ⟨rfl, hb1⟩; rw [HC1.out, ← E1.out]; obtain ⟨hc1, hf1⟩ := bcell hb1; replace hb1 := Aside0.mk hb1))
    | (go_at_call 31; ((with_reducible refine (constant_calls k2 _ _ _).mono ?_); rintro e w2 ⟨rfl, hb2⟩; rw [HC2.out, ← E2.out]; have hS0 : SO w o1 o2 w2 := SO.below (SO.below ⟨((Below.refl _ _).alloc (Nat.le_refl _) _).alloc (by simp) _, by simp, by simp, by simp⟩ hb1.out) hb2; clear hb1 hb2 hc1 hf1)))
  go_region_held3 (fun w' => w'.cell? ⟨w.heap.size, 0, none⟩ = some (.int .i64 o1) ∧ w'.cell? ⟨w.heap.size + 1, 0, none⟩ = some (.int .i64 o2) ∧ SO w o1 o2 w') (first | exact SO.all (by assumption) | exact SO.all (SO.drew (by assumption)))
    (first
      | (go_at_call 33; ((with_reducible refine (newDatum _ _ _ ⟨_, _, rfl⟩).mono ?_); rintro e w3 ⟨rfl, hb3⟩; have hS := SO.belowA (by assumption) hb3; clear hb3))
      | (go_at_call 34; ((with_reducible refine (datOverlaps HB1.out HB2.out _ _ _).mono ?_); rintro e w3 ⟨rfl, hb3⟩; have hS := SO.belowA (by assumption) hb3; clear hb3)))
  all_goals go_wp2
  all_goals go_ret
  all_goals exact ⟨rfl, hS.b⟩

set_option maxHeartbeats 8000000 in
set_option maxRecDepth 100000 in
theorem overlaps_no (o1 k1 b1 : Int) (s1 : ByteArray) (o2 k2 b2 : Int) (s2 : ByteArray) (w : World) (hn : isC k1 = false ∨ isC k2 = false) :
    Calls Try.prog 18 #[.agg #[.int .i64 o1, .int .i64 k1, .int .u64 b1, .string s1], .agg #[.int .i64 o2, .int .i64 k2, .int .u64 b2, .string s2]] w
      fun e w' => e = .returned (.bool false) ∧ Below w.heap.size w w' := by
  obtain ⟨v1, hE1⟩ : ∃ v, v = constV k1 b1 s1 := ⟨_, rfl⟩
  obtain ⟨v2, hE2⟩ : ∃ v, v = constV k2 b2 s2 := ⟨_, rfl⟩
  obtain ⟨c1, hC1⟩ : ∃ v, v = isC k1 := ⟨_, rfl⟩
  obtain ⟨c2, hC2⟩ : ∃ v, v = isC k2 := ⟨_, rfl⟩
  rw [← hC1, ← hC2] at hn
  replace hE1 := Aside0.mk hE1
  replace hE2 := Aside0.mk hE2
  replace hC1 := Aside0.mk hC1
  replace hC2 := Aside0.mk hC2
  have hcc : c1 = false ∨ (c1 = true ∧ c2 = false) := by
    cases c1
    · exact .inl rfl
    · rcases hn with h | h
      · cases h
      · exact .inr ⟨rfl, h⟩
  clear hn
  rcases hcc with rfl | ⟨rfl, rfl⟩
  all_goals
    (go_enter Try.func18, Try.ntmps18
     go_wp2_with (first
       | (go_at_call 31; ((with_reducible refine (constant_calls k1 _ _ _).mono ?_); rintro e w1 ⟨rfl, hb1⟩; rw [← hC1.out, ← hE1.out]; obtain ⟨hc1, hf1⟩ := bcell hb1; replace hb1 := Aside0.mk hb1))
       | (go_at_call 31; ((with_reducible refine (constant_calls k2 _ _ _).mono ?_); rintro e w2 ⟨rfl, hb2⟩; rw [← hC2.out, ← hE2.out]; have hS0 : SO w o1 o2 w2 := SO.below (SO.below ⟨((Below.refl _ _).alloc (Nat.le_refl _) _).alloc (by simp) _, by simp, by simp, by simp⟩ hb1.out) hb2; clear hb1 hb2 hc1 hf1))))
  · go_quiet (fail)
    go_wp2
    go_ret
    exact ⟨rfl, pw_below_drewN hS0.b _⟩
  · go_quiet (fail)
    go_wp2
    go_ret
    exact ⟨rfl, pw_below_drewN hS0.b _⟩

theorem impl_Overlaps.calls (a0_0 : Int) (a0_1 : Int) (a0_2 : Int) (a0_3 : ByteArray) (a1_0 : Int) (a1_1 : Int) (a1_2 : Int) (a1_3 : ByteArray) (r : Bool) (w : World) (h : impl_Overlaps.f a0_0 a0_1 a0_2 a0_3 a1_0 a1_1 a1_2 a1_3 = some r) :
    Calls Try.prog 18 #[.agg #[.int .i64 a0_0, .int .i64 a0_1, .int .u64 a0_2, .string a0_3], .agg #[.int .i64 a1_0, .int .i64 a1_1, .int .u64 a1_2, .string a1_3]] w fun e w' => e = .returned (.bool r) ∧ Below w.heap.size w w' := by
  obtain rfl := Option.some.inj h
  clear h
  by_cases h1 : isC a0_1 = true
  · by_cases h2 : isC a1_1 = true
    · rw [h1, h2]
      have k1 : 1 ≤ a0_1 ∧ a0_1 ≤ 11 := of_decide_eq_true h1
      have k2 : 1 ≤ a1_1 ∧ a1_1 ≤ 11 := of_decide_eq_true h2
      exact overlaps_yes _ _ _ _ _ _ _ _ w k1.1 k1.2 k2.1 k2.2
    · have h2 : isC a1_1 = false := by simpa using h2
      rw [h1, h2]
      exact overlaps_no _ _ _ _ _ _ _ _ w (.inr h2)
  · have h1 : isC a0_1 = false := by simpa using h1
    rw [h1]
    exact overlaps_no _ _ _ _ _ _ _ _ w (.inl h1)

/-- The bytes of a datum. -/
def impl_Interval.f (a0_0 : Int) (a0_1 : Int) (a0_2 : Int) (a0_3 : ByteArray) : Option (Int × Int) :=
  some (if isC a0_1 = true then (a0_0, wrap64 (a0_0 + cBytes a0_1 a0_3)) else (0, 0))
set_option maxHeartbeats 8000000 in
set_option maxRecDepth 100000 in
theorem interval_yes (o1 k1 b1 : Int) (s1 : ByteArray) (w : World) (h1 : 1 ≤ k1) (h1' : k1 ≤ 11) :
    Calls Try.prog 22 #[.agg #[.int .i64 o1, .int .i64 k1, .int .u64 b1, .string s1]] w
      fun e w' => e = .returned (.tuple #[.int .i64 o1, .int .i64 (wrap64 (o1 + cBytes k1 s1))]) ∧ Below w.heap.size w w' := by
  have HB1 := Aside0.mk (hasBytes h1 h1' b1 s1)
  have HC1 := Aside0.mk (isC_yes h1 h1')
  clear h1 h1'
  have hv1 : ∃ T x, constV k1 b1 s1 = .iface T x := by obtain ⟨T, x, _, h, _⟩ := HB1.out; exact ⟨T, x, h⟩
  obtain ⟨v1, hE1⟩ : ∃ v, v = constV k1 b1 s1 := ⟨_, rfl⟩
  have E1 := Aside0.mk hE1
  rw [← hE1] at HB1 hv1
  clear hE1
  obtain ⟨n1, hn1⟩ : ∃ n, n = cBytes k1 s1 := ⟨_, rfl⟩
  rw [← hn1] at HB1 ⊢
  clear hn1
  obtain ⟨T1, x1, rfl⟩ := hv1
  go_enter Try.func22, Try.ntmps22
  go_wp2_with (first
    | (go_at_call 31; ((with_reducible refine (constant_calls k1 _ _ _).mono ?_); rintro e w1 ⟨rfl, hb1⟩; rw [HC1.out, ← E1.out]; obtain ⟨hc1, hf1⟩ := bcell hb1; replace hb1 := Aside0.mk hb1))
    | (go_at_call 33; ((with_reducible refine (newDatum _ _ _ ⟨_, _, rfl⟩).mono ?_); rintro e w2 ⟨rfl, hb2⟩; replace hb2 := Aside0.mk hb2))
    | (go_at_call 42; ((with_reducible refine (datInterval HB1.out _ _).mono ?_); rintro e w3 ⟨rfl, hb3⟩; replace hb3 := Aside0.mk hb3)))
  go_ret2
  exact ⟨rfl, below_step (below_step (below_step ((Below.refl _ _).alloc (Nat.le_refl _) _) hb1.out) hb2.out) hb3.out⟩
set_option maxHeartbeats 8000000 in
set_option maxRecDepth 100000 in
theorem interval_no (o1 k1 b1 : Int) (s1 : ByteArray) (w : World) (hn : isC k1 = false) :
    Calls Try.prog 22 #[.agg #[.int .i64 o1, .int .i64 k1, .int .u64 b1, .string s1]] w
      fun e w' => e = .returned (.tuple #[.int .i64 0, .int .i64 0]) ∧ Below w.heap.size w w' := by
  obtain ⟨v1, hE1⟩ : ∃ v, v = constV k1 b1 s1 := ⟨_, rfl⟩
  replace hE1 := Aside0.mk hE1
  replace hn := Aside0.mk hn
  go_enter Try.func22, Try.ntmps22
  go_wp2_with (first
    | (go_at_call 31; ((with_reducible refine (constant_calls k1 _ _ _).mono ?_); rintro e w1 ⟨rfl, hb1⟩; rw [hn.out, ← hE1.out]; replace hb1 := Aside0.mk hb1)))
  go_ret2
  exact ⟨rfl, below_step ((Below.refl _ _).alloc (Nat.le_refl _) _) hb1.out⟩
theorem impl_Interval.calls (a0_0 : Int) (a0_1 : Int) (a0_2 : Int) (a0_3 : ByteArray) (r1 r2 : Int) (w : World) (h : impl_Interval.f a0_0 a0_1 a0_2 a0_3 = some (r1, r2)) :
    Calls Try.prog 22 #[.agg #[.int .i64 a0_0, .int .i64 a0_1, .int .u64 a0_2, .string a0_3]] w fun e w' => e = .returned (.tuple #[.int .i64 r1, .int .i64 r2]) ∧ Below w.heap.size w w' := by
  unfold impl_Interval.f at h
  by_cases h1 : isC a0_1 = true
  · have k1 : 1 ≤ a0_1 ∧ a0_1 ≤ 11 := of_decide_eq_true h1
    rw [if_pos h1] at h
    simp only [Option.some.injEq, Prod.mk.injEq] at h
    obtain ⟨rfl, rfl⟩ := h
    exact interval_yes _ _ _ _ w k1.1 k1.2
  · rw [if_neg h1] at h
    simp only [Option.some.injEq, Prod.mk.injEq] at h
    obtain ⟨rfl, rfl⟩ := h
    exact interval_no _ _ _ _ w (by simpa using h1)
end Go.Proofs.Ytlmmjchdfngdgaa.Q
