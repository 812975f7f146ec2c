import Derived.Test.YbulkawyiBh
import Derived.Test.YbulkawyiEq
namespace Go.Proofs.Ybulkawyi
open Go.RowKit
set_option linter.unusedVariables false

theorem fl_run {op : BinOp} {x y r : Nat} (h : floatBits op .f64 x y = some r) : ∀ w, (binOp op 33 (.float .f64 x) (.float .f64 y)).run Yba.prog w = .ok (.float .f64 r) w := fun w => run_float_arith w op 33 .f64 x y r h

theorem name35 : (Yba.f35.name == "runtime.NumGoroutine") = false := by kernel_rfl
theorem body35 : Yba.f35.body.isNone = true := by kernel_rfl
theorem next35 : Extern.findNext Yba.f35 = none := by kernel_rfl
theorem find35 : Extern.find Yba.f35 = some Extern.MathSqrt.sqrt := by kernel_rfl
theorem sqrt_run {x r : Nat} (h : FloatKind.f64.format.sqrt x = some r) (w : World) : (callFunc 35 #[.float .f64 x]).run Yba.prog w = .ok (.value (.float .f64 r)) w := by
  rw [run_callFunc_extern Yba.func35 name35 body35 next35 find35]
  have e : Extern.MathSqrt.sqrt #[.float .f64 x] = (match FloatKind.f64.format.sqrt x with
    | some r => pure (.float .f64 r)
    | none => do pure (.float .f64 (← choose (.nanBits .f64 x x)))) := rfl
  rw [e, h]
  rfl

theorem name55 : (Yba.f55.name == "runtime.NumGoroutine") = false := by kernel_rfl
theorem body55 : Yba.f55.body.isNone = true := by kernel_rfl
theorem next55 : Extern.findNext Yba.f55 = none := by kernel_rfl
theorem find55 : Extern.find Yba.f55 = some (Extern.MathFloor.toIntegral "math.archFloor" .down) := by kernel_rfl
theorem floor_run {x : Nat} (h : ∃ s m p, FloatKind.f64.decode x = .number s m p) (w : World) : (callFunc 55 #[.float .f64 x]).run Yba.prog w = .ok (.value (.float .f64 (FloatKind.f64.encode ((FloatKind.f64.decode x).integral .down)))) w := by
  rw [run_callFunc_extern Yba.func55 name55 body55 next55 find55]
  obtain ⟨s, m, p, h⟩ := h
  obtain ⟨F, hF⟩ : ∃ F : Bool → Nat → Sem Value, Extern.MathFloor.toIntegral "math.archFloor" .down #[.float .f64 x] = (match FloatKind.f64.decode x with
    | .nan s t => F s t
    | d => pure (.float .f64 (FloatKind.f64.encode (d.integral .down)))) := ⟨_, rfl⟩
  rw [hF, h]
  rfl

set_option maxHeartbeats 400000 in
theorem inf_calls (w : World) : Calls Yba.prog 13 #[.int .i64 1] w fun e w' => e = .returned (.float .f64 9218868437227405312) ∧ w' = w := by
  have htb := frombits
  go_enter Yba.func13, Yba.ntmps13
  go_wp2
  go_ret
  exact ⟨rfl, rfl⟩
set_option maxHeartbeats 400000 in
theorem ninf_calls (w : World) : Calls Yba.prog 13 #[.int .i64 (-1)] w fun e w' => e = .returned (.float .f64 18442240474082181120) ∧ w' = w := by
  have htb := frombits
  go_enter Yba.func13, Yba.ntmps13
  go_wp2
  go_ret
  exact ⟨rfl, rfl⟩
set_option maxHeartbeats 400000 in
theorem sqrt_calls {x r : Nat} (h : FloatKind.f64.format.sqrt x = some r) (w : World) : Calls Yba.prog 24 #[.float .f64 x] w fun e w' => e = .returned (.float .f64 r) ∧ w' = w := by
  have htb := sqrt_run h
  go_enter Yba.func24, Yba.ntmps24
  go_wp2
  go_ret
  exact ⟨rfl, rfl⟩
set_option maxHeartbeats 400000 in
theorem isinf_no {x : Nat} {v : Int} (h : V x v) (w : World) : Calls Yba.prog 15 #[.float .f64 x, .int .i64 1] w fun e w' => e = .returned (.bool false) ∧ w' = w := by
  have hm := h.maxf
  go_enter Yba.func15, Yba.ntmps15
  go_wp2
  go_ret
  exact ⟨rfl, rfl⟩
set_option maxHeartbeats 400000 in
theorem isinf_yes (w : World) : Calls Yba.prog 15 #[.float .f64 9218868437227405312, .int .i64 1] w fun e w' => e = .returned (.bool true) ∧ w' = w := by
  have hm : (FloatKind.f64.format.order 9218868437227405312 9218868437227405311 == some .gt) = true := by kernel_rfl
  go_enter Yba.func15, Yba.ntmps15
  go_wp2
  go_ret
  exact ⟨rfl, rfl⟩
set_option maxHeartbeats 400000 in
theorem isnan_no {x : Nat} (h : FloatKind.f64.format.order x x = some .eq) (w : World) : Calls Yba.prog 36 #[.float .f64 x] w fun e w' => e = .returned (.bool false) ∧ w' = w := by
  go_enter Yba.func36, Yba.ntmps36
  go_wp2
  go_ret
  exact ⟨rfl, rfl⟩
set_option maxHeartbeats 400000 in
theorem copysign_calls (w : World) : Calls Yba.prog 37 #[.float .f64 1, .float .f64 9218868437227405312] w fun e w' => e = .returned (.float .f64 1) ∧ w' = w := by
  have htb := frombits
  have htc := tobits
  go_enter Yba.func37, Yba.ntmps37
  go_wp2
  go_ret
  exact ⟨rfl, rfl⟩
end Go.Proofs.Ybulkawyi
