import Derived.Test.YbulkawyiRank
import Derived.Deep.RegionHeld3
namespace Go.Proofs.Ybulkawyi
open Go.RowKit
set_option linter.unusedVariables false

def rk (p : Int) : Int := if p = -128 then -4 else p.tmod 4
theorem rk_range (p : Int) : -4 ≤ rk p ∧ rk p ≤ 3 := by
  unfold rk
  split
  · omega
  · have := Int.tmod_lt_of_pos p (show (0 : Int) < 4 by omega)
    have := Int.lt_tmod_of_pos p (show (0 : Int) < 4 by omega)
    omega

theorem name22 : (Yba.f22.name == "runtime.NumGoroutine") = false := by kernel_rfl
theorem body22 : Yba.f22.body.isNone = true := by kernel_rfl
theorem next22 : Extern.findNext Yba.f22 = none := by kernel_rfl
theorem find22 : Extern.find Yba.f22 = some Extern.MathFloatBits.float64frombits := by kernel_rfl
theorem frombits (n : Int) (w : World) : (callFunc 22 #[.int .u64 n]).run Yba.prog w = .ok (.value (.float .f64 n.toNat)) w := by
  rw [run_callFunc_extern Yba.func22 name22 body22 next22 find22]
  rfl
theorem nan_calls (w : World) : Calls Yba.prog 30 #[] w fun e w' => e = .returned (.float .f64 9221120237041090561) ∧ w' = w := by
  have hfb := frombits
  go_enter Yba.func30, Yba.ntmps30
  go_wp2
  go_ret
  exact ⟨rfl, rfl⟩

theorem apri_calls (p : Int) (h : -128 ≤ p) (h' : p ≤ 127) (w : World) :
    Calls Yba.prog 17 #[.int .i8 p] w fun e w' => e = .returned (.float .f64 (pb (rk p))) ∧ w' = w := by
  by_cases hp : p = -128
  · subst hp
    have e : pb (rk (-128)) = 9221120237041090561 := by decide +kernel
    rw [e]
    go_enter Yba.func17, Yba.ntmps17
    go_wp2_with fail
    refine Calls.mono (nan_calls _) ?_
    rintro e w' ⟨rfl, rfl⟩
    go_wp2
    go_ret
    exact ⟨rfl, rfl⟩
  · have e : pb (rk p) = floatOfInt .f64 (p.tmod 4) := by
      unfold rk pb
      rw [if_neg hp, if_neg]
      have := Int.lt_tmod_of_pos p (show (0 : Int) < 4 by omega)
      omega
    rw [e]
    have hd : (p == -128) = false := by simpa using hp
    clear e
    go_enter Yba.func17, Yba.ntmps17
    go_wp2
    go_ret
    exact ⟨rfl, rfl⟩

/-- What the script says of one message, and the message made of it. -/
def msgIn (l f lp fp : Int) (ls fs : Bool) (h s : Int) : Value := .agg #[.int .u8 l, .int .u8 f, .int .i8 lp, .int .i8 fp, .bool ls, .bool fs, .int .i8 h, .int .u8 s]
def msgCells (l f lp fp : Int) (ls fs : Bool) (h s : Int) : Array Value :=
  #[.int .u64 (l % 8), .float .f64 (pb (rk lp)), .bool ls, .int .u64 0, .int .u64 (s % 8), .int .i64 (h.tmod 4), .int .u64 (f % 8), .float .f64 (pb (rk fp)), .bool fs, .slice none 0 0, .slice none 0 0, .bool false]

theorem wrap_u64 (n : Int) (h : 0 ≤ n) (h' : n ≤ 18446744073709551615) : IntKind.wrap .u64 n = n := by
  have e1 : ((2 : Int) ^ IntKind.u64.bits) = 18446744073709551616 := by decide
  have e3 : IntKind.u64.signed = false := rfl
  unfold IntKind.wrap
  rw [e1, e3]
  simp only [Bool.false_and, Bool.false_eq_true, if_false]
  omega
theorem wrap_i64 (n : Int) (h : -9223372036854775808 ≤ n) (h' : n ≤ 9223372036854775807) : IntKind.wrap .i64 n = n := by
  have e1 : ((2 : Int) ^ IntKind.i64.bits) = 18446744073709551616 := by decide
  have e2 : ((2 : Int) ^ (IntKind.i64.bits - 1)) = 9223372036854775808 := by decide
  have e3 : IntKind.i64.signed = true := rfl
  unfold IntKind.wrap
  rw [e1, e2, e3]
  simp only [Bool.true_and, decide_eq_true_eq]
  split <;> omega
theorem wrap_rem8 (n : Int) (h : 0 ≤ n) : IntKind.wrap .u64 (n.tmod 8) = n % 8 := by
  rw [Int.tmod_eq_emod_of_nonneg h, wrap_u64 _ (by omega) (by omega)]
theorem wrap_rem4 (n : Int) : IntKind.wrap .i64 (n.tmod 4) = n.tmod 4 := by
  have := Int.tmod_lt_of_pos n (show (0 : Int) < 4 by omega)
  have := Int.lt_tmod_of_pos n (show (0 : Int) < 4 by omega)
  exact wrap_i64 _ (by omega) (by omega)

set_option maxRecDepth 100000 in
set_option maxHeartbeats 1000000 in
theorem amsg_calls (l f lp fp : Int) (ls fs : Bool) (h s : Int) (l0 : 0 ≤ l) (l1 : l ≤ 255) (f0 : 0 ≤ f) (f1 : f ≤ 255) (p0 : -128 ≤ lp) (p1 : lp ≤ 127) (q0 : -128 ≤ fp) (q1 : fp ≤ 127) (h0 : -128 ≤ h) (h1 : h ≤ 127) (s0 : 0 ≤ s) (s1 : s ≤ 255) (w : World) :
    Calls Yba.prog 8 #[msgIn l f lp fp ls fs h s] w fun e w' => ∃ q, e = .returned (.pointer (some ⟨w.heap.size + 1, 0, none⟩)) ∧
      w' = ((w.alloc (.cells #[.int .u8 l, .int .u8 f, .int .i8 lp, .int .i8 fp, .bool ls, .bool fs, .int .i8 h, .int .u8 s] 25)).drewN q).alloc (.cells (msgCells l f lp fp ls fs h s) 40) := by
  unfold msgIn msgCells
  rw [← wrap_rem8 l l0, ← wrap_rem8 f f0, ← wrap_rem8 s s0, ← wrap_rem4 h]
  have C1 := fun w => apri_calls lp p0 p1 w
  have C2 := fun w => apri_calls fp q0 q1 w
  have H1 : Hid _ := C1
  have H2 : Hid _ := C2
  clear C1 C2
  go_enter Yba.func8, Yba.ntmps8
  go_wp2
  go_region_held3 (fun w' => w'.cell? ⟨w.heap.size, 0, none⟩ = some (.int .u8 l) ∧ w'.cell? ⟨w.heap.size, 1, none⟩ = some (.int .u8 f) ∧ w'.cell? ⟨w.heap.size, 2, none⟩ = some (.int .i8 lp) ∧ w'.cell? ⟨w.heap.size, 3, none⟩ = some (.int .i8 fp) ∧ w'.cell? ⟨w.heap.size, 4, none⟩ = some (.bool ls) ∧ w'.cell? ⟨w.heap.size, 5, none⟩ = some (.bool fs) ∧ w'.cell? ⟨w.heap.size, 6, none⟩ = some (.int .i8 h) ∧ w'.cell? ⟨w.heap.size, 7, none⟩ = some (.int .u8 s)) (go_keep)
    (first | (go_at_call_of 17 lp; refine Calls.mono (H1.out _) ?_; rintro e w' ⟨rfl, rfl⟩) | (go_at_call_of 17 fp; refine Calls.mono (H2.out _) ?_; rintro e w' ⟨rfl, rfl⟩))
  all_goals
    go_wp2
    go_ret
    exact ⟨_, rfl, rfl⟩
end Go.Proofs.Ybulkawyi
