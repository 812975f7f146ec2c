import Derived.Test.YbulkawyiPrA
namespace Go.Proofs.Ybulkawyi
open Go.RowKit
set_option linter.unusedVariables false
set_option exponentiation.threshold 3000

theorem V.zero : V 0 0 := ⟨false, 0, by omega, rfl, by simp [pval]⟩

set_option maxHeartbeats 1000000 in
theorem next_calls {x : Nat} {v : Int} (h : V x v) (w : World) : Calls Yba.prog 25 #[.float .f64 x, .float .f64 9218868437227405312] w fun e w' => e = .returned (.float .f64 (nextUp x v)) ∧ w' = w := by
  have htb := frombits
  have htc := tobits
  have o1 : FloatKind.f64.format.order x x = some .eq := by rw [h.order h, Int.compare_eq_eq.2 rfl]
  have o2 : FloatKind.f64.format.order 9218868437227405312 9218868437227405312 = some .eq := by kernel_rfl
  have o3 := h.lt_inf.1
  have o4 := h.lt_inf.2.1
  have o5 := h.order V.zero
  have HV : Hid _ := h
  clear h
  unfold nextUp
  rcases Int.lt_trichotomy v 0 with hv | hv | hv
  · rw [Int.compare_eq_lt.2 hv] at o5
    obtain ⟨r, ex, r0, r1, _⟩ := V.word HV.out |>.2 hv
    have ew : IntKind.wrap .u64 ((x : Int) - 1) = ((x - 1 : Nat) : Int) := by rw [wrap_u64] <;> omega
    rw [if_neg (by omega), if_neg (by omega)]
    clear ex hv
    go_enter Yba.func25, Yba.ntmps25
    go_wp2_with (first
      | (go_at_call 36; refine (isnan_no o1 _).mono ?_; rintro e w1 ⟨rfl, rfl⟩)
      | (go_at_call 36; refine (isnan_no o2 _).mono ?_; rintro e w1 ⟨rfl, rfl⟩))
    go_ret
    exact ⟨rfl, rfl⟩
  · rw [Int.compare_eq_eq.2 hv] at o5
    rw [if_pos hv]
    clear hv
    go_enter Yba.func25, Yba.ntmps25
    go_wp2_with (first
      | (go_at_call 36; refine (isnan_no o1 _).mono ?_; rintro e w1 ⟨rfl, rfl⟩)
      | (go_at_call 36; refine (isnan_no o2 _).mono ?_; rintro e w1 ⟨rfl, rfl⟩)
      | (go_at_call 37; refine (copysign_calls _).mono ?_; rintro e w1 ⟨rfl, rfl⟩))
    go_ret
    exact ⟨rfl, rfl⟩
  · rw [Int.compare_eq_gt.2 hv] at o5
    obtain ⟨r, ex, r0, r1, _⟩ := V.word HV.out |>.1 hv
    have ew : IntKind.wrap .u64 ((x : Int) + 1) = ((x + 1 : Nat) : Int) := by rw [wrap_u64] <;> omega
    rw [if_neg (by omega), if_pos hv]
    clear ex hv
    go_enter Yba.func25, Yba.ntmps25
    go_wp2_with (first
      | (go_at_call 36; refine (isnan_no o1 _).mono ?_; rintro e w1 ⟨rfl, rfl⟩)
      | (go_at_call 36; refine (isnan_no o2 _).mono ?_; rintro e w1 ⟨rfl, rfl⟩))
    go_ret
    exact ⟨rfl, rfl⟩

set_option maxHeartbeats 400000 in
theorem floor_calls {x : Nat} (h : ∃ s m p, FloatKind.f64.decode x = .number s m p) (w : World) : Calls Yba.prog 46 #[.float .f64 x] w fun e w' => e = .returned (.float .f64 (FloatKind.f64.encode ((FloatKind.f64.decode x).integral .down))) ∧ w' = w := by
  have hf := floor_run h
  generalize FloatKind.f64.encode ((FloatKind.f64.decode x).integral .down) = y at *
  go_enter Yba.func46, Yba.ntmps46
  go_wp2
  go_ret
  exact ⟨rfl, rfl⟩

theorem min_lt {ts : Array TypeId} {t : TypeId} {x y : Nat} (h : FloatKind.f64.format.order x y = some .lt) (w : World) : (Builtin.min_ ts t #[.float .f64 x, .float .f64 y]).run Yba.prog w = .ok (.float .f64 x) w := by
  have e : Builtin.min_ ts t #[.float .f64 x, .float .f64 y] = (Builtin.min2 (.float .f64 x) (.float .f64 y) >>= pure) := rfl
  have e2 : Builtin.min2 (.float .f64 x) (.float .f64 y) = pure (.float .f64 x) := by
    simp only [Builtin.min2, h]
  rw [e, e2]
  rfl

theorem N.const (n : Int) (h : n.natAbs < 9007199254740992) (b : Nat) (e : floatOfInt .f64 n = b) : N b n := e ▸ N.ofInt n h
theorem one_N : N 4607182418800017408 1 := N.const 1 (by decide) _ (by kernel_rfl)
theorem V.big62 : ∃ v : Int, V 4886405595696988160 v ∧ v = 4611686018427387904 * 1048576 * Sc := by
  refine ⟨_, ?_, rfl⟩
  have e : (4611686018427387904 : Int) * 1048576 * Sc = (pval 4886405595696988160 : Int) := by
    have e1 : pval 4886405595696988160 = 4503599627370496 * 2 ^ 1084 := by
      unfold pval
      rw [if_neg (by omega)]
    rw [e1]
    have e2 : (4503599627370496 * 2 ^ 1084 : Nat) = 4611686018427387904 * 1048576 * Sc := by
      have a : 2 ^ 1084 = 2 ^ 30 * Sc := by rw [Sc.eq_1, ← Nat.pow_add]
      rw [a, ← Nat.mul_assoc]
    rw [e2, Int.natCast_mul]
    rfl
  rw [e]
  exact ⟨false, 4886405595696988160, by omega, rfl, rfl⟩

set_option maxHeartbeats 1000000 in
/-- bucket at a number that is not great: some small whole number. -/
theorem bucket_calls {x : Nat} {v : Int} (h : V x v) (hv : v.natAbs ≤ 1073741824 * Sc * 1024) (w : World) : ∃ z : Int, z ≤ 4611686018427387904 ∧ Calls Yba.prog 38 #[.float .f64 x] w fun e w' => e = .returned (.int .i64 z) ∧ w' = w := by
  have hu : (1 * 1048576 * (Sc : Int)).natAbs = 1048576 * Sc := by rw [Int.natAbs_mul]; simp
  have hS := Sc_pos
  have one : V 4607182418800017408 (1 * 1048576 * Sc) := one_N
  generalize hSc : (Sc : Nat) = S at hv hu hS one
  have k1 : v.natAbs ≤ 1099511627776 * S := by omega
  have k2 : 1048576 * S ≤ (1 * 1048576 * (S : Int)).natAbs := by omega
  have k3 : 0 * (1 * 1048576 * (S : Int)).natAbs ≤ v.natAbs * 1048576 := by omega
  have k4 : v.natAbs * 1048576 ≤ 1099511627776 * (1 * 1048576 * (S : Int)).natAbs := by omega
  subst hSc
  obtain ⟨r, z, er, hz, z1, z2, _⟩ := V.quo (lo := 0) (hi := 1099511627776) h one k1 k2 (RS.int (by decide)) (RS.int (by decide)) k3 k4
  obtain ⟨n, hn, hN, hd⟩ := N.floor (B := 1048576) hz (by decide) (by omega)
  obtain ⟨k, hk, hk2⟩ := N.toInt (B := 1048577) hN (by decide) (by omega)
  obtain ⟨b, hb, eb⟩ := V.big62
  have o1 := (V.lt hN hb (by
    rw [eb]
    refine Int.mul_lt_mul_of_pos_right ?_ (Int.natCast_pos.2 Sc_pos)
    omega)).1
  have hq := fl_run er
  have hcv : ∀ w, (convert 33 2 (.float .f64 (FloatKind.f64.encode ((FloatKind.f64.decode r).integral .down)))).run Yba.prog w = .ok (.int .i64 k) w := fun w => run_convert_float_int w 33 2 .f64 .i64 _ k (by rw [Yba.underlying33]; rfl) Yba.underlying2 hk
  have hmin := fun ts t => min_lt (ts := ts) (t := t) o1
  refine ⟨k, by omega, ?_⟩
  have HD : Hid _ := hd
  have hfl := floor_calls hd
  generalize FloatKind.f64.encode ((FloatKind.f64.decode r).integral .down) = y at *
  clear h hv hz z1 z2 hN hk hb eb o1 er hd
  go_enter Yba.func38, Yba.ntmps38
  go_wp2_with (go_at_call 46; refine (hfl _).mono ?_; rintro e w1 ⟨rfl, rfl⟩)
  go_ret
  exact ⟨rfl, rfl⟩

theorem max_lt {ts : Array TypeId} {t : TypeId} {x y : Nat} (h : FloatKind.f64.format.order x y = some .lt) (w : World) : (Builtin.max_ ts t #[.float .f64 x, .float .f64 y]).run Yba.prog w = .ok (.float .f64 y) w := by
  have e : Builtin.max_ ts t #[.float .f64 x, .float .f64 y] = (Builtin.max2 (.float .f64 x) (.float .f64 y) >>= pure) := rfl
  have e2 : Builtin.max2 (.float .f64 x) (.float .f64 y) = pure (.float .f64 y) := by
    simp only [Builtin.max2, h]
  rw [e, e2]
  rfl
/-- The greater of two numbers. -/
theorem max_V {x y : Nat} {v u : Int} (hx : V x v) (hy : V y u) : ∃ z, V z (max v u) ∧ ∀ (ts : Array TypeId) (t : TypeId) (w : World), (Builtin.max_ ts t #[.float .f64 x, .float .f64 y]).run Yba.prog w = .ok (.float .f64 z) w := by
  have e : ∀ ts t, Builtin.max_ ts t #[.float .f64 x, .float .f64 y] = (Builtin.max2 (.float .f64 x) (.float .f64 y) >>= pure) := fun _ _ => rfl
  rcases Int.lt_trichotomy v u with h | h | h
  · refine ⟨y, by rw [Int.max_eq_right (by omega)]; exact hy, fun ts t w => max_lt (hx.lt hy h).1 w⟩
  · have o : FloatKind.f64.format.order x y = some .eq := by rw [hx.order hy, Int.compare_eq_eq.2 h]
    refine ⟨if (FloatKind.f64.decode x).neg then y else x, ?_, fun ts t w => ?_⟩
    · subst h
      rw [Int.max_self]
      split
      · exact hy
      · exact hx
    · have e2 : Builtin.max2 (.float .f64 x) (.float .f64 y) = pure (.float .f64 (if (FloatKind.f64.decode x).neg then y else x)) := by
        simp only [Builtin.max2, o]
      rw [e, e2]
      rfl
  · refine ⟨x, by rw [Int.max_eq_left (by omega)]; exact hx, fun ts t w => ?_⟩
    have o := (hy.lt hx h).2
    have e2 : Builtin.max2 (.float .f64 x) (.float .f64 y) = pure (.float .f64 x) := by
      simp only [Builtin.max2, o]
    rw [e, e2]
    rfl
theorem min_five {ts : Array TypeId} {t : TypeId} (w : World) : (Builtin.min_ ts t #[.float .f64 9218868437227405312, .float .f64 9218868437227405312, .float .f64 9218868437227405312, .float .f64 9218868437227405312, .float .f64 4741671816366391296]).run Yba.prog w = .ok (.float .f64 4741671816366391296) w := by
  have o1 : FloatKind.f64.format.order 9218868437227405312 9218868437227405312 = some .eq := by kernel_rfl
  have o2 : FloatKind.f64.format.order 9218868437227405312 4741671816366391296 = some .gt := by kernel_rfl
  have e1 : Builtin.min2 (.float .f64 9218868437227405312) (.float .f64 9218868437227405312) = pure (.float .f64 9218868437227405312) := by
    simp only [Builtin.min2, o1, ite_self]
  have e2 : Builtin.min2 (.float .f64 9218868437227405312) (.float .f64 4741671816366391296) = pure (.float .f64 4741671816366391296) := by
    simp only [Builtin.min2, o2]
  have e : Builtin.min_ ts t #[.float .f64 9218868437227405312, .float .f64 9218868437227405312, .float .f64 9218868437227405312, .float .f64 9218868437227405312, .float .f64 4741671816366391296] = (do
    let a ← Builtin.min2 (.float .f64 9218868437227405312) (.float .f64 9218868437227405312)
    let b ← Builtin.min2 a (.float .f64 9218868437227405312)
    let c ← Builtin.min2 b (.float .f64 9218868437227405312)
    let d ← Builtin.min2 c (.float .f64 4741671816366391296)
    pure d) := rfl
  rw [e, e1]
  simp only [pure_bind, e1, e2]
  rfl
end Go.Proofs.Ybulkawyi
