import Derived.Test.YbulkawyiBg
namespace Go.Proofs.Ybulkawyi
open Ieee
set_option linter.unusedVariables false
set_option exponentiation.threshold 3000

theorem cut_small (way : Toward) (neg : Bool) (n d B : Nat) (h : n ≤ B * 2 ^ d) : way.cut neg n d ≤ B + 1 := by
  unfold Toward.cut
  dsimp only
  have hb : ∀ b : Bool, b.toNat ≤ 1 := fun b => by cases b <;> decide
  have h1 : n / (1 <<< min d (n.log2 + 2)) ≤ B := by
    rw [Nat.one_shiftLeft]
    by_cases hd : d ≤ n.log2 + 2
    · rw [Nat.min_eq_left hd]
      exact Nat.div_le_of_le_mul (by rw [Nat.mul_comm]; exact h)
    · rw [Nat.min_eq_right (by omega)]
      have h2 := @Nat.lt_log2_self n
      have : n < 2 ^ (n.log2 + 2) := Nat.lt_trans h2 (Nat.pow_lt_pow_right (by omega) (by omega))
      rw [Nat.div_eq_of_lt this]
      exact Nat.zero_le _
  exact Nat.add_le_add h1 (hb _)

theorem whole_small {m B : Nat} {i : Int} (hi : -1074 ≤ i) (h : m * 2 ^ (i + 1074).toNat ≤ B * (1048576 * Sc)) : m <<< i.toNat ≤ B * 2 ^ (-i).toNat := by
  rw [Nat.shiftLeft_eq]
  have h1 := (pow_cancel (a := m) (b := B) (u := (i + 1074).toNat) (v := 1074) (w := (-i).toNat)).2 (by rw [pow1074]; exact h)
  rw [show (i + 1074).toNat + (-i).toNat = i.toNat + 1074 by omega, Nat.add_comm 1074] at h1
  exact pow_cancel.1 h1

/-- math.archFloor at a number: some whole number no greater in magnitude by more than one. -/
theorem N.floor {x B : Nat} {v : Int} (hx : V x v) (hB : B < 1000000000000) (h : v.natAbs ≤ B * (1048576 * Sc)) : ∃ n : Int, n.natAbs ≤ B + 1 ∧ N (FloatKind.f64.encode ((FloatKind.f64.decode x).integral .down)) n ∧ ∃ s m p, FloatKind.f64.decode x = .number s m p := by
  obtain ⟨s, m, i, e1, ⟨hm, hi'⟩, rfl, _⟩ := hx.read
  have e : FloatKind.f64.decode x = .number s m i := e1
  rw [e]
  rw [natAbs_signed] at h
  have hc := cut_small .down s (m <<< i.toNat) (-i).toNat B (whole_small hi' h)
  have e2 : FloatKind.f64.encode ((Datum.number s m i).integral .down) = Ieee.double.nearest s (Toward.down.cut s (m <<< i.toNat) (-i).toNat) 0 := rfl
  rw [e2]
  generalize Toward.down.cut s (m <<< i.toNat) (-i).toNat = c at hc
  refine ⟨if s then -(c : Int) else c, by split <;> omega, ?_, _, _, _, rfl⟩
  have hs : signed s c 1074 = (if s then -(c : Int) else c) * 1048576 * Sc := by
    unfold signed
    rw [Nat.shiftLeft_eq, pow1074, Int.natCast_mul, Int.natCast_mul 1048576, ← Int.mul_assoc]
    cases s
    · rfl
    · simp only [if_true, Int.neg_mul]
      rfl
  have ek : ((0 : Int) + 1074 + (0 : Nat)).toNat = 1074 := rfl
  have hr : RS ((if s then -(c : Int) else c) * 1048576) := RS.whole (by split <;> omega)
  obtain ⟨z, hz, a, b⟩ := nearest_bd (neg := s) (mag := c) (place := 0) 0 (by omega) hr.rep hr.rep (by rw [ek, hs]; simp) (by rw [ek, hs]; simp)
  have : z = (if s then -(c : Int) else c) * 1048576 * Sc := by omega
  rw [this] at hz
  exact hz

/-- int64 of a whole number. -/
theorem N.toInt {x B : Nat} {n : Int} (hx : N x n) (hB : B < 1000000000000) (h : n.natAbs ≤ B) : ∃ z : Int, floatToIntVal .f64 x .i64 = some z ∧ z.natAbs ≤ B + 1 := by
  obtain ⟨s, m, i, e1, ⟨hm, hi'⟩, ev, _⟩ := V.read hx
  have e : FloatKind.f64.decode x = .number s m i := e1
  unfold floatToIntVal
  rw [e]
  have hv : m * 2 ^ (i + 1074).toNat ≤ B * (1048576 * Sc) := by
    have := natAbs_signed s m (i + 1074).toNat
    rw [← this, ← ev, Int.natAbs_mul, Int.natAbs_mul, ← Nat.mul_assoc]
    exact Nat.mul_le_mul_right _ (Nat.mul_le_mul_right _ h)
  have hc := cut_small .zero s (m <<< i.toNat) (-i).toNat B (whole_small hi' hv)
  have e2 : (Datum.number s m i).toInt .zero = some (signed s (Toward.zero.cut s (m <<< i.toNat) (-i).toNat) 0) := rfl
  rw [e2]
  dsimp only
  have e3 := natAbs_signed s (Toward.zero.cut s (m <<< i.toNat) (-i).toNat) 0
  generalize signed s (Toward.zero.cut s (m <<< i.toNat) (-i).toNat) 0 = z at e3
  rw [Nat.pow_zero, Nat.mul_one] at e3
  have m1 : IntKind.i64.min = -9223372036854775808 := rfl
  have m2 : IntKind.i64.max = 9223372036854775807 := rfl
  rw [if_pos (by rw [m1, m2]; omega)]
  exact ⟨z, rfl, by omega⟩

/-- Words of numbers. -/
theorem V.word {x : Nat} {v : Int} (h : V x v) : (0 < v → ∃ r, x = r ∧ 0 < r ∧ r < 9218868437227405312 ∧ v = pval r) ∧ (v < 0 → ∃ r, x = 9223372036854775808 + r ∧ 0 < r ∧ r < 9218868437227405312 ∧ v = -(pval r : Int)) := by
  obtain ⟨s, r, hr, rfl, hv⟩ := h
  have p0 : pval 0 = 0 := by simp [pval]
  have h0 : v ≠ 0 → 0 < r := by
    intro h
    rcases Nat.eq_zero_or_pos r with h1 | h1
    · subst h1
      rw [p0] at hv
      exfalso
      cases s <;> simp at hv <;> exact h hv
    · exact h1
  constructor
  · intro h
    cases s
    · exact ⟨r, rfl, h0 (by omega), hr, by simpa using hv⟩
    · simp only [if_true] at hv
      omega
  · intro h
    cases s
    · simp only [Bool.false_eq_true, if_false] at hv
      omega
    · exact ⟨r, by unfold Format.word; rw [dbl_sw]; rfl, h0 (by omega), hr, by simpa using hv⟩

/-- What math.Nextafter towards +Inf answers. -/
def nextUp (x : Nat) (v : Int) : Nat := if v = 0 then 1 else if 0 < v then x + 1 else x - 1

theorem nextUp_V {x B : Nat} {v : Int} (h : V x v) (hB : 0 < B) (rB : RS B) (hv : v < (B : Int) * Sc) : ∃ z, V (nextUp x v) z ∧ v < z ∧ z ≤ (B : Int) * Sc := by
  obtain ⟨b, hb, eb⟩ := rB.rung
  have hBS : (0 : Int) < (B : Int) * Sc := Int.mul_pos (by omega) (Int.natCast_pos.2 Sc_pos)
  have eb' : ((B : Int) * Sc) = (pval b : Int) := by rw [eb, Int.natCast_mul]
  rw [eb'] at hv hBS ⊢
  have p0 : pval 0 = 0 := by simp [pval]
  have p1 : pval 1 = 1 := by simp [pval]
  unfold nextUp
  by_cases h0 : v = 0
  · rw [if_pos h0]
    exact ⟨1, ⟨false, 1, by omega, rfl, by simp [p1]⟩, by omega, by omega⟩
  · rw [if_neg h0]
    by_cases h1 : 0 < v
    · rw [if_pos h1]
      obtain ⟨r, rfl, r0, hr, ev⟩ := h.word.1 h1
      have hlt : x < b := by
        rcases Nat.lt_or_ge x b with h2 | h2
        · exact h2
        · have := pval_le_iff.2 h2
          omega
      have k1 := pval_lt (Nat.lt_succ_self x)
      have k2 := pval_le_iff.2 (show x + 1 ≤ b from hlt)
      exact ⟨pval (x + 1), ⟨false, x + 1, by omega, rfl, by simp⟩, by rw [Nat.succ_eq_add_one] at k1; omega, by omega⟩
    · rw [if_neg h1]
      obtain ⟨r, rfl, r0, hr, ev⟩ := h.word.2 (by omega)
      have k1 := pval_lt (show r - 1 < r by omega)
      refine ⟨-(pval (r - 1) : Int), ⟨true, r - 1, by omega, ?_, by simp⟩, by omega, by omega⟩
      unfold Format.word
      rw [dbl_sw, if_pos rfl]
      omega

/-- No number is beyond the greatest. -/
theorem V.maxf {x : Nat} {v : Int} (h : V x v) : (FloatKind.f64.format.order x 9218868437227405311 == some .gt) = false := by
  have hm : V 9218868437227405311 (pval 9218868437227405311 : Int) := ⟨false, 9218868437227405311, by omega, rfl, rfl⟩
  rw [h.order hm]
  have : v ≤ (pval 9218868437227405311 : Int) := by
    obtain ⟨s, r, hr, _, hv⟩ := h
    have := pval_le_iff.2 (show r ≤ 9218868437227405311 by omega)
    cases s <;> simp only [if_true, Bool.false_eq_true, if_false] at hv <;> omega
  have hc : compare v (pval 9218868437227405311 : Int) ≠ .gt := by
    rw [ne_eq, Int.compare_eq_gt]
    omega
  generalize compare v (pval 9218868437227405311 : Int) = o at hc
  cases o
  · rfl
  · rfl
  · exact absurd rfl hc
end Go.Proofs.Ybulkawyi
