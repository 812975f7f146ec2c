import Derived.Test.YbulkawyiFl
namespace Go.Proofs.Ybulkawyi
open Ieee
set_option linter.unusedVariables false

/-- The word b stands for the number v * 2 ^ -1074. -/
def V (b : Nat) (v : Int) : Prop := ∃ s r, r < 9218868437227405312 ∧ b = Ieee.double.word s r ∧ v = if s then -(pval r : Int) else (pval r : Int)

theorem sgn_shift (s : Bool) (m a b : Nat) : signed s m (a + b) = signed s m a * (2 ^ b : Nat) := by
  unfold signed
  rw [Nat.shiftLeft_eq, Nat.shiftLeft_eq, Nat.pow_add, ← Nat.mul_assoc]
  split
  · rw [Int.neg_mul, Int.natCast_mul (m * 2 ^ a)]
  · rw [Int.natCast_mul (m * 2 ^ a)]

/-- How it reads. -/
theorem V.read {b : Nat} {v : Int} (h : V b v) : ∃ s m p, Ieee.double.read b = .number s m p ∧ (m < 9007199254740992 ∧ -1074 ≤ p) ∧ v = signed s m (p + 1074).toNat ∧ b < 18446744073709551616 := by
  obtain ⟨s, r, hr, rfl, hv⟩ := h
  have hb : Ieee.double.word s r < 18446744073709551616 := by
    unfold Format.word
    rw [dbl_sw]
    split <;> omega
  rw [read_word s r (by rw [dbl_inf]; omega), dbl_inf, dbl_bin, dbl_lp]
  unfold pval at hv
  by_cases h1 : r < 4503599627370496
  · rw [if_pos h1] at hv ⊢
    refine ⟨s, r, -1074, rfl, ⟨by omega, by omega⟩, ?_, hb⟩
    rw [hv]
    unfold signed
    simp
  · rw [if_neg h1] at hv ⊢
    rw [if_pos hr]
    have := Nat.mod_lt r (show 0 < 4503599627370496 by omega)
    refine ⟨s, _, _, rfl, ⟨by omega, by omega⟩, ?_, hb⟩
    rw [hv]
    unfold signed
    have e : (-1074 + ((r / 4503599627370496 - 1 : Nat) : Int) + 1074).toNat = r / 4503599627370496 - 1 := by omega
    rw [e, Nat.shiftLeft_eq]

/-- The format has this number. -/
def Rep (x : Int) : Prop := ∃ r, r < 9218868437227405312 ∧ x.natAbs = pval r

theorem Rep.mk {x : Int} (m e : Nat) (hx : x.natAbs = m * 2 ^ e) (hm : m < 9007199254740992) (h1 : 52 ≤ e) (h2 : e ≤ 2000) : Rep x := by
  by_cases h0 : m = 0
  · subst h0
    exact ⟨0, by omega, by rw [hx]; simp [pval]⟩
  · have hL : m.log2 < 53 := (Nat.log2_lt h0).2 hm
    have l1 := Nat.log2_self_le h0
    have l2 := @Nat.lt_log2_self m
    have e1 : 2 ^ m.log2 * 2 ^ (52 - m.log2) = 4503599627370496 := by
      rw [← Nat.pow_add, show m.log2 + (52 - m.log2) = 52 from by omega]
    have e2 : 2 ^ (m.log2 + 1) * 2 ^ (52 - m.log2) = 9007199254740992 := by
      rw [← Nat.pow_add, show m.log2 + 1 + (52 - m.log2) = 53 from by omega]
    have b1 : 4503599627370496 ≤ m * 2 ^ (52 - m.log2) := by rw [← e1]; exact Nat.mul_le_mul_right _ l1
    have b2 : m * 2 ^ (52 - m.log2) < 9007199254740992 := by rw [← e2]; exact Nat.mul_lt_mul_of_pos_right l2 (Nat.two_pow_pos _)
    refine ⟨(e - (52 - m.log2)) * 4503599627370496 + m * 2 ^ (52 - m.log2), ?_, ?_⟩
    · generalize m * 2 ^ (52 - m.log2) = K at b1 b2
      clear e1 e2 hx l1 l2
      omega
    · rw [pval_mk _ _ (by omega) (.inl b1), hx, Nat.mul_assoc, ← Nat.pow_add, show 52 - m.log2 + (e - (52 - m.log2)) = e by omega]

theorem Rep.zero : Rep 0 := ⟨0, by omega, by simp [pval]⟩

theorem rungOf_ge' {mag : Nat} {place : Int} {r k : Nat} (hk : 0 ≤ place + 1074 + k) (hr : r ≤ 9218868437227405312) (h : pval r * 2 ^ k ≤ mag * 2 ^ (place + 1074 + k).toNat) : r ≤ rungOf mag place := by
  refine rungOf_ge hr ?_
  have h1 := (pow_cancel (w := (-(place + 1074)).toNat)).2 h
  rw [show (place + 1074 + k).toNat + (-(place + 1074)).toNat = (place + 1074).toNat + k by omega, Nat.add_comm k] at h1
  exact pow_cancel.1 h1
theorem rungOf_le' {mag : Nat} {place : Int} {r k : Nat} (hk : 0 ≤ place + 1074 + k) (h : mag * 2 ^ (place + 1074 + k).toNat ≤ pval r * 2 ^ k) : rungOf mag place ≤ r := by
  refine rungOf_le_of ?_
  have h1 := (pow_cancel (w := (-(place + 1074)).toNat)).2 h
  rw [show (place + 1074 + k).toNat + (-(place + 1074)).toNat = (place + 1074).toNat + k by omega, Nat.add_comm k] at h1
  exact pow_cancel.1 h1

/-- Rounding keeps bounds that the format has. -/
theorem nearest_bd {neg : Bool} {mag : Nat} {place : Int} {lo hi : Int} (k : Nat) (hk : 0 ≤ place + 1074 + k) (rl : Rep lo) (rh : Rep hi)
    (h1 : lo * (2 ^ k : Nat) ≤ signed neg mag (place + 1074 + k).toNat) (h2 : signed neg mag (place + 1074 + k).toNat ≤ hi * (2 ^ k : Nat)) :
    ∃ v, V (Ieee.double.nearest neg mag place) v ∧ lo ≤ v ∧ v ≤ hi := by
  obtain ⟨a, ha, ea⟩ := rl
  obtain ⟨b, hb, eb⟩ := rh
  have hp : (0 : Int) < (2 ^ k : Nat) := Int.natCast_pos.2 (Nat.two_pow_pos k)
  rw [nearest_rung]
  unfold signed at h1 h2
  rw [Nat.shiftLeft_eq] at h1 h2
  cases neg
  · simp only [Bool.false_eq_true, if_false] at h1 h2
    have hhi : 0 ≤ hi := by
      by_cases h : 0 ≤ hi
      · exact h
      · exfalso
        have : hi * (2 ^ k : Nat) < 0 := Int.mul_neg_of_neg_of_pos (by omega) hp
        omega
    have e2 : hi = (pval b : Int) := by omega
    have k2 : rungOf mag place ≤ b := by
      refine rungOf_le' (k := k) hk ?_
      rw [e2] at h2
      exact Int.ofNat_le.1 (by rw [Int.natCast_mul (pval b)]; exact h2)
    refine ⟨(pval (rungOf mag place) : Int), ⟨false, _, by omega, rfl, by simp⟩, ?_, ?_⟩
    · by_cases hl : lo ≤ 0
      · omega
      · have e1 : lo = (pval a : Int) := by omega
        have k1 : a ≤ rungOf mag place := by
          refine rungOf_ge' (k := k) hk (by omega) ?_
          rw [e1] at h1
          exact Int.ofNat_le.1 (by rw [Int.natCast_mul (pval a)]; exact h1)
        have := pval_le_iff.2 k1
        omega
    · have := pval_le_iff.2 k2
      omega
  · simp only [if_true] at h1 h2
    have hlo : lo ≤ 0 := by
      by_cases h : lo ≤ 0
      · exact h
      · exfalso
        have : 0 < lo * (2 ^ k : Nat) := Int.mul_pos (by omega) hp
        omega
    have e2 : lo = -(pval a : Int) := by omega
    have k2 : rungOf mag place ≤ a := by
      refine rungOf_le' (k := k) hk ?_
      rw [e2, Int.neg_mul] at h1
      have h1' : ((mag * 2 ^ (place + 1074 + (k : Int)).toNat : Nat) : Int) ≤ (pval a : Int) * (2 ^ k : Nat) := by omega
      exact Int.ofNat_le.1 (by rw [Int.natCast_mul (pval a)]; exact h1')
    refine ⟨-(pval (rungOf mag place) : Int), ⟨true, _, by omega, rfl, by simp⟩, ?_, ?_⟩
    · have := pval_le_iff.2 k2
      omega
    · by_cases hl : 0 ≤ hi
      · omega
      · have e1 : hi = -(pval b : Int) := by omega
        have k1 : b ≤ rungOf mag place := by
          refine rungOf_ge' (k := k) hk (by omega) ?_
          rw [e1, Int.neg_mul] at h2
          have h2' : (pval b : Int) * (2 ^ k : Nat) ≤ ((mag * 2 ^ (place + 1074 + (k : Int)).toNat : Nat) : Int) := by omega
          exact Int.ofNat_le.1 (by rw [Int.natCast_mul (pval b)]; exact h2')
        have := pval_le_iff.2 k1
        omega

theorem signed_neg (s : Bool) (m a : Nat) : signed (!s) m a = -signed s m a := by
  unfold signed
  cases s <;> simp
theorem signed_dec (t : Int) (z : Bool) (a : Nat) : signed (if t = 0 then z else decide (t < 0)) t.natAbs a = t * (2 ^ a : Nat) := by
  unfold signed
  rw [Nat.shiftLeft_eq]
  by_cases h0 : t = 0
  · subst h0; simp
  · rw [if_neg h0]
    by_cases h : t < 0
    · have e : (t.natAbs : Int) = -t := by omega
      simp only [h, decide_true, if_true]
      rw [Int.natCast_mul, e, Int.neg_mul, Int.neg_neg]
    · have e : (t.natAbs : Int) = t := by omega
      simp only [h, decide_false, Bool.false_eq_true, if_false]
      rw [Int.natCast_mul, e]

theorem sum_bd {s t : Bool} {m n : Nat} {i j : Int} {lo hi : Int} (hi' : -1074 ≤ i) (hj : -1074 ≤ j) (rl : Rep lo) (rh : Rep hi)
    (h1 : lo ≤ signed s m (i + 1074).toNat + signed t n (j + 1074).toNat) (h2 : signed s m (i + 1074).toNat + signed t n (j + 1074).toNat ≤ hi) :
    ∃ r v, ((Datum.number s m i).sum (Datum.number t n j)).map Ieee.double.write = some r ∧ V r v ∧ lo ≤ v ∧ v ≤ hi := by
  unfold Datum.sum
  dsimp only
  rw [Option.map_some]
  have hmin : -1074 ≤ min i j := by omega
  have key : (signed s m (i - min i j).toNat + signed t n (j - min i j).toNat) * (2 ^ (min i j + 1074).toNat : Nat) = signed s m (i + 1074).toNat + signed t n (j + 1074).toNat := by
    rw [Int.add_mul, ← sgn_shift, ← sgn_shift]
    congr 2 <;> omega
  have e0 : (min i j + 1074 + (0 : Nat)).toNat = (min i j + 1074).toNat := by omega
  obtain ⟨v, hv, a, b⟩ := nearest_bd (neg := if signed s m (i - min i j).toNat + signed t n (j - min i j).toNat = 0 then s && t else decide (signed s m (i - min i j).toNat + signed t n (j - min i j).toNat < 0)) (mag := (signed s m (i - min i j).toNat + signed t n (j - min i j).toNat).natAbs) (place := min i j) 0 (by omega) rl rh
    (by rw [e0, signed_dec, key]; simpa using h1) (by rw [e0, signed_dec, key]; simpa using h2)
  exact ⟨_, v, rfl, hv, a, b⟩

theorem V.add {x y : Nat} {v u lo hi : Int} (hx : V x v) (hy : V y u) (rl : Rep lo) (rh : Rep hi) (h1 : lo ≤ v + u) (h2 : v + u ≤ hi) :
    ∃ r z, floatBits .add .f64 x y = some r ∧ V r z ∧ lo ≤ z ∧ z ≤ hi := by
  obtain ⟨s, m, i, e1, ⟨_, hi'⟩, rfl, _⟩ := hx.read
  obtain ⟨t, n, j, e2, ⟨_, hj⟩, rfl, _⟩ := hy.read
  have e : floatBits .add .f64 x y = ((Ieee.double.read x).sum (Ieee.double.read y)).map Ieee.double.write := rfl
  rw [e, e1, e2]
  exact sum_bd hi' hj rl rh h1 h2
theorem V.sub {x y : Nat} {v u lo hi : Int} (hx : V x v) (hy : V y u) (rl : Rep lo) (rh : Rep hi) (h1 : lo ≤ v - u) (h2 : v - u ≤ hi) :
    ∃ r z, floatBits .sub .f64 x y = some r ∧ V r z ∧ lo ≤ z ∧ z ≤ hi := by
  obtain ⟨s, m, i, e1, ⟨_, hi'⟩, rfl, _⟩ := hx.read
  obtain ⟨t, n, j, e2, ⟨_, hj⟩, rfl, _⟩ := hy.read
  have e : floatBits .sub .f64 x y = ((Ieee.double.read x).sum (Ieee.double.read y).opposite).map Ieee.double.write := rfl
  rw [e, e1, e2]
  exact sum_bd hi' hj rl rh (by rw [signed_neg]; omega) (by rw [signed_neg]; omega)

theorem signed_mul (s t : Bool) (m n a b : Nat) : signed (s ^^ t) (m * n) (a + b) = signed s m a * signed t n b := by
  unfold signed
  rw [Nat.shiftLeft_eq, Nat.shiftLeft_eq, Nat.shiftLeft_eq, Nat.pow_add]
  have e : m * n * (2 ^ a * 2 ^ b) = m * 2 ^ a * (n * 2 ^ b) := by
    simp only [Nat.mul_assoc, Nat.mul_left_comm]
  rw [e, Int.natCast_mul (m * 2 ^ a)]
  generalize ((m * 2 ^ a : Nat) : Int) = X
  generalize ((n * 2 ^ b : Nat) : Int) = Y
  cases s <;> cases t <;> simp [Int.neg_mul, Int.mul_neg]

theorem V.mul {x y : Nat} {v u lo hi : Int} (hx : V x v) (hy : V y u) (rl : Rep lo) (rh : Rep hi) (h1 : lo * (2 ^ 1074 : Nat) ≤ v * u) (h2 : v * u ≤ hi * (2 ^ 1074 : Nat)) :
    ∃ r z, floatBits .mul .f64 x y = some r ∧ V r z ∧ lo ≤ z ∧ z ≤ hi := by
  obtain ⟨s, m, i, e1, ⟨_, hi'⟩, rfl, _⟩ := hx.read
  obtain ⟨t, n, j, e2, ⟨_, hj⟩, rfl, _⟩ := hy.read
  have e : floatBits .mul .f64 x y = ((Ieee.double.read x).product (Ieee.double.read y)).map Ieee.double.write := rfl
  rw [e, e1, e2]
  have ek : (i + j + 1074 + (1074 : Nat)).toNat = (i + 1074).toNat + (j + 1074).toNat := by omega
  obtain ⟨z, hz, a, b⟩ := nearest_bd (neg := s ^^ t) (mag := m * n) (place := i + j) 1074 (by omega) rl rh (by rw [ek, signed_mul]; exact h1) (by rw [ek, signed_mul]; exact h2)
  exact ⟨_, z, rfl, hz, a, b⟩

/-- The order of two numbers. -/
theorem V.order {x y : Nat} {v u : Int} (hx : V x v) (hy : V y u) : FloatKind.f64.format.order x y = some (compare v u) := by
  obtain ⟨s, m, i, e1, ⟨_, hi'⟩, rfl, _⟩ := hx.read
  obtain ⟨t, n, j, e2, ⟨_, hj⟩, rfl, _⟩ := hy.read
  have e : FloatKind.f64.format.order x y = (Ieee.double.read x).order (Ieee.double.read y) := rfl
  rw [e, e1, e2]
  unfold Datum.order
  dsimp only
  have f1 : signed s m (i + 1074).toNat = signed s m (i - min i j).toNat * (2 ^ (min i j + 1074).toNat : Nat) := by
    rw [← sgn_shift]; congr 1; omega
  have f2 : signed t n (j + 1074).toNat = signed t n (j - min i j).toNat * (2 ^ (min i j + 1074).toNat : Nat) := by
    rw [← sgn_shift]; congr 1; omega
  rw [f1, f2]
  have hp : (0 : Int) < (2 ^ (min i j + 1074).toNat : Nat) := Int.natCast_pos.2 (Nat.two_pow_pos _)
  generalize ((2 ^ (min i j + 1074).toNat : Nat) : Int) = G at hp
  generalize signed s m (i - min i j).toNat = a
  generalize signed t n (j - min i j).toNat = b
  congr 1
  rcases Int.lt_trichotomy a b with h | h | h
  · rw [Int.compare_eq_lt.2 h, Int.compare_eq_lt.2 (Int.mul_lt_mul_of_pos_right h hp)]
  · subst h; simp [compare, compareOfLessAndEq]
  · rw [Int.compare_eq_gt.2 h, Int.compare_eq_gt.2 (Int.mul_lt_mul_of_pos_right h hp)]
end Go.Proofs.Ybulkawyi
