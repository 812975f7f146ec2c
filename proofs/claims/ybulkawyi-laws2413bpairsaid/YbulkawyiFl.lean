import Derived.Test.YbulkawyiFloat
namespace Go.Proofs.Ybulkawyi
open Ieee
set_option linter.unusedVariables false

/-! ### rounding keeps bounds that the format has -/
theorem cut_ge {n d j : Nat} (h : j * 2 ^ d ≤ n) : j ≤ Toward.even.cut false n d := by
  unfold Toward.cut
  dsimp only
  by_cases hd : d ≤ n.log2 + 2
  · rw [Nat.min_eq_left hd, Nat.one_shiftLeft]
    have : j ≤ n / 2 ^ d := (Nat.le_div_iff_mul_le (Nat.two_pow_pos d)).2 h
    omega
  · have hj : j = 0 := by
      rcases Nat.eq_zero_or_pos j with h0 | h0
      · exact h0
      · exfalso
        have h1 : 2 ^ d ≤ j * 2 ^ d := Nat.le_mul_of_pos_left _ h0
        have h2 := @Nat.lt_log2_self n
        have h3 : 2 ^ (n.log2 + 1) ≤ 2 ^ d := Nat.pow_le_pow_right (by omega) (by omega)
        omega
    subst hj
    exact Nat.zero_le _
theorem cut_le {n d j : Nat} (h : n ≤ j * 2 ^ d) : Toward.even.cut false n d ≤ j := by
  unfold Toward.cut
  dsimp only
  by_cases hd : d ≤ n.log2 + 2
  · rw [Nat.min_eq_left hd, Nat.one_shiftLeft]
    have hp : 0 < 2 ^ d := Nat.two_pow_pos d
    have hdm := Nat.div_add_mod n (2 ^ d)
    have hm := Nat.mod_lt n hp
    generalize n / 2 ^ d = q at hdm ⊢
    generalize n % 2 ^ d = t at hdm hm ⊢
    generalize 2 ^ d = G at hdm hm hp h ⊢
    have hq : q * G + t ≤ j * G := by rw [Nat.mul_comm q G]; omega
    by_cases ht : t = 0
    · subst ht
      have : q ≤ j := by
        have h9 : q * G ≤ j * G := by omega
        exact Nat.le_of_mul_le_mul_right h9 hp
      have hz : (decide (G < 2 * 0) || G == 2 * 0 && q % 2 == 1) = false := by
        have h1 : decide (G < 2 * 0) = false := by simp
        have h2 : (G == 2 * 0) = false := by rw [beq_eq_false_iff_ne]; omega
        rw [h1, h2]; rfl
      rw [hz]
      simpa using this
    · have hlt : q * G < j * G := by omega
      have : q < j := Nat.lt_of_mul_lt_mul_right hlt
      have hb : ∀ b : Bool, b.toNat ≤ 1 := fun b => by cases b <;> decide
      have := hb (decide (G < 2 * t) || G == 2 * t && q % 2 == 1)
      omega
  · rw [Nat.min_eq_right (by omega), Nat.one_shiftLeft]
    have h2 := @Nat.lt_log2_self n
    have e : 2 ^ (n.log2 + 2) = 2 * 2 ^ (n.log2 + 1) := by rw [Nat.pow_succ 2 (n.log2 + 1), Nat.mul_comm]
    rw [e]
    generalize 2 ^ (n.log2 + 1) = G at h2
    have hq : n / (2 * G) = 0 := Nat.div_eq_of_lt (by omega)
    have hr : n % (2 * G) = n := Nat.mod_eq_of_lt (by omega)
    rw [hq, hr]
    have h1 : decide (2 * G < 2 * n) = false := by simp; omega
    have h3 : (2 * G == 2 * n) = false := by rw [beq_eq_false_iff_ne]; omega
    rw [h1, h3]
    simp

/-- The magnitude of a rung, in units of 2 ^ -1074. -/
def pval (r : Nat) : Nat := if r < 4503599627370496 then r else (4503599627370496 + r % 4503599627370496) * 2 ^ (r / 4503599627370496 - 1)

theorem pval_step (r : Nat) : pval r < pval (r + 1) := by
  unfold pval
  by_cases h : r < 4503599627370496
  · rw [if_pos h]
    by_cases h2 : r + 1 < 4503599627370496
    · rw [if_pos h2]; omega
    · rw [if_neg h2]
      have e : r = 4503599627370495 := by omega
      subst e
      decide
  · rw [if_neg h, if_neg (by omega)]
    have h1 := Nat.div_add_mod r 4503599627370496
    have h2 := Nat.mod_lt r (show 0 < 4503599627370496 by omega)
    by_cases hc : r % 4503599627370496 = 4503599627370495
    · have e1 : (r + 1) % 4503599627370496 = 0 := by omega
      have e2 : (r + 1) / 4503599627370496 = r / 4503599627370496 + 1 := by omega
      rw [e1, e2, hc]
      obtain ⟨k, hk⟩ : ∃ k, r / 4503599627370496 = k + 1 := ⟨r / 4503599627370496 - 1, by omega⟩
      rw [hk]
      have e3 : k + 1 + 1 - 1 = k + 1 := by omega
      have e4 : k + 1 - 1 = k := by omega
      rw [e3, e4, Nat.pow_succ]
      have hp : 0 < 2 ^ k := Nat.two_pow_pos k
      generalize 2 ^ k = P at hp
      omega
    · have e1 : (r + 1) % 4503599627370496 = r % 4503599627370496 + 1 := by omega
      have e2 : (r + 1) / 4503599627370496 = r / 4503599627370496 := by omega
      rw [e1, e2]
      exact Nat.mul_lt_mul_of_pos_right (by omega) (Nat.two_pow_pos _)
theorem pval_lt {r s : Nat} (h : r < s) : pval r < pval s := by
  induction s with
  | zero => omega
  | succ s ih =>
    by_cases hs : r = s
    · subst hs; exact pval_step r
    · exact Nat.lt_trans (ih (by omega)) (pval_step s)
theorem pval_le_iff {r s : Nat} : pval r ≤ pval s ↔ r ≤ s := by
  constructor
  · intro h
    rcases Nat.lt_or_ge s r with h' | h'
    · have := pval_lt h'; omega
    · exact h'
  · intro h
    rcases Nat.lt_or_ge r s with h' | h'
    · exact Nat.le_of_lt (pval_lt h')
    · have : r = s := by omega
      subst this; exact Nat.le_refl _
/-- A rung from a significand and an exponent. -/
theorem pval_mk (E K : Nat) (hK : K ≤ 9007199254740992) (h : 4503599627370496 ≤ K ∨ E = 0) : pval (E * 4503599627370496 + K) = K * 2 ^ E := by
  unfold pval
  by_cases h1 : K < 4503599627370496
  · have hE : E = 0 := by omega
    subst hE
    rw [if_pos (by omega)]
    simp
  · rw [if_neg (by omega)]
    by_cases h2 : K = 9007199254740992
    · subst h2
      have e1 : (E * 4503599627370496 + 9007199254740992) % 4503599627370496 = 0 := by omega
      have e2 : (E * 4503599627370496 + 9007199254740992) / 4503599627370496 = E + 2 := by omega
      rw [e1, e2, show E + 2 - 1 = E + 1 by omega, Nat.pow_succ]
      generalize 2 ^ E = P
      omega
    · have e1 : (E * 4503599627370496 + K) % 4503599627370496 = K - 4503599627370496 := by omega
      have e2 : (E * 4503599627370496 + K) / 4503599627370496 = E + 1 := by omega
      rw [e1, e2, show E + 1 - 1 = E by omega, show 4503599627370496 + (K - 4503599627370496) = K by omega]

theorem pow_cancel {a b u v w : Nat} : a * 2 ^ (u + w) ≤ b * 2 ^ (v + w) ↔ a * 2 ^ u ≤ b * 2 ^ v := by
  rw [Nat.pow_add, Nat.pow_add, ← Nat.mul_assoc, ← Nat.mul_assoc]
  exact ⟨fun h => Nat.le_of_mul_le_mul_right h (Nat.two_pow_pos w), fun h => Nat.mul_le_mul_right _ h⟩

/-- The parts of a rounding. -/
theorem rungOf_form (mag : Nat) (place : Int) (h0 : mag ≠ 0) :
    ∃ E K s d : Nat, rungOf mag place = min (E * 4503599627370496 + K) 9218868437227405312 ∧ K = Toward.even.cut false (mag * 2 ^ s) d ∧ K ≤ 9007199254740992 ∧ (4503599627370496 ≤ K ∨ E = 0) ∧ (place + 1074 = (s : Int) - d + E) ∧ (s = 0 ∨ d = 0) ∧ (E ≠ 0 → 4503599627370496 * 2 ^ d ≤ mag * 2 ^ s) := by
  have l1 := Nat.log2_self_le h0
  have l2 := @Nat.lt_log2_self mag
  refine ⟨(max (place + mag.log2 - 52) (-1074) + 1074).toNat, _, (place - max (place + mag.log2 - 52) (-1074)).toNat, (max (place + mag.log2 - 52) (-1074) - place).toNat, ?_, rfl, ?_, ?_, by omega, by omega, ?_⟩
  · unfold rungOf
    rw [if_neg h0, Nat.shiftLeft_eq]
  · refine cut_le ?_
    have e : (9007199254740992 : Nat) = 2 ^ 53 := by decide
    rw [e, ← Nat.pow_add]
    have h1 : mag * 2 ^ (place - max (place + mag.log2 - 52) (-1074)).toNat ≤ 2 ^ (mag.log2 + 1) * 2 ^ (place - max (place + mag.log2 - 52) (-1074)).toNat := Nat.mul_le_mul_right _ (Nat.le_of_lt l2)
    rw [← Nat.pow_add] at h1
    exact Nat.le_trans h1 (Nat.pow_le_pow_right (by omega) (by omega))
  · by_cases hE : (max (place + mag.log2 - 52) (-1074) + 1074).toNat = 0
    · exact .inr hE
    · left
      refine cut_ge ?_
      have e : (4503599627370496 : Nat) = 2 ^ 52 := by decide
      rw [e, ← Nat.pow_add]
      have h1 : 2 ^ mag.log2 * 2 ^ (place - max (place + mag.log2 - 52) (-1074)).toNat ≤ mag * 2 ^ (place - max (place + mag.log2 - 52) (-1074)).toNat := Nat.mul_le_mul_right _ l1
      rw [← Nat.pow_add] at h1
      exact Nat.le_trans (Nat.pow_le_pow_right (by omega) (by omega)) h1
  · intro hE
    have e : (4503599627370496 : Nat) = 2 ^ 52 := by decide
    rw [e, ← Nat.pow_add]
    have h1 : 2 ^ mag.log2 * 2 ^ (place - max (place + mag.log2 - 52) (-1074)).toNat ≤ mag * 2 ^ (place - max (place + mag.log2 - 52) (-1074)).toNat := Nat.mul_le_mul_right _ l1
    rw [← Nat.pow_add] at h1
    exact Nat.le_trans (Nat.pow_le_pow_right (by omega) (by omega)) h1

theorem rung_parts (r : Nat) : ∃ e k, r = e * 4503599627370496 + k ∧ pval r = k * 2 ^ e ∧ k < 9007199254740992 ∧ (4503599627370496 ≤ k ∨ e = 0) := by
  by_cases h : r < 4503599627370496
  · exact ⟨0, r, by omega, by unfold pval; rw [if_pos h]; simp, by omega, .inr rfl⟩
  · refine ⟨r / 4503599627370496 - 1, 4503599627370496 + r % 4503599627370496, by omega, by unfold pval; rw [if_neg h], by omega, .inl (by omega)⟩

/-- A bound that the format has is kept by rounding: from below. -/
theorem rungOf_ge {mag : Nat} {place : Int} {r : Nat} (hr : r ≤ 9218868437227405312) (h : pval r * 2 ^ (-(place + 1074)).toNat ≤ mag * 2 ^ (place + 1074).toNat) : r ≤ rungOf mag place := by
  by_cases h0 : mag = 0
  · subst h0
    rw [Nat.zero_mul] at h
    have hz : pval r = 0 := by
      have := Nat.two_pow_pos (-(place + 1074)).toNat
      rcases Nat.eq_zero_or_pos (pval r) with h1 | h1
      · exact h1
      · have := Nat.mul_pos h1 this; omega
    have : r ≤ 0 := by
      rw [← pval_le_iff, hz]; exact Nat.zero_le _
    omega
  · obtain ⟨E, K, s, d, e1, e2, hK, hKE, hp, hsd, hbig⟩ := rungOf_form mag place h0
    obtain ⟨e, k, er, ep, hk, hke⟩ := rung_parts r
    rw [e1]
    refine Nat.le_min.2 ⟨?_, hr⟩
    by_cases heE : E ≤ e
    · have h1 : k * 2 ^ (e - E + d) ≤ mag * 2 ^ s := by
        have h2 : k * 2 ^ (e + (-(place + 1074)).toNat) ≤ mag * 2 ^ (place + 1074).toNat := by
          rw [ep, Nat.mul_assoc, ← Nat.pow_add] at h
          exact h
        have h3 := (pow_cancel (a := k) (b := mag) (u := e + (-(place + 1074)).toNat) (v := (place + 1074).toNat) (w := d)).2 h2
        rw [show e + (-(place + 1074)).toNat + d = e - E + d + ((-(place + 1074)).toNat + E) by omega, show (place + 1074).toNat + d = s + ((-(place + 1074)).toNat + E) by omega] at h3
        exact pow_cancel.1 h3
      rw [Nat.pow_add, ← Nat.mul_assoc] at h1
      have h4 := cut_ge h1
      rw [← e2] at h4
      rw [← pval_le_iff, ep, pval_mk E K hK hKE]
      have h5 : k * 2 ^ (e - E) * 2 ^ E ≤ K * 2 ^ E := Nat.mul_le_mul_right _ h4
      rw [Nat.mul_assoc, ← Nat.pow_add, show e - E + E = e by omega] at h5
      exact h5
    · have : 4503599627370496 ≤ K := by omega
      omega
/-- .. from above. -/
theorem rungOf_le_of {mag : Nat} {place : Int} {r : Nat} (h : mag * 2 ^ (place + 1074).toNat ≤ pval r * 2 ^ (-(place + 1074)).toNat) : rungOf mag place ≤ r := by
  by_cases h0 : mag = 0
  · subst h0
    have : rungOf 0 place = 0 := by unfold rungOf; rw [if_pos rfl]
    omega
  · obtain ⟨E, K, s, d, e1, e2, hK, hKE, hp, hsd, hbig⟩ := rungOf_form mag place h0
    obtain ⟨e, k, er, ep, hk, hke⟩ := rung_parts r
    rw [e1]
    refine Nat.le_trans (Nat.min_le_left _ _) ?_
    have h2 : mag * 2 ^ (place + 1074).toNat ≤ k * 2 ^ (e + (-(place + 1074)).toNat) := by
      rw [ep, Nat.mul_assoc, ← Nat.pow_add] at h
      exact h
    have h3 := (pow_cancel (a := mag) (b := k) (u := (place + 1074).toNat) (v := e + (-(place + 1074)).toNat) (w := d)).2 h2
    by_cases heE : E ≤ e
    · have h1 : mag * 2 ^ s ≤ k * 2 ^ (e - E + d) := by
        rw [show e + (-(place + 1074)).toNat + d = e - E + d + ((-(place + 1074)).toNat + E) by omega, show (place + 1074).toNat + d = s + ((-(place + 1074)).toNat + E) by omega] at h3
        exact pow_cancel.1 h3
      rw [Nat.pow_add, ← Nat.mul_assoc] at h1
      have h4 := cut_le h1
      rw [← e2] at h4
      rw [← pval_le_iff, ep, pval_mk E K hK hKE]
      have h5 : K * 2 ^ E ≤ k * 2 ^ (e - E) * 2 ^ E := Nat.mul_le_mul_right _ h4
      rw [Nat.mul_assoc, ← Nat.pow_add, show e - E + E = e by omega] at h5
      exact h5
    · exfalso
      have hb := hbig (by omega)
      have h6 : mag * 2 ^ (s + ((-(place + 1074)).toNat + E)) ≤ k * 2 ^ (e + (-(place + 1074)).toNat + d) := by
        rw [show s + ((-(place + 1074)).toNat + E) = (place + 1074).toNat + d by omega]
        exact h3
      have h7 := (pow_cancel (a := 4503599627370496) (b := mag) (u := d) (v := s) (w := (-(place + 1074)).toNat + E)).2 hb
      have h8 := Nat.le_trans h7 h6
      rw [show d + ((-(place + 1074)).toNat + E) = (E - e) + (e + (-(place + 1074)).toNat + d) by omega] at h8
      generalize e + (-(place + 1074)).toNat + d = Y at h8
      have ez : k * 2 ^ Y = k * 2 ^ (0 + Y) := by rw [Nat.zero_add]
      rw [ez] at h8
      have h9 := pow_cancel.1 h8
      have h10 : 2 ^ 1 ≤ 2 ^ (E - e) := Nat.pow_le_pow_right (by omega) (by omega)
      have h11 : 4503599627370496 * 2 ^ 1 ≤ 4503599627370496 * 2 ^ (E - e) := Nat.mul_le_mul_left _ h10
      simp only [Nat.pow_zero, Nat.mul_one] at h9
      omega
end Go.Proofs.Ybulkawyi
