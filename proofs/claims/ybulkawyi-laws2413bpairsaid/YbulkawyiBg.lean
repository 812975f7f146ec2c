import Derived.Test.YbulkawyiBf
namespace Go.Proofs.Ybulkawyi
open Ieee
set_option linter.unusedVariables false
set_option exponentiation.threshold 3000

theorem rootFrom_spec (n : Nat) : ∀ todo root, root * root ≤ n → n < (root + 2 ^ todo) * (root + 2 ^ todo) →
    Datum.rootFrom n todo root * Datum.rootFrom n todo root ≤ n ∧ n < (Datum.rootFrom n todo root + 1) * (Datum.rootFrom n todo root + 1) := by
  intro todo
  induction todo with
  | zero => intro root h1 h2; exact ⟨h1, by simpa [Datum.rootFrom] using h2⟩
  | succ k ih =>
    intro root h1 h2
    unfold Datum.rootFrom
    dsimp only
    rw [Nat.one_shiftLeft]
    split
    · rename_i h
      refine ih _ h ?_
      rw [Nat.pow_succ] at h2
      rw [show root + 2 ^ k + 2 ^ k = root + 2 ^ k * 2 by omega]
      exact h2
    · rename_i h
      exact ih _ h1 (by omega)

theorem root_spec (n : Nat) : ∃ w, Datum.rootFrom n (n.log2 / 2 + 1) 0 = w ∧ w * w ≤ n ∧ n < (w + 1) * (w + 1) := by
  obtain ⟨a, b⟩ := rootFrom_spec n (n.log2 / 2 + 1) 0 (by omega) (by
    rw [Nat.zero_add, ← Nat.pow_add]
    have := @Nat.lt_log2_self n
    exact Nat.lt_of_lt_of_le this (Nat.pow_le_pow_right (by omega) (by omega)))
  exact ⟨_, rfl, a, b⟩

theorem N.sqrt {x D L H : Nat} (hx : N x D) (hD : D ≤ 274877906944) (hL : L * L ≤ D) (hH : D ≤ H * H) (rl : L < 9007199254740992) (rh : H < 9007199254740992) :
    ∃ r, FloatKind.f64.format.sqrt x = some r ∧ Bd r (L * 1048576) (H * 1048576) := by
  obtain ⟨s, m, i, e1, ⟨hm, hi'⟩, ev, _⟩ := V.read hx
  have e : FloatKind.f64.format.sqrt x = ((Ieee.double.read x).root 54).map Ieee.double.write := rfl
  rw [e, e1]
  have hv : m * 2 ^ (i + 1074).toNat = D * 2 ^ 1074 := by
    have := natAbs_signed s m (i + 1074).toNat
    rw [← ev] at this
    rw [← this, pow1074, Int.natAbs_mul, Int.natAbs_mul, Nat.mul_assoc]
    simp
  unfold Datum.root
  dsimp only
  by_cases h0 : m = 0
  · subst h0
    have hD0 : D = 0 := by
      rcases Nat.eq_zero_or_pos D with h | h
      · exact h
      · have := Nat.mul_pos h (Nat.two_pow_pos 1074)
        omega
    subst hD0
    have hL0 : L = 0 := by
      rcases Nat.eq_zero_or_pos L with h | h
      · exact h
      · have := Nat.mul_pos h h
        omega
    subst hL0
    rw [if_pos rfl, Option.map_some]
    have ew : Ieee.double.write (.number s 0 i) = Ieee.double.word s 0 := rfl
    rw [ew]
    refine ⟨_, rfl, 0, ⟨s, 0, by omega, rfl, by cases s <;> simp [pval]⟩, by simp, ?_⟩
    exact Int.mul_nonneg (by omega) (Int.natCast_nonneg _)
  · rw [if_neg h0]
    have hs : s = false := by
      refine signed_pos (m := m) (a := (i + 1074).toNat) ?_
      have h8 : signed s m (i + 1074).toNat ≠ 0 := by
        intro h9
        have := natAbs_signed s m (i + 1074).toNat
        rw [h9] at this
        have := Nat.mul_pos (Nat.pos_of_ne_zero h0) (Nat.two_pow_pos (i + 1074).toNat)
        simp only [Int.natAbs_zero] at *
        omega
      have h7 : 0 ≤ signed s m (i + 1074).toNat := by
        rw [← ev]
        exact Int.mul_nonneg (by omega) (Int.natCast_nonneg _)
      omega
    subst hs
    rw [if_neg (by simp), Option.map_some]
    have l1 := Nat.log2_self_le h0
    have hLg : m.log2 < 53 := (Nat.log2_lt h0).2 hm
    have g1 : (m.log2 : Int) + i ≤ 38 := by
      have h3 : 2 ^ (m.log2 + (i + 1074).toNat) ≤ 2 ^ (38 + 1074) := by
        rw [Nat.pow_add 2 m.log2, Nat.pow_add 2 38 1074]
        refine Nat.le_trans (Nat.mul_le_mul_right _ l1) ?_
        rw [hv]
        generalize 2 ^ 1074 = Z
        exact Nat.mul_le_mul_right Z (show D ≤ 2 ^ 38 from hD)
      have h4 := (Nat.pow_le_pow_iff_right (by omega : 1 < 2)).1 h3
      omega
    generalize hmo : 2 * 54 - m.log2 + ((i - (2 * 54 - m.log2 : Nat)) % 2).toNat = more
    have hmo' : (more : Int) ≥ 108 - m.log2 ∧ (i - more) % 2 = 0 := by omega
    obtain ⟨g, hg⟩ : ∃ g : Nat, (more : Int) - i = 2 * g := ⟨((more : Int) - i).toNat / 2, by omega⟩
    rw [Nat.shiftLeft_eq]
    have hn : m * 2 ^ more = D * 2 ^ (2 * g) := by
      refine Nat.eq_of_mul_eq_mul_right (Nat.two_pow_pos (i + 1074).toNat) ?_
      have a1 : m * 2 ^ more * 2 ^ (i + 1074).toNat = m * 2 ^ (i + 1074).toNat * 2 ^ more := by
        simp only [Nat.mul_assoc, Nat.mul_left_comm, Nat.mul_comm]
      rw [a1, hv, Nat.mul_assoc, Nat.mul_assoc, ← Nat.pow_add, ← Nat.pow_add]
      congr 2
      omega
    rw [hn]
    obtain ⟨w, ew, w1, w2⟩ := root_spec (D * 2 ^ (2 * g))
    rw [ew]
    have hsq : ∀ z : Nat, z * 2 ^ g * (z * 2 ^ g) = z * z * 2 ^ (2 * g) := by
      intro z
      rw [show 2 * g = g + g by omega, Nat.pow_add]
      simp only [Nat.mul_assoc, Nat.mul_left_comm]
    have cl : L * 2 ^ g ≤ w := by
      have h5 : L * 2 ^ g * (L * 2 ^ g) < (w + 1) * (w + 1) := by
        rw [hsq]
        exact Nat.lt_of_le_of_lt (Nat.mul_le_mul_right _ hL) w2
      have := Nat.mul_self_lt_mul_self_iff.1 h5
      omega
    have ch : 2 * w + (w * w != D * 2 ^ (2 * g)).toNat ≤ 2 * (H * 2 ^ g) := by
      by_cases hw : w * w = D * 2 ^ (2 * g)
      · have h5 : w * w ≤ H * 2 ^ g * (H * 2 ^ g) := by
          rw [hsq, hw]
          exact Nat.mul_le_mul_right _ hH
        have := Nat.mul_self_le_mul_self_iff.1 h5
        rw [hw]
        simp
        omega
      · have h5 : w * w < H * 2 ^ g * (H * 2 ^ g) := by
          rw [hsq]
          exact Nat.lt_of_lt_of_le (by omega) (Nat.mul_le_mul_right _ hH)
        have := Nat.mul_self_lt_mul_self_iff.1 h5
        have hb : ∀ b : Bool, b.toNat ≤ 1 := fun b => by cases b <;> decide
        have := hb (w * w != D * 2 ^ (2 * g))
        omega
    have cl' : 2 * (L * 2 ^ g) ≤ 2 * w + (w * w != D * 2 ^ (2 * g)).toNat := by omega
    generalize 2 * w + (w * w != D * 2 ^ (2 * g)).toNat = Q at cl' ch
    have epl : (i - (more : Int)) / 2 - 1 = -(g : Int) - 1 := by omega
    rw [epl]
    have hss : ∀ z : Nat, (z : Int) * 1048576 * Sc * (2 ^ g : Nat) = ((z * 2 ^ g * 2 ^ 1074 : Nat) : Int) := by
      intro z
      rw [pow1074, Int.natCast_mul (z * 2 ^ g), Int.natCast_mul z, Int.natCast_mul 1048576]
      generalize ((2 ^ g : Nat) : Int) = G
      simp only [Int.mul_assoc, Int.mul_left_comm, Int.mul_comm]
      rfl
    have ek : (-(g : Int) - 1 + 1074 + ((g + 1 : Nat) : Int)).toNat = 1074 := by omega
    have es : ∀ q : Nat, signed false q 1074 = ((q * 2 ^ 1074 : Nat) : Int) := by
      intro q
      unfold signed
      rw [Nat.shiftLeft_eq]
      rfl
    have e2 : ∀ z : Nat, (z : Int) * 1048576 * Sc * (2 ^ (g + 1) : Nat) = ((2 * (z * 2 ^ g) * 2 ^ 1074 : Nat) : Int) := by
      intro z
      rw [Nat.pow_succ, Int.natCast_mul (2 ^ g), ← Int.mul_assoc, hss, Nat.mul_assoc 2, Int.natCast_mul 2, Int.mul_comm]
    have rL : RS ((L : Int) * 1048576) := RS.whole (by simpa using rl)
    have rH : RS ((H : Int) * 1048576) := RS.whole (by simpa using rh)
    obtain ⟨v, hv', a, b⟩ := nearest_bd (neg := false) (mag := Q) (place := -(g : Int) - 1) (g + 1) (by omega) rL.rep rH.rep
      (by rw [ek, es, e2]; exact Int.ofNat_le.2 (Nat.mul_le_mul_right _ cl')) (by rw [ek, es, e2]; exact Int.ofNat_le.2 (Nat.mul_le_mul_right _ ch))
    exact ⟨_, rfl, v, hv', a, b⟩
end Go.Proofs.Ybulkawyi
