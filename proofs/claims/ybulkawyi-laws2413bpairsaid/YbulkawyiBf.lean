import Derived.Test.YbulkawyiBe
namespace Go.Proofs.Ybulkawyi
open Ieee
set_option linter.unusedVariables false

/-- A rung for a bound. -/
theorem RS.rung {z : Nat} (h : RS z) : ∃ r, r < 9218868437227405312 ∧ pval r = z * Sc := by
  obtain ⟨r, h1, h2⟩ := h.rep
  refine ⟨r, h1, ?_⟩
  rw [← h2, Int.natAbs_mul]
  simp

theorem sticky_ge {D n L : Nat} (hn : 0 < n) (h : L * n ≤ D) : 2 * L ≤ 2 * (D / n) + (D % n != 0).toNat := by
  have := (Nat.le_div_iff_mul_le hn).2 h
  omega
theorem sticky_le {D n H : Nat} (hn : 0 < n) (h : D ≤ H * n) : 2 * (D / n) + (D % n != 0).toNat ≤ 2 * H := by
  have hd := Nat.div_add_mod D n
  have hm := Nat.mod_lt D hn
  generalize D / n = q at hd ⊢
  generalize D % n = t at hd hm ⊢
  by_cases ht : t = 0
  · subst ht
    have h9 : q * n ≤ H * n := by rw [Nat.mul_comm q n]; omega
    have := Nat.le_of_mul_le_mul_right h9 hn
    simp
    omega
  · have h9 : q * n < H * n := by rw [Nat.mul_comm q n]; omega
    have := Nat.lt_of_mul_lt_mul_right h9
    have hb : ∀ b : Bool, b.toNat ≤ 1 := fun b => by cases b <;> decide
    have := hb (t != 0)
    omega

theorem quo_core {m n lo hi : Nat} {i j : Int} (s t : Bool) (hm : m < 9007199254740992) (hi' : -1074 ≤ i) (hj : -1074 ≤ j) (h1 : m * 2 ^ (i + 1074).toNat ≤ 1099511627776 * Sc) (h2 : 1048576 * Sc ≤ n * 2 ^ (j + 1074).toNat)
    (rl : RS lo) (rh : RS hi) (hlo : lo * (n * 2 ^ (j + 1074).toNat) ≤ m * 2 ^ (i + 1074).toNat * 1048576) (hhi : m * 2 ^ (i + 1074).toNat * 1048576 ≤ hi * (n * 2 ^ (j + 1074).toNat)) :
    ∃ r, r < 9218868437227405312 ∧ ((Datum.number s m i).quotient 54 (Datum.number t n j)).map Ieee.double.write = some (Ieee.double.word (s ^^ t) r) ∧ lo * Sc ≤ pval r ∧ pval r ≤ hi * Sc ∧ (m = 0 → r = 0) := by
  have hn : 0 < n := by
    rcases Nat.eq_zero_or_pos n with h | h
    · subst h
      have := Sc_pos
      omega
    · exact h
  unfold Datum.quotient
  dsimp only
  rw [if_neg (by omega), Option.map_some]
  have ew : ∀ M pl, Ieee.double.write (.number (s ^^ t) M pl) = Ieee.double.word (s ^^ t) (rungOf M pl) := fun M pl => nearest_rung _ _ _
  rw [ew]
  obtain ⟨a, ha, ea⟩ := rl.rung
  obtain ⟨b, hb, eb⟩ := rh.rung
  have hP : 0 < n * 2 ^ (j + 1074).toNat := Nat.mul_pos hn (Nat.two_pow_pos _)
  by_cases h0 : m = 0
  · subst h0
    have hl0 : lo = 0 := by
      rcases Nat.eq_zero_or_pos lo with h | h
      · exact h
      · have := Nat.mul_pos h hP
        omega
    have er : ∀ e pl, rungOf (2 * (0 <<< e / n) + (0 <<< e % n != 0).toNat) pl = 0 := by
      intro e pl
      simp [rungOf]
    refine ⟨0, by omega, by rw [er], ?_, ?_, fun _ => rfl⟩
    · rw [hl0]; simp
    · simp [pval]
  · have l1 := Nat.log2_self_le h0
    have l2 := @Nat.lt_log2_self n
    have hL : m.log2 < 53 := (Nat.log2_lt h0).2 hm
    have g1 : (m.log2 : Int) + i ≤ 20 := by
      have h3 : 2 ^ (m.log2 + (i + 1074).toNat) ≤ 2 ^ (40 + 1054) := by
        rw [Nat.pow_add]
        refine Nat.le_trans (Nat.mul_le_mul_right _ l1) (Nat.le_trans h1 ?_)
        have e : ∀ S c : Nat, S = 2 ^ c → 1099511627776 * S = 2 ^ (40 + c) := fun S c h => by rw [h, Nat.pow_add]
        rw [e Sc 1054 Sc.eq_1]
        exact Nat.le_refl _
      have h4 := (Nat.pow_le_pow_iff_right (by omega : 1 < 2)).1 h3
      omega
    have g2 : 0 ≤ (n.log2 : Int) + j := by
      have h3 : 2 ^ 1074 < 2 ^ (n.log2 + 1 + (j + 1074).toNat) := by
        rw [Nat.pow_add 2 (n.log2 + 1), pow1074]
        exact Nat.lt_of_le_of_lt h2 (Nat.mul_lt_mul_of_pos_right l2 (Nat.two_pow_pos _))
      have h4 := (Nat.pow_lt_pow_iff_right (by omega : 1 < 2)).1 h3
      omega
    generalize hmo : 54 + n.log2 - m.log2 = more
    have hmo' : (more : Int) = 54 + n.log2 - m.log2 := by omega
    rw [Nat.shiftLeft_eq]
    -- the grid
    obtain ⟨g, hg⟩ : ∃ g : Nat, (g : Int) = more - i + j - 20 := ⟨(more - i + j - 20 : Int).toNat, by omega⟩
    have hcut : ∀ z : Nat, z * 2 ^ g * n * 2 ^ ((i + 1074).toNat + 20) = z * (n * 2 ^ (j + 1074).toNat) * 2 ^ more := by
      intro z
      have e : g + ((i + 1074).toNat + 20) = (j + 1074).toNat + more := by omega
      have : z * 2 ^ g * n * 2 ^ ((i + 1074).toNat + 20) = z * n * 2 ^ (g + ((i + 1074).toNat + 20)) := by
        rw [Nat.pow_add 2 g]
        simp only [Nat.mul_assoc, Nat.mul_left_comm]
      rw [this, e, Nat.pow_add]
      simp only [Nat.mul_assoc]
    have hmm : m * 2 ^ more * 2 ^ ((i + 1074).toNat + 20) = m * 2 ^ (i + 1074).toNat * 1048576 * 2 ^ more := by
      rw [Nat.pow_add 2 (i + 1074).toNat 20, show (2 : Nat) ^ 20 = 1048576 from rfl]
      generalize 2 ^ more = A
      generalize 2 ^ (i + 1074).toNat = B
      simp only [Nat.mul_assoc, Nat.mul_left_comm, Nat.mul_comm]
    have cl : lo * 2 ^ g * n ≤ m * 2 ^ more := by
      refine Nat.le_of_mul_le_mul_right (c := 2 ^ ((i + 1074).toNat + 20)) ?_ (Nat.two_pow_pos _)
      rw [hcut, hmm]
      exact Nat.mul_le_mul_right _ hlo
    have ch : m * 2 ^ more ≤ hi * 2 ^ g * n := by
      refine Nat.le_of_mul_le_mul_right (c := 2 ^ ((i + 1074).toNat + 20)) ?_ (Nat.two_pow_pos _)
      rw [hcut, hmm]
      exact Nat.mul_le_mul_right _ hhi
    have sl := sticky_ge hn cl
    have sh := sticky_le hn ch
    generalize 2 * (m * 2 ^ more / n) + (m * 2 ^ more % n != 0).toNat = Q at sl sh
    have hs : ∀ z k e : Nat, g + 1 + e = 1054 + k → z * Sc * 2 ^ k = 2 * (z * 2 ^ g) * 2 ^ e := by
      intro z k e he
      have e1 : z * Sc * 2 ^ k = z * 2 ^ (1054 + k) := by rw [Sc.eq_1, Nat.mul_assoc, Nat.pow_add]
      rw [e1, ← he, Nat.pow_add, Nat.pow_add]
      generalize 2 ^ g = A
      generalize 2 ^ e = B
      simp only [Nat.mul_assoc, Nat.mul_left_comm, Nat.pow_one]
    obtain ⟨k, hk⟩ : ∃ k : Nat, 0 ≤ i - j - more - 1 + 1074 + k := ⟨(-(i - j - more - 1 + 1074)).toNat, by omega⟩
    have he : g + 1 + (i - j - more - 1 + 1074 + k).toNat = 1054 + k := by omega
    have ka : a ≤ rungOf Q (i - j - more - 1) := by
      refine rungOf_ge' (k := k) hk (by omega) ?_
      rw [ea, hs lo k _ he]
      exact Nat.mul_le_mul_right _ sl
    have kb : rungOf Q (i - j - more - 1) ≤ b := by
      refine rungOf_le' (k := k) hk ?_
      rw [eb, hs hi k _ he]
      exact Nat.mul_le_mul_right _ sh
    refine ⟨_, by omega, rfl, ?_, ?_, fun h => absurd h h0⟩
    · rw [← ea]; exact pval_le_iff.2 ka
    · rw [← eb]; exact pval_le_iff.2 kb

theorem natAbs_signed (s : Bool) (m a : Nat) : (signed s m a).natAbs = m * 2 ^ a := by
  unfold signed
  rw [Nat.shiftLeft_eq]
  cases s <;> simp only [if_true, Bool.false_eq_true, if_false, Int.natAbs_neg, Int.natAbs_natCast]
theorem signed_pos {s : Bool} {m a : Nat} (h : 0 < signed s m a) : s = false := by
  unfold signed at h
  generalize m <<< a = M at h
  cases s
  · rfl
  · simp only [if_true] at h
    omega
theorem signed_lt {s : Bool} {m a : Nat} (h : signed s m a < 0) : s = true := by
  unfold signed at h
  generalize m <<< a = M at h
  cases s
  · simp only [Bool.false_eq_true, if_false] at h
    omega
  · rfl

/-- A quotient, by magnitudes. -/
theorem V.quo {x y lo hi : Nat} {v u : Int} (hx : V x v) (hy : V y u) (h1 : v.natAbs ≤ 1099511627776 * Sc) (h2 : 1048576 * Sc ≤ u.natAbs) (rl : RS lo) (rh : RS hi) (hlo : lo * u.natAbs ≤ v.natAbs * 1048576) (hhi : v.natAbs * 1048576 ≤ hi * u.natAbs) :
    ∃ r z, floatBits .quo .f64 x y = some r ∧ V r z ∧ lo * Sc ≤ z.natAbs ∧ z.natAbs ≤ hi * Sc ∧ ((0 ≤ v ∧ 0 < u ∨ v ≤ 0 ∧ u < 0) → 0 ≤ z) := by
  obtain ⟨s, m, i, e1, ⟨hm, hi'⟩, rfl, _⟩ := hx.read
  obtain ⟨t, n, j, e2, ⟨_, hj⟩, rfl, _⟩ := hy.read
  have e : floatBits .quo .f64 x y = ((Ieee.double.read x).quotient 54 (Ieee.double.read y)).map Ieee.double.write := rfl
  rw [e, e1, e2]
  rw [natAbs_signed] at h1 h2 hlo hhi
  rw [natAbs_signed] at hlo hhi
  obtain ⟨r, hr, er, k1, k2, k3⟩ := quo_core s t hm hi' hj h1 h2 rl rh hlo hhi
  refine ⟨_, _, er, ⟨s ^^ t, r, hr, rfl, rfl⟩, ?_, ?_, ?_⟩
  · split <;> omega
  · split <;> omega
  · intro h
    by_cases h0 : m = 0
    · rw [k3 h0]
      have : pval 0 = 0 := by simp [pval]
      rw [this]
      split <;> omega
    · have hv0 : signed s m (i + 1074).toNat ≠ 0 := by
        intro h9
        have := natAbs_signed s m (i + 1074).toNat
        rw [h9] at this
        have := Nat.mul_pos (Nat.pos_of_ne_zero h0) (Nat.two_pow_pos (i + 1074).toNat)
        simp only [Int.natAbs_zero] at *
        omega
      have hst : (s ^^ t) = false := by
        rcases h with ⟨a, b⟩ | ⟨a, b⟩
        · rw [signed_pos (s := s) (m := m) (a := (i + 1074).toNat) (by omega), signed_pos b]; rfl
        · rw [signed_lt (s := s) (m := m) (a := (i + 1074).toNat) (by omega), signed_lt b]; rfl
      rw [hst]
      simp
end Go.Proofs.Ybulkawyi
