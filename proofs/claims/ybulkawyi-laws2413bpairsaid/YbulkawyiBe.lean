import Derived.Test.YbulkawyiBd
namespace Go.Proofs.Ybulkawyi
open Ieee
set_option linter.unusedVariables false

/-- 2 ^ -20 in units of 2 ^ -1074. -/
def Sc : Nat := 2 ^ 1054
theorem Sc_pos : 0 < Sc := by unfold Sc; exact Nat.two_pow_pos 1054
theorem Sc_le {a b : Int} : a * Sc ≤ b * Sc ↔ a ≤ b := by
  have h : (0 : Int) < Sc := Int.natCast_pos.2 Sc_pos
  exact ⟨fun k => Int.le_of_mul_le_mul_right k h, fun k => Int.mul_le_mul_of_nonneg_right k (Int.le_of_lt h)⟩

def RS (z : Int) : Prop := ∃ m e, z.natAbs = m * 2 ^ e ∧ m < 9007199254740992 ∧ e ≤ 900
theorem RS.int {z : Int} (h : z.natAbs < 9007199254740992) : RS z := ⟨z.natAbs, 0, by simp, h, by omega⟩
theorem RS.rep {z : Int} (h : RS z) : Rep (z * Sc) := by
  obtain ⟨m, e, h1, h2, h3⟩ := h
  refine Rep.mk m (e + 1054) ?_ h2 (by omega) (by omega)
  rw [Int.natAbs_mul, Int.natAbs_natCast, h1, Nat.mul_assoc, Nat.pow_add]; rfl

/-- The word b is a number between lo and hi, in units of 2 ^ -20. -/
def Bd (b : Nat) (lo hi : Int) : Prop := ∃ v, V b v ∧ lo * Sc ≤ v ∧ v ≤ hi * Sc
/-- The word b is the whole number n. -/
def N (b : Nat) (n : Int) : Prop := V b (n * 1048576 * Sc)

theorem Bd.weak {b : Nat} {lo hi lo' hi' : Int} (h : Bd b lo hi) (h1 : lo' ≤ lo) (h2 : hi ≤ hi') : Bd b lo' hi' := by
  obtain ⟨v, hv, a, c⟩ := h
  exact ⟨v, hv, Int.le_trans (Sc_le.2 h1) a, Int.le_trans c (Sc_le.2 h2)⟩
theorem N.bd {b : Nat} {n : Int} (h : N b n) : Bd b (n * 1048576) (n * 1048576) := ⟨_, h, Int.le_refl _, Int.le_refl _⟩
theorem Bd.n {b : Nat} {n : Int} (h : Bd b (n * 1048576) (n * 1048576)) : N b n := by
  obtain ⟨v, hv, a, c⟩ := h
  have : v = n * 1048576 * Sc := by omega
  subst this
  exact hv

theorem RS.whole {n : Int} (h : n.natAbs < 9007199254740992) : RS (n * 1048576) := ⟨n.natAbs, 20, by rw [Int.natAbs_mul]; rfl, h, by omega⟩

theorem Bd.add {x y : Nat} {a b c d lo hi : Int} (hx : Bd x a b) (hy : Bd y c d) (rl : RS lo) (rh : RS hi) (h1 : lo ≤ a + c) (h2 : b + d ≤ hi) :
    ∃ r, floatBits .add .f64 x y = some r ∧ Bd r lo hi := by
  obtain ⟨v, hv, v1, v2⟩ := hx
  obtain ⟨u, hu, u1, u2⟩ := hy
  have k1 := Sc_le.2 h1
  have k2 := Sc_le.2 h2
  rw [Int.add_mul] at k1 k2
  obtain ⟨r, z, e, hz, z1, z2⟩ := hv.add hu rl.rep rh.rep (by omega) (by omega)
  exact ⟨r, e, z, hz, z1, z2⟩
theorem Bd.sub {x y : Nat} {a b c d lo hi : Int} (hx : Bd x a b) (hy : Bd y c d) (rl : RS lo) (rh : RS hi) (h1 : lo ≤ a - d) (h2 : b - c ≤ hi) :
    ∃ r, floatBits .sub .f64 x y = some r ∧ Bd r lo hi := by
  obtain ⟨v, hv, v1, v2⟩ := hx
  obtain ⟨u, hu, u1, u2⟩ := hy
  have k1 := Sc_le.2 h1
  have k2 := Sc_le.2 h2
  rw [Int.sub_mul] at k1 k2
  obtain ⟨r, z, e, hz, z1, z2⟩ := hv.sub hu rl.rep rh.rep (by omega) (by omega)
  exact ⟨r, e, z, hz, z1, z2⟩
theorem N.add {x y : Nat} {a b : Int} (hx : N x a) (hy : N y b) (h : (a + b).natAbs < 9007199254740992) : ∃ r, floatBits .add .f64 x y = some r ∧ N r (a + b) := by
  obtain ⟨r, e, hr⟩ := hx.bd.add hy.bd (RS.whole h) (RS.whole h) (by omega) (by omega)
  exact ⟨r, e, hr.n⟩
theorem N.sub {x y : Nat} {a b : Int} (hx : N x a) (hy : N y b) (h : (a - b).natAbs < 9007199254740992) : ∃ r, floatBits .sub .f64 x y = some r ∧ N r (a - b) := by
  obtain ⟨r, e, hr⟩ := hx.bd.sub hy.bd (RS.whole h) (RS.whole h) (by omega) (by omega)
  exact ⟨r, e, hr.n⟩
theorem pow_parts {S a b c : Nat} (h : c = a + b) (hs : S = 2 ^ b) (ha : 2 ^ a = 1048576) : 2 ^ c = 1048576 * S := by rw [h, Nat.pow_add, ha, hs]
theorem pow1074 : 2 ^ 1074 = 1048576 * Sc := pow_parts (S := Sc) (a := 20) (b := 1054) (c := 1074) rfl Sc.eq_1 rfl
theorem N.mulBd {x y : Nat} {a b lo hi : Int} (hx : N x a) (hy : N y b) (rl : RS lo) (rh : RS hi) (h1 : lo ≤ a * b * 1048576) (h2 : a * b * 1048576 ≤ hi) : ∃ r, floatBits .mul .f64 x y = some r ∧ Bd r lo hi := by
  have key : a * 1048576 * Sc * (b * 1048576 * Sc) = a * b * 1048576 * Sc * ((1048576 * Sc : Nat) : Int) := by
    rw [Int.natCast_mul]
    simp only [Int.mul_assoc, Int.mul_left_comm]
    rfl
  have hp : (0 : Int) ≤ ((1048576 * Sc : Nat) : Int) := Int.natCast_nonneg _
  obtain ⟨r, z, e, hz, z1, z2⟩ := V.mul (lo := lo * Sc) (hi := hi * Sc) hx hy rl.rep rh.rep
    (by rw [pow1074, key]; exact Int.mul_le_mul_of_nonneg_right (Sc_le.2 h1) hp) (by rw [pow1074, key]; exact Int.mul_le_mul_of_nonneg_right (Sc_le.2 h2) hp)
  exact ⟨r, e, z, hz, z1, z2⟩
theorem N.mul {x y : Nat} {a b : Int} (hx : N x a) (hy : N y b) (h : (a * b).natAbs < 9007199254740992) : ∃ r, floatBits .mul .f64 x y = some r ∧ N r (a * b) := by
  obtain ⟨r, e, hr⟩ := hx.mulBd hy (RS.whole h) (RS.whole h) (Int.le_refl _) (Int.le_refl _)
  exact ⟨r, e, hr.n⟩

/-- A whole number of Go's made a float. -/
theorem N.ofInt (n : Int) (h : n.natAbs < 9007199254740992) : N (floatOfInt .f64 n) n := by
  have e : floatOfInt .f64 n = Ieee.double.nearest (decide (n < 0)) n.natAbs 0 := rfl
  rw [e]
  have ek : ((0 : Int) + 1074 + (0 : Nat)).toNat = 1074 := rfl
  have hs : signed (decide (n < 0)) n.natAbs 1074 = n * 1048576 * Sc := by
    have := signed_dec n false 1074
    have e2 : signed (if n = 0 then false else decide (n < 0)) n.natAbs 1074 = signed (decide (n < 0)) n.natAbs 1074 := by
      by_cases h0 : n = 0
      · subst h0; rfl
      · rw [if_neg h0]
    rw [← e2, this, pow1074, Int.natCast_mul, Int.mul_assoc]
    rfl
  obtain ⟨v, hv, a, b⟩ := nearest_bd (neg := decide (n < 0)) (mag := n.natAbs) (place := 0) 0 (by omega) (RS.whole h).rep (RS.whole h).rep (by rw [ek, hs]; simp) (by rw [ek, hs]; simp)
  have : v = n * 1048576 * Sc := by omega
  subst this
  exact hv

/-! ### the sign -/
theorem neg_word (s : Bool) (r : Nat) (hr : r < 9218868437227405312) : Op.negFloat .f64 (Ieee.double.word s r) = Ieee.double.word (!s) r := by
  have e : Op.negFloat .f64 (Ieee.double.word s r) = Ieee.double.word s r ^^^ 2 ^ 63 := rfl
  rw [e]
  have hd := Nat.div_add_mod (Ieee.double.word s r ^^^ 2 ^ 63) (2 ^ 63)
  rw [Nat.xor_mod_two_pow, ← Nat.shiftRight_eq_div_pow, Nat.shiftRight_xor_distrib] at hd
  rw [← hd]
  unfold Format.word
  rw [dbl_sw]
  have e1 : 2 ^ 63 % 2 ^ 63 = 0 := Nat.mod_self _
  have e2 : (2 ^ 63) >>> 63 = 1 := by decide
  rw [e1, e2, Nat.xor_zero, Nat.shiftRight_eq_div_pow]
  cases s
  · simp only [Bool.false_eq_true, if_false, Bool.not_false, if_true]
    rw [Nat.div_eq_of_lt (by omega), Nat.mod_eq_of_lt (by omega)]
    rfl
  · simp only [Bool.not_true, Bool.false_eq_true, if_false, if_true]
    have f1 : (9223372036854775808 + r) / 2 ^ 63 = 1 := by omega
    have f2 : (9223372036854775808 + r) % 2 ^ 63 = r := by omega
    rw [f1, f2]
    simp
theorem V.neg {x : Nat} {v : Int} (h : V x v) : V (Op.negFloat .f64 x) (-v) := by
  obtain ⟨s, r, hr, rfl, hv⟩ := h
  refine ⟨!s, r, hr, neg_word s r hr, ?_⟩
  rw [hv]
  cases s <;> simp
theorem N.neg {x : Nat} {n : Int} (h : N x n) : N (Op.negFloat .f64 x) (-n) := by
  have := V.neg h
  unfold N
  rw [Int.neg_mul, Int.neg_mul]
  exact this

/-! ### order -/
theorem N.order {x y : Nat} {a b : Int} (hx : N x a) (hy : N y b) : FloatKind.f64.format.order x y = some (compare a b) := by
  rw [V.order hx hy]
  congr 1
  rcases Int.lt_trichotomy a b with h | h | h
  · have : a * 1048576 * (Sc : Int) < b * 1048576 * Sc := Int.mul_lt_mul_of_pos_right (by omega) (Int.natCast_pos.2 Sc_pos)
    rw [Int.compare_eq_lt.2 h, Int.compare_eq_lt.2 this]
  · subst h; simp [compare, compareOfLessAndEq]
  · have : b * 1048576 * (Sc : Int) < a * 1048576 * Sc := Int.mul_lt_mul_of_pos_right (by omega) (Int.natCast_pos.2 Sc_pos)
    rw [Int.compare_eq_gt.2 h, Int.compare_eq_gt.2 this]
theorem V.lt {x y : Nat} {a b : Int} (hx : V x a) (hy : V y b) (h : a < b) : FloatKind.f64.format.order x y = some .lt ∧ FloatKind.f64.format.order y x = some .gt := by
  rw [V.order hx hy, V.order hy hx, Int.compare_eq_lt.2 h, Int.compare_eq_gt.2 h]
  exact ⟨rfl, rfl⟩
theorem Bd.lt {x y : Nat} {a b c d : Int} (hx : Bd x a b) (hy : Bd y c d) (h : b < c) : FloatKind.f64.format.order x y = some .lt ∧ FloatKind.f64.format.order y x = some .gt := by
  obtain ⟨v, hv, _, v2⟩ := hx
  obtain ⟨u, hu, u1, _⟩ := hy
  have : b * (Sc : Int) < c * Sc := Int.mul_lt_mul_of_pos_right h (Int.natCast_pos.2 Sc_pos)
  exact hv.lt hu (by omega)
def pinf : Nat := 9218868437227405312
def ninf : Nat := 18442240474082181120
theorem read_pinf : Ieee.double.read 9218868437227405312 = .infinity false := by decide
theorem read_ninf : Ieee.double.read 18442240474082181120 = .infinity true := by decide
theorem V.lt_inf {x : Nat} {a : Int} (hx : V x a) : FloatKind.f64.format.order x 9218868437227405312 = some .lt ∧ FloatKind.f64.format.order 9218868437227405312 x = some .gt ∧ FloatKind.f64.format.order 18442240474082181120 x = some .lt ∧ FloatKind.f64.format.order x 18442240474082181120 = some .gt := by
  obtain ⟨s, m, i, e1, _⟩ := hx.read
  have e : ∀ x y, FloatKind.f64.format.order x y = (Ieee.double.read x).order (Ieee.double.read y) := fun _ _ => rfl
  rw [e, e, e, e, e1, read_pinf, read_ninf]
  exact ⟨rfl, rfl, rfl, rfl⟩
end Go.Proofs.Ybulkawyi
