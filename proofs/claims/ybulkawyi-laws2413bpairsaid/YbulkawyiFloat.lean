import Ieee.Arith
import Derived.Laws.FloatArith
namespace Go.Proofs.Ybulkawyi
open Ieee

theorem dbl_sw : Ieee.double.signWeight = 9223372036854775808 := by decide
theorem dbl_inf : Ieee.double.infRung = 9218868437227405312 := by decide
theorem dbl_bin : Ieee.double.binade = 4503599627370496 := by decide
theorem dbl_lp : Ieee.double.leastPlace = -1074 := by decide

/-- What stands at a rung that is not beyond infinity. -/
theorem read_word (neg : Bool) (rung : Nat) (h : rung ≤ Ieee.double.infRung) :
    Ieee.double.read (Ieee.double.word neg rung) =
      if rung < Ieee.double.binade then .number neg rung Ieee.double.leastPlace
      else if rung < Ieee.double.infRung then .number neg (Ieee.double.binade + rung % Ieee.double.binade) (Ieee.double.leastPlace + (rung / Ieee.double.binade - 1 : Nat))
      else .infinity neg := by
  unfold Format.read Format.word
  rw [dbl_inf] at h
  rw [dbl_sw, dbl_inf, dbl_bin, dbl_lp]
  cases neg
  · simp only [Bool.false_eq_true, if_false]
    have e1 : rung % 9223372036854775808 = rung := by omega
    have e2 : (rung / 9223372036854775808 % 2 == 1) = false := by
      have : rung / 9223372036854775808 = 0 := by omega
      rw [this]; rfl
    simp only [e1, e2]
    split
    · rfl
    · split
      · rfl
      · rw [if_pos (by omega)]
  · simp only [if_true]
    have e1 : (9223372036854775808 + rung) % 9223372036854775808 = rung := by omega
    have e2 : ((9223372036854775808 + rung) / 9223372036854775808 % 2 == 1) = true := by
      have : (9223372036854775808 + rung) / 9223372036854775808 = 1 := by omega
      rw [this]; rfl
    simp only [e1, e2]
    split
    · rfl
    · split
      · rfl
      · rw [if_pos (by omega)]

/-- The rung that a number is rounded to. -/
def rungOf (mag : Nat) (place : Int) : Nat :=
  if mag = 0 then 0 else
    min (((max (place + mag.log2 - 52) (-1074)) + 1074).toNat * 4503599627370496 +
      Toward.even.cut false (mag <<< (place - max (place + mag.log2 - 52) (-1074)).toNat) (max (place + mag.log2 - 52) (-1074) - place).toNat) 9218868437227405312

theorem cut_even_neg (neg : Bool) (n d : Nat) : Toward.even.cut neg n d = Toward.even.cut false n d := rfl

theorem nearest_rung (neg : Bool) (mag : Nat) (place : Int) : Ieee.double.nearest neg mag place = Ieee.double.word neg (rungOf mag place) := by
  unfold Format.nearest rungOf
  split
  · rfl
  · rw [dbl_inf, dbl_bin, dbl_lp]
    have : (Ieee.double.fractionBits : Int) = 52 := rfl
    rw [this]
    have e : ∀ x : Int, x - -1074 = x + 1074 := fun x => by omega
    dsimp only
    rw [e, cut_even_neg]

theorem rungOf_le (mag : Nat) (place : Int) : rungOf mag place ≤ Ieee.double.infRung := by
  rw [dbl_inf]
  unfold rungOf
  split <;> omega

theorem read_nearest (neg : Bool) (mag : Nat) (place : Int) :
    Ieee.double.read (Ieee.double.nearest neg mag place) =
      if rungOf mag place < Ieee.double.binade then .number neg (rungOf mag place) Ieee.double.leastPlace
      else if rungOf mag place < Ieee.double.infRung then .number neg (Ieee.double.binade + rungOf mag place % Ieee.double.binade) (Ieee.double.leastPlace + (rungOf mag place / Ieee.double.binade - 1 : Nat))
      else .infinity neg := by
  rw [nearest_rung, read_word _ _ (rungOf_le _ _)]

theorem order_refl_nearest (neg : Bool) (mag : Nat) (place : Int) : Ieee.double.order (Ieee.double.nearest neg mag place) (Ieee.double.nearest neg mag place) = some .eq := by
  unfold Format.order
  rw [read_nearest]
  split
  · simp [Datum.order]
  · split
    · simp [Datum.order]
    · simp [Datum.order]

theorem cut_none (n : Nat) : Toward.even.cut false n 0 = n := by
  simp [Toward.cut]
  omega

/-- A whole number below 2 ^ 53 is written as it is. -/
theorem rungOf_int (m : Nat) (h0 : m ≠ 0) (h : m < 9007199254740992) : rungOf m 0 = (m.log2 + 1022) * 4503599627370496 + m <<< (52 - m.log2) ∧ 4503599627370496 ≤ m <<< (52 - m.log2) ∧ m <<< (52 - m.log2) < 9007199254740992 := by
  have hL : m.log2 < 53 := (Nat.log2_lt h0).2 h
  have l1 := Nat.log2_self_le h0
  have l2 := @Nat.lt_log2_self m
  have e1 : 2 ^ m.log2 * 2 ^ (52 - m.log2) = 4503599627370496 := by
    rw [← Nat.pow_add, show m.log2 + (52 - m.log2) = 52 from by omega]
  have e2 : 2 ^ (m.log2 + 1) * 2 ^ (52 - m.log2) = 9007199254740992 := by
    rw [← Nat.pow_add, show m.log2 + 1 + (52 - m.log2) = 53 from by omega]
  have hp : 0 < 2 ^ (52 - m.log2) := Nat.two_pow_pos _
  have b1 : 4503599627370496 ≤ m <<< (52 - m.log2) := by
    rw [Nat.shiftLeft_eq, ← e1]; exact Nat.mul_le_mul_right _ l1
  have b2 : m <<< (52 - m.log2) < 9007199254740992 := by
    rw [Nat.shiftLeft_eq, ← e2]; exact Nat.mul_lt_mul_of_pos_right l2 hp
  refine ⟨?_, b1, b2⟩
  unfold rungOf
  rw [if_neg h0]
  have e3 : max ((0 : Int) + m.log2 - 52) (-1074) = (m.log2 : Int) - 52 := by omega
  rw [e3]
  have e4 : ((m.log2 : Int) - 52 + 1074).toNat = m.log2 + 1022 := by omega
  have e5 : ((0 : Int) - ((m.log2 : Int) - 52)).toNat = 52 - m.log2 := by omega
  have e6 : ((m.log2 : Int) - 52 - 0).toNat = 0 := by omega
  rw [e4, e5, e6, cut_none]
  generalize m <<< (52 - m.log2) = M at b1 b2 ⊢
  generalize m.log2 = L at hL ⊢
  rw [Nat.min_eq_left]
  clear l1 l2 e1 e2 hp e3 e4 e5 e6 h0 h
  omega

theorem read_int (neg : Bool) (m : Nat) (h : m < 9007199254740992) : ∃ M p, Ieee.double.read (Ieee.double.nearest neg m 0) = .number neg M p := by
  by_cases h0 : m = 0
  · subst h0
    refine ⟨0, -1074, ?_⟩
    rw [read_nearest]
    have : rungOf 0 0 = 0 := rfl
    rw [this, if_pos (by decide), dbl_lp]
  · obtain ⟨e, b1, b2⟩ := rungOf_int m h0 h
    have hL : m.log2 < 53 := (Nat.log2_lt h0).2 h
    generalize m <<< (52 - m.log2) = M at e b1 b2
    generalize m.log2 = L at e hL
    rw [read_nearest, e, dbl_bin, dbl_inf, if_neg (by clear h e; omega), if_pos (by clear h e; omega)]
    exact ⟨_, _, rfl⟩

open Go in
theorem add_ints (a b : Int) (ha : a.natAbs < 9007199254740992) (hb : b.natAbs < 9007199254740992) :
    ∃ r, floatBits .add .f64 (floatOfInt .f64 a) (floatOfInt .f64 b) = some r ∧ FloatKind.f64.format.order r r = some .eq := by
  obtain ⟨M, p, e1⟩ := read_int (decide (a < 0)) a.natAbs ha
  obtain ⟨M', p', e2⟩ := read_int (decide (b < 0)) b.natAbs hb
  have e : Ieee.double.add (floatOfInt .f64 a) (floatOfInt .f64 b) = ((Ieee.double.read (floatOfInt .f64 a)).sum (Ieee.double.read (floatOfInt .f64 b))).map Ieee.double.write := rfl
  have f1 : Ieee.double.read (floatOfInt .f64 a) = .number (decide (a < 0)) M p := e1
  have f2 : Ieee.double.read (floatOfInt .f64 b) = .number (decide (b < 0)) M' p' := e2
  rw [f1, f2] at e
  exact ⟨_, e, order_refl_nearest _ _ _⟩
end Go.Proofs.Ybulkawyi
