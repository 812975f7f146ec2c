import Derived.Test.YbulkawyiPrC
namespace Go.Proofs.Ybulkawyi
open Go.RowKit
set_option linter.unusedVariables false

theorem hor_N : N 4741671816366391296 1000000000 := N.const 1000000000 (by decide) _ (by kernel_rfl)

/-- What the gap at the horizon computes. -/
def HorIs (ta x0 y0 vx vy x1 y1 ux uy r2 th : Nat) : Prop := ∃ xa ya xb yb dx dy, AtIs 4741671816366391296 ta x0 y0 vx vy xa ya ∧ AtIs 4741671816366391296 ta x1 y1 ux uy xb yb ∧ GapIs xa ya xb yb r2 dx dy th

theorem lt_hor {x : Nat} {z : Int} (h : V x z) (hz : z ≤ 4398046511104 * Sc) : FloatKind.f64.format.order x 4741671816366391296 = some .lt ∧ FloatKind.f64.format.order 4741671816366391296 x = some .gt := by
  have hS := Sc_pos
  exact V.lt h hor_N (by omega)

theorem nabs {a b : Int} {m n : Nat} (ha : a.natAbs ≤ m) (hb : b.natAbs ≤ n) : (a * b).natAbs ≤ m * n := by
  rw [Int.natAbs_mul]; exact Nat.mul_le_mul ha hb
theorem sq_nonneg (a : Int) : 0 ≤ a * a := by
  rw [← Int.natAbs_mul_self]; exact Int.natCast_nonneg _
theorem sq_ge {a : Int} {m : Nat} (h : m ≤ a.natAbs) : (m : Int) * m ≤ a * a := by
  rw [← Int.natAbs_mul_self (a := a)]; exact_mod_cast Nat.mul_le_mul h h
theorem sq_le {a : Int} {m : Nat} (h : a.natAbs ≤ m) : a * a ≤ (m : Int) * m := by
  rw [← Int.natAbs_mul_self (a := a)]; exact_mod_cast Nat.mul_le_mul h h

/-- Where a node stands, in whole numbers. -/
theorem N.at {t t0 x0 y0 vx vy : Nat} {T A X Y U W : Int} (ht : N t T) (h0 : N t0 A) (hx : N x0 X) (hy : N y0 Y) (hu : N vx U) (hw : N vy W)
    (bt : (T - A).natAbs ≤ 1000000128) (bx : X.natAbs ≤ 128) (by_ : Y.natAbs ≤ 128) (bu : U.natAbs ≤ 128) (bw : W.natAbs ≤ 128) :
    ∃ rx ry, AtIs t t0 x0 y0 vx vy rx ry ∧ N rx (X + U * (T - A)) ∧ N ry (Y + W * (T - A)) := by
  have b1 := nabs bu bt
  have b2 := nabs bw bt
  obtain ⟨dt, e1, h1⟩ := ht.sub h0 (by omega)
  obtain ⟨px, e2, h2⟩ := hu.mul h1 (by omega)
  obtain ⟨rx, e3, h3⟩ := hx.add h2 (by omega)
  obtain ⟨py, e4, h4⟩ := hw.mul h1 (by omega)
  obtain ⟨ry, e5, h5⟩ := hy.add h4 (by omega)
  exact ⟨rx, ry, ⟨dt, px, py, e1, e2, e3, e4, e5⟩, h3, h5⟩

/-- The gap, in whole numbers. -/
theorem N.gap {xa ya xb yb r2 : Nat} {XA YA XB YB R : Int} (h1 : N xa XA) (h2 : N ya YA) (h3 : N xb XB) (h4 : N yb YB) (h5 : N r2 R) (b1 : (XB - XA).natAbs ≤ 255) (b2 : (YB - YA).natAbs ≤ 255) (b5 : R.natAbs ≤ 65025) :
    ∃ dx dy c, GapIs xa ya xb yb r2 dx dy c ∧ N dx (XB - XA) ∧ N dy (YB - YA) ∧ N c ((XB - XA) * (XB - XA) + (YB - YA) * (YB - YA) - R) := by
  have c1 := nabs b1 b1
  have c2 := nabs b2 b2
  obtain ⟨dx, e1, k1⟩ := h3.sub h1 (by omega)
  obtain ⟨dy, e2, k2⟩ := h4.sub h2 (by omega)
  obtain ⟨sx, e3, k3⟩ := k1.mul k1 (by omega)
  obtain ⟨sy, e4, k4⟩ := k2.mul k2 (by omega)
  obtain ⟨s, e5, k5⟩ := k3.add k4 (by omega)
  obtain ⟨c, e6, k6⟩ := k5.sub h5 (by omega)
  exact ⟨dx, dy, c, ⟨sx, sy, s, e1, e2, e3, e4, e5, e6⟩, k1, k2, k6⟩

/-- The numbers behind the words. -/
structure Nums (ta x0 y0 vx vy x1 y1 ux uy r2 : Nat) (A X0 Y0 VX VY X1 Y1 UX UY R : Int) : Prop where
  ta : N ta A
  x0 : N x0 X0
  y0 : N y0 Y0
  vx : N vx VX
  vy : N vy VY
  x1 : N x1 X1
  y1 : N y1 Y1
  ux : N ux UX
  uy : N uy UY
  r2 : N r2 (R * R)
  bA : A.natAbs ≤ 128
  bX0 : -128 ≤ X0 ∧ X0 ≤ 127
  bY0 : -128 ≤ Y0 ∧ Y0 ≤ 127
  bVX : -128 ≤ VX ∧ VX ≤ 127
  bVY : -128 ≤ VY ∧ VY ≤ 127
  bX1 : -128 ≤ X1 ∧ X1 ≤ 127
  bY1 : -128 ≤ Y1 ∧ Y1 ≤ 127
  bUX : -128 ≤ UX ∧ UX ≤ 127
  bUY : -128 ≤ UY ∧ UY ≤ 127
  bR : 0 ≤ R ∧ R ≤ 255

/-- The gap now. -/
theorem Nums.now {ta x0 y0 vx vy x1 y1 ux uy r2 : Nat} {A X0 Y0 VX VY X1 Y1 UX UY R : Int} (h : Nums ta x0 y0 vx vy x1 y1 ux uy r2 A X0 Y0 VX VY X1 Y1 UX UY R) :
    ∃ xa ya xb yb dx dy c, AtIs ta ta x0 y0 vx vy xa ya ∧ AtIs ta ta x1 y1 ux uy xb yb ∧ GapIs xa ya xb yb r2 dx dy c ∧ N dx (X1 - X0) ∧ N dy (Y1 - Y0) ∧ N c ((X1 - X0) * (X1 - X0) + (Y1 - Y0) * (Y1 - Y0) - R * R) := by
  obtain ⟨hA, hx0, hy0, hvx, hvy, hx1, hy1, hux, huy, hr, bA, b1, b2, b3, b4, b5, b6, b7, b8, b9⟩ := h
  have e0 : A - A = 0 := by omega
  obtain ⟨xa, ya, a1, n1, n2⟩ := N.at hA hA hx0 hy0 hvx hvy (by omega) (by omega) (by omega) (by omega) (by omega)
  obtain ⟨xb, yb, a2, n3, n4⟩ := N.at hA hA hx1 hy1 hux huy (by omega) (by omega) (by omega) (by omega) (by omega)
  rw [e0, Int.mul_zero, Int.add_zero] at n1 n2 n3 n4
  have bR := nabs (a := R) (b := R) (m := 255) (n := 255) (by omega) (by omega)
  obtain ⟨dx, dy, c, g, m1, m2, m3⟩ := N.gap n1 n2 n3 n4 hr (by omega) (by omega) (by omega)
  exact ⟨xa, ya, xb, yb, dx, dy, c, a1, a2, g, m1, m2, m3⟩

theorem far_sq {P D U d : Int} (hP : P = D + U * d) (hD : D.natAbs ≤ 255) (hU : U.natAbs ≤ 255) (hd : 999999000 ≤ d ∧ d ≤ 1000000128) :
    0 ≤ P * P ∧ P * P ≤ 75557863725914323419136 ∧ (U ≠ 0 → 288230376151711744 ≤ P * P) := by
  have h1 := nabs hU (b := d) (n := 1000000128) (by omega)
  have h2 : P.natAbs ≤ 274877906944 := by omega
  refine ⟨sq_nonneg P, by have := sq_le h2; omega, fun h => ?_⟩
  have h3 : 999999000 ≤ (U * d).natAbs := by
    rw [Int.natAbs_mul]
    have := Nat.mul_le_mul (show 1 ≤ U.natAbs by omega) (show 999999000 ≤ d.natAbs by omega)
    omega
  have := sq_ge (a := P) (m := 536870912) (by omega)
  omega

/-- The gap at the horizon is greater than zero. -/
theorem Nums.hor {ta x0 y0 vx vy x1 y1 ux uy r2 : Nat} {A X0 Y0 VX VY X1 Y1 UX UY R : Int} (h : Nums ta x0 y0 vx vy x1 y1 ux uy r2 A X0 Y0 VX VY X1 Y1 UX UY R) (hq : UX - VX ≠ 0 ∨ UY - VY ≠ 0) :
    ∃ th, HorIs ta x0 y0 vx vy x1 y1 ux uy r2 th ∧ FloatKind.f64.format.order th 0 = some .gt := by
  obtain ⟨hA, hx0, hy0, hvx, hvy, hx1, hy1, hux, huy, hr, bA, b1, b2, b3, b4, b5, b6, b7, b8, b9⟩ := h
  obtain ⟨xa, ya, a1, n1, n2⟩ := N.at hor_N hA hx0 hy0 hvx hvy (by omega) (by omega) (by omega) (by omega) (by omega)
  obtain ⟨xb, yb, a2, n3, n4⟩ := N.at hor_N hA hx1 hy1 hux huy (by omega) (by omega) (by omega) (by omega) (by omega)
  have bR := nabs (a := R) (b := R) (m := 255) (n := 255) (by omega) (by omega)
  have bR0 := sq_nonneg R
  have p1 : X1 + UX * (1000000000 - A) - (X0 + VX * (1000000000 - A)) = (X1 - X0) + (UX - VX) * (1000000000 - A) := by rw [Int.sub_mul]; omega
  have p2 : Y1 + UY * (1000000000 - A) - (Y0 + VY * (1000000000 - A)) = (Y1 - Y0) + (UY - VY) * (1000000000 - A) := by rw [Int.sub_mul]; omega
  have q1 := nabs (a := UX - VX) (b := 1000000000 - A) (m := 255) (n := 1000000128) (by omega) (by omega)
  have q2 := nabs (a := UY - VY) (b := 1000000000 - A) (m := 255) (n := 1000000128) (by omega) (by omega)
  obtain ⟨dx, e1, k1⟩ := n3.sub n1 (by rw [p1]; omega)
  obtain ⟨dy, e2, k2⟩ := n4.sub n2 (by rw [p2]; omega)
  obtain ⟨s1, s2, s3⟩ := far_sq p1 (by omega) (by omega) (by omega)
  obtain ⟨t1, t2, t3⟩ := far_sq p2 (by omega) (by omega) (by omega)
  generalize X1 + UX * (1000000000 - A) - (X0 + VX * (1000000000 - A)) = P at *
  generalize Y1 + UY * (1000000000 - A) - (Y0 + VY * (1000000000 - A)) = Q at *
  have r0 : RS 0 := RS.int (by decide)
  have r96 : RS 79228162514264337593543950336 := ⟨1, 96, by decide, by decide, by decide⟩
  have r97 : RS 158456325028528675187087900672 := ⟨1, 97, by decide, by decide, by decide⟩
  have r78 : RS 302231454903657293676544 := ⟨1, 78, by decide, by decide, by decide⟩
  have r77 : RS 151115727451828646838272 := ⟨1, 77, by decide, by decide, by decide⟩
  have key : ∃ sx sy s, floatBits .mul .f64 dx dx = some sx ∧ floatBits .mul .f64 dy dy = some sy ∧ floatBits .add .f64 sx sy = some s ∧ Bd s 302231454903657293676544 158456325028528675187087900672 := by
    by_cases hx : UX - VX = 0
    · have ty := t3 (by omega)
      obtain ⟨sx, e3, k3⟩ := N.mulBd k1 k1 r0 r96 (by omega) (by omega)
      obtain ⟨sy, e4, k4⟩ := N.mulBd k2 k2 r78 r96 (by omega) (by omega)
      obtain ⟨s, e5, k5⟩ := k3.add k4 r78 r97 (by omega) (by omega)
      exact ⟨sx, sy, s, e3, e4, e5, k5⟩
    · have tx := s3 hx
      obtain ⟨sx, e3, k3⟩ := N.mulBd k1 k1 r78 r96 (by omega) (by omega)
      obtain ⟨sy, e4, k4⟩ := N.mulBd k2 k2 r0 r96 (by omega) (by omega)
      obtain ⟨s, e5, k5⟩ := k3.add k4 r78 r97 (by omega) (by omega)
      exact ⟨sx, sy, s, e3, e4, e5, k5⟩
  obtain ⟨sx, sy, s, e3, e4, e5, k5⟩ := key
  obtain ⟨c, e6, k6⟩ := k5.sub hr.bd r77 r97 (by omega) (by omega)
  refine ⟨c, ⟨xa, ya, xb, yb, dx, dy, a1, a2, sx, sy, s, e1, e2, e3, e4, e5, e6⟩, ?_⟩
  obtain ⟨v, hv, v1, v2⟩ := k6
  have hS := Sc_pos
  exact (V.zero.lt hv (by omega)).2
end Go.Proofs.Ybulkawyi
