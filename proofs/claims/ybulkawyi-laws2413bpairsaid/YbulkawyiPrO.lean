import Derived.Test.YbulkawyiPrN
namespace Go.Proofs.Ybulkawyi
open Go.RowKit
set_option linter.unusedVariables false

/-- The coefficients, in whole numbers. -/
theorem coefs {vx vy ux uy dx dy c : Nat} {VX VY UX UY DX DY C : Int} (h1 : N vx VX) (h2 : N vy VY) (h3 : N ux UX) (h4 : N uy UY) (h5 : N dx DX) (h6 : N dy DY) (h7 : N c C)
    (b1 : (UX - VX).natAbs ≤ 255) (b2 : (UY - VY).natAbs ≤ 255) (b3 : DX.natAbs ≤ 255) (b4 : DY.natAbs ≤ 255) (b5 : C.natAbs ≤ 130050) :
    ∃ wx wy sx sy qa p1 p2 s qb bb a4 ac disc, floatBits .sub .f64 ux vx = some wx ∧ floatBits .sub .f64 uy vy = some wy ∧ floatBits .mul .f64 wx wx = some sx ∧ floatBits .mul .f64 wy wy = some sy ∧ floatBits .add .f64 sx sy = some qa
      ∧ floatBits .mul .f64 dx wx = some p1 ∧ floatBits .mul .f64 dy wy = some p2 ∧ floatBits .add .f64 p1 p2 = some s ∧ floatBits .mul .f64 4611686018427387904 s = some qb
      ∧ floatBits .mul .f64 qb qb = some bb ∧ floatBits .mul .f64 4616189618054758400 qa = some a4 ∧ floatBits .mul .f64 a4 c = some ac ∧ floatBits .sub .f64 bb ac = some disc
      ∧ N qa ((UX - VX) * (UX - VX) + (UY - VY) * (UY - VY)) ∧ N qb (2 * (DX * (UX - VX) + DY * (UY - VY)))
      ∧ N disc (2 * (DX * (UX - VX) + DY * (UY - VY)) * (2 * (DX * (UX - VX) + DY * (UY - VY))) - 4 * ((UX - VX) * (UX - VX) + (UY - VY) * (UY - VY)) * C)
      ∧ (2 * (DX * (UX - VX) + DY * (UY - VY))).natAbs ≤ 260100 ∧ ((UX - VX) * (UX - VX) + (UY - VY) * (UY - VY)) ≤ 130050 ∧ 0 ≤ ((UX - VX) * (UX - VX) + (UY - VY) * (UY - VY)) := by
  have c1 := nabs b1 b1
  have c2 := nabs b2 b2
  have c3 := nabs b3 b1
  have c4 := nabs b4 b2
  have s1 := sq_nonneg (UX - VX)
  have s2 := sq_nonneg (UY - VY)
  obtain ⟨wx, e1, k1⟩ := h3.sub h1 (by omega)
  obtain ⟨wy, e2, k2⟩ := h4.sub h2 (by omega)
  obtain ⟨sx, e3, k3⟩ := k1.mul k1 (by omega)
  obtain ⟨sy, e4, k4⟩ := k2.mul k2 (by omega)
  obtain ⟨qa, e5, k5⟩ := k3.add k4 (by omega)
  obtain ⟨p1, e6, k6⟩ := h5.mul k1 (by omega)
  obtain ⟨p2, e7, k7⟩ := h6.mul k2 (by omega)
  obtain ⟨s, e8, k8⟩ := k6.add k7 (by omega)
  obtain ⟨qb, e9, k9⟩ := two_N.mul k8 (by omega)
  have d1 : (2 * (DX * (UX - VX) + DY * (UY - VY))).natAbs ≤ 260100 := by omega
  have d2 : ((UX - VX) * (UX - VX) + (UY - VY) * (UY - VY)).natAbs ≤ 130050 := by omega
  have d0 : 0 ≤ (UX - VX) * (UX - VX) + (UY - VY) * (UY - VY) := by omega
  generalize 2 * (DX * (UX - VX) + DY * (UY - VY)) = QB at *
  generalize (UX - VX) * (UX - VX) + (UY - VY) * (UY - VY) = QA at *
  have d3 := nabs d1 d1
  obtain ⟨bb, e10, k10⟩ := k9.mul k9 (by omega)
  obtain ⟨a4, e11, k11⟩ := four_N.mul k5 (by omega)
  have d4 := nabs (a := 4 * QA) (m := 520200) (by omega) b5
  obtain ⟨ac, e12, k12⟩ := k11.mul h7 (by omega)
  obtain ⟨disc, e13, k13⟩ := k10.sub k12 (by omega)
  exact ⟨wx, wy, sx, sy, qa, p1, p2, s, qb, bb, a4, ac, disc, e1, e2, e3, e4, e5, e6, e7, e8, e9, e10, e11, e12, e13, k5, k9, k13, d1, by omega, d0⟩
end Go.Proofs.Ybulkawyi
