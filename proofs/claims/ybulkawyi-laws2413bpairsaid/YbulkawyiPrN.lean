import Derived.Test.YbulkawyiPrM
namespace Go.Proofs.Ybulkawyi
open Go.RowKit
set_option linter.unusedVariables false

theorem two_N : N 4611686018427387904 2 := N.const 2 (by decide) _ (by kernel_rfl)
theorem four_N : N 4616189618054758400 4 := N.const 4 (by decide) _ (by kernel_rfl)

theorem wabs (n : Int) : (n * 1048576 * (Sc : Int)).natAbs = n.natAbs * (1048576 * Sc) := by
  generalize Sc = S
  rw [Int.natAbs_mul, Int.natAbs_mul, Int.natAbs_natCast, Nat.mul_assoc]
  rfl
theorem wpos {n : Int} (h : 0 < n) : 0 < n * 1048576 * (Sc : Int) := Int.mul_pos (by omega) (Int.natCast_pos.2 Sc_pos)
theorem wnn {n : Int} (h : 0 ≤ n) : 0 ≤ n * 1048576 * (Sc : Int) := Int.mul_nonneg (by omega) (Int.natCast_nonneg _)

/-- A quotient that is not negative. -/
theorem Bd.quo {x y lo hi : Nat} {v u : Int} (hx : V x v) (hy : V y u) (h1 : v.natAbs ≤ 1099511627776 * Sc) (h2 : 1048576 * Sc ≤ u.natAbs) (rl : RS lo) (rh : RS hi) (hlo : lo * u.natAbs ≤ v.natAbs * 1048576) (hhi : v.natAbs * 1048576 ≤ hi * u.natAbs) (hs : 0 ≤ v ∧ 0 < u ∨ v ≤ 0 ∧ u < 0) :
    ∃ r, floatBits .quo .f64 x y = some r ∧ Bd r lo hi := by
  obtain ⟨r, z, e, hz, z1, z2, z3⟩ := V.quo hx hy h1 h2 rl rh hlo hhi
  have := z3 hs
  refine ⟨r, e, z, hz, ?_, ?_⟩
  · have : ((lo * Sc : Nat) : Int) ≤ (z.natAbs : Int) := Int.ofNat_le.2 z1
    rw [Int.natCast_mul] at this
    omega
  · have : (z.natAbs : Int) ≤ ((hi * Sc : Nat) : Int) := Int.ofNat_le.2 z2
    rw [Int.natCast_mul] at this
    omega

/-- Within: the two forms of the root down. -/
theorem roots_in {ta qa qb disc c : Nat} {A QA QB C : Int} (hA : N ta A) (hqa : N qa QA) (hqb : N qb QB) (hd : N disc (QB * QB - 4 * QA * C)) (hc : N c C)
    (bA : A.natAbs ≤ 128) (b1 : 1 ≤ QA ∧ QA ≤ 130050) (b2 : QB.natAbs ≤ 260100) (b3 : -65025 ≤ C ∧ C ≤ 0) :
    ∃ m sq num den quo dn, (∀ (ts : Array TypeId) (t : TypeId) (w : World), (Builtin.max_ ts t #[.float .f64 disc, .float .f64 0]).run Yba.prog w = .ok (.float .f64 m) w) ∧ FloatKind.f64.format.sqrt m = some sq
      ∧ floatBits .add .f64 (Op.negFloat .f64 qb) sq = some num ∧ floatBits .mul .f64 4611686018427387904 qa = some den ∧ floatBits .quo .f64 num den = some quo ∧ floatBits .add .f64 ta quo = some dn ∧ Bd dn (A * 1048576) 824633720832
      ∧ (0 < QB → ∃ c2 den2 quo2 dn2, floatBits .mul .f64 4611686018427387904 c = some c2 ∧ floatBits .sub .f64 (Op.negFloat .f64 qb) sq = some den2 ∧ floatBits .quo .f64 c2 den2 = some quo2 ∧ floatBits .add .f64 ta quo2 = some dn2 ∧ Bd dn2 (A * 1048576) 824633720832) := by
  have hS := Sc_pos
  have s1 := sq_nonneg QB
  have s2 := sq_le b2
  have p1 : 0 ≤ QA * (-C) := Int.mul_nonneg (by omega) (by omega)
  have p2 : QA * (-C) ≤ 130050 * 65025 := Int.mul_le_mul (by omega) (by omega) (by omega) (by omega)
  have e1 : QB * QB - 4 * QA * C = QB * QB + 4 * (QA * (-C)) := by
    rw [Int.mul_neg, Int.mul_neg, Int.mul_assoc]; omega
  rw [e1] at hd
  obtain ⟨D, hD⟩ : ∃ D : Nat, (D : Int) = QB * QB + 4 * (QA * (-C)) := ⟨(QB * QB + 4 * (QA * (-C))).toNat, by omega⟩
  rw [← hD] at hd
  obtain ⟨m, hm, hmx⟩ := max_V hd V.zero
  have hmD : N m D := by
    have hD1 : 0 ≤ (D : Int) * 1048576 * Sc := wnn (by omega)
    rw [Int.max_eq_left hD1] at hm
    exact hm
  have hL : QB.natAbs * QB.natAbs ≤ D := by
    have := Int.natAbs_mul_self (a := QB)
    omega
  obtain ⟨sq, es, hsq⟩ := N.sqrt (L := QB.natAbs) (H := 524288) hmD (by omega) hL (by omega) (by omega) (by omega)
  have r0 : RS (0 : Nat) := RS.int (by decide)
  have r40 : RS 1099511627776 := RS.int (by decide)
  have r39 : RS (549755813888 : Nat) := RS.int (by decide)
  obtain ⟨num, e2, h2⟩ := hqb.neg.bd.add hsq (lo := 0) (hi := 1099511627776) r0 r40 (by omega) (by omega)
  obtain ⟨den, e3, h3⟩ := two_N.mul hqa (by omega)
  obtain ⟨v, hv, v1, v2⟩ := h2
  have hu := wabs (2 * QA)
  have hq1 : 2 * (1048576 * Sc) ≤ (2 * QA).natAbs * (1048576 * Sc) := Nat.mul_le_mul_right _ (by omega)
  have hq0 := wpos (n := 2 * QA) (by omega)
  obtain ⟨quo, e4, h4⟩ := Bd.quo (lo := 0) (hi := 549755813888) hv h3 (by omega) (by omega) r0 r39 (by omega) (by omega) (.inl ⟨by omega, by omega⟩)
  obtain ⟨dn, e5, h5⟩ := hA.bd.add h4 (lo := A * 1048576) (hi := 824633720832) (RS.int (by omega)) (RS.int (by decide)) (by omega) (by omega)
  refine ⟨m, sq, num, den, quo, dn, hmx, es, e2, e3, e4, e5, h5, fun hb => ?_⟩
  obtain ⟨c2, f1, k1⟩ := two_N.mul hc (by omega)
  obtain ⟨den2, f2, k2⟩ := hqb.neg.bd.sub hsq (lo := -1099511627776) (hi := -2097152) (RS.int (by decide)) (RS.int (by decide)) (by omega) (by omega)
  obtain ⟨u, hu', u1, u2⟩ := k2
  have hcv := wabs (2 * C)
  have hcv2 : (2 * C).natAbs * (1048576 * Sc) ≤ 130050 * (1048576 * Sc) := Nat.mul_le_mul_right _ (by omega)
  have hcv3 : 2 * C * 1048576 * (Sc : Int) ≤ 0 := by
    have := Int.mul_nonneg (show (0 : Int) ≤ -(2 * C * 1048576) by omega) (show (0 : Int) ≤ (Sc : Int) by omega)
    rw [Int.neg_mul] at this
    omega
  have k1' : V c2 (2 * C * 1048576 * Sc) := k1
  obtain ⟨quo2, f3, k3⟩ := Bd.quo (lo := 0) (hi := 549755813888) k1' hu' (by omega) (by omega) r0 r39 (by omega) (by omega) (.inr ⟨hcv3, by omega⟩)
  obtain ⟨dn2, f4, k4⟩ := hA.bd.add k3 (lo := A * 1048576) (hi := 824633720832) (RS.int (by omega)) (RS.int (by decide)) (by omega) (by omega)
  exact ⟨c2, den2, quo2, dn2, f1, f2, f3, f4, k4⟩

/-- Outside and drawing near: both roots. -/
theorem roots_out {ta qa qb disc c : Nat} {A QA QB C : Int} (hA : N ta A) (hqa : N qa QA) (hqb : N qb QB) (hd : N disc (QB * QB - 4 * QA * C)) (hc : N c C)
    (bA : A.natAbs ≤ 128) (b1 : 1 ≤ QA ∧ QA ≤ 130050) (b2 : QB.natAbs ≤ 260100) (b3 : 1 ≤ C ∧ C ≤ 130050) (hb : QB ≤ -2) (hD0 : 0 ≤ QB * QB - 4 * QA * C) :
    ∃ sq num q quo up quo2 dn, FloatKind.f64.format.sqrt disc = some sq ∧ floatBits .add .f64 (Op.negFloat .f64 qb) sq = some num ∧ floatBits .quo .f64 num 4611686018427387904 = some q
      ∧ floatBits .quo .f64 c q = some quo ∧ floatBits .add .f64 ta quo = some up ∧ floatBits .quo .f64 q qa = some quo2 ∧ floatBits .add .f64 ta quo2 = some dn ∧ Bd up (A * 1048576 + 2) 824633720832 ∧ Bd dn (A * 1048576) 824633720832 := by
  have hS := Sc_pos
  have s2 := sq_le b2
  have p1 : 0 ≤ QA * C := Int.mul_nonneg (by omega) (by omega)
  have e1 : QB * QB - 4 * QA * C = QB * QB - 4 * (QA * C) := by rw [Int.mul_assoc]
  rw [e1] at hd hD0
  obtain ⟨D, hD⟩ : ∃ D : Nat, (D : Int) = QB * QB - 4 * (QA * C) := ⟨(QB * QB - 4 * (QA * C)).toNat, by omega⟩
  rw [← hD] at hd
  obtain ⟨sq, es, hsq⟩ := N.sqrt (L := 0) (H := 524288) hd (by omega) (by omega) (by omega) (by omega) (by omega)
  have r0 : RS (0 : Nat) := RS.int (by decide)
  have r40 : RS 1099511627776 := RS.int (by decide)
  have r39 : RS (549755813888 : Nat) := RS.int (by decide)
  obtain ⟨num, e2, h2⟩ := hqb.neg.bd.add hsq (lo := 2097152) (hi := 1099511627776) (RS.int (by decide)) r40 (by omega) (by omega)
  obtain ⟨v, hv, v1, v2⟩ := h2
  have h2u := wabs 2
  have two : V 4611686018427387904 (2 * 1048576 * Sc) := two_N
  obtain ⟨q, e3, h3⟩ := Bd.quo (lo := 1048576) (hi := 549755813888) hv two (by omega) (by omega) (RS.int (by decide)) r39 (by omega) (by omega) (.inl ⟨by omega, by omega⟩)
  obtain ⟨u, hu, u1, u2⟩ := h3
  have hcv := wabs C
  have hcv2 : C.natAbs * (1048576 * Sc) ≤ 130050 * (1048576 * Sc) := Nat.mul_le_mul_right _ (by omega)
  have hcv3 : 1 * (1048576 * Sc) ≤ C.natAbs * (1048576 * Sc) := Nat.mul_le_mul_right _ (by omega)
  have hc' : V c (C * 1048576 * Sc) := hc
  have hc0 : 0 ≤ C * 1048576 * (Sc : Int) := Int.mul_nonneg (by omega) (by omega)
  obtain ⟨quo, e4, h4⟩ := Bd.quo (lo := 2) (hi := 549755813888) hc' hu (by omega) (by omega) (RS.int (by decide)) r39 (by omega) (by omega) (.inl ⟨hc0, by omega⟩)
  obtain ⟨up, e5, h5⟩ := hA.bd.add h4 (lo := A * 1048576 + 2) (hi := 824633720832) (RS.int (by omega)) (RS.int (by decide)) (by omega) (by omega)
  have hqv := wabs QA
  have hqv2 : 1 * (1048576 * Sc) ≤ QA.natAbs * (1048576 * Sc) := Nat.mul_le_mul_right _ (by omega)
  have hqa' : V qa (QA * 1048576 * Sc) := hqa
  have hq0 : 0 < QA * 1048576 * (Sc : Int) := Int.mul_pos (by omega) (by omega)
  obtain ⟨quo2, e6, h6⟩ := Bd.quo (lo := 0) (hi := 549755813888) hu hqa' (by omega) (by omega) r0 r39 (by omega) (by omega) (.inl ⟨by omega, hq0⟩)
  obtain ⟨dn, e7, h7⟩ := hA.bd.add h6 (lo := A * 1048576) (hi := 824633720832) (RS.int (by omega)) (RS.int (by decide)) (by omega) (by omega)
  exact ⟨sq, num, q, quo, up, quo2, dn, es, e2, e3, e4, e5, e6, e7, h5, h7⟩
end Go.Proofs.Ybulkawyi
