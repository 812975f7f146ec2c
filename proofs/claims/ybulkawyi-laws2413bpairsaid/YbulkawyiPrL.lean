import Derived.Test.YbulkawyiPrH
import Derived.Test.YbulkawyiPrK
namespace Go.Proofs.Ybulkawyi
open Go.RowKit
set_option linter.unusedVariables false

/-- What pair leaves. -/
structure Done (base T lb ta : Nat) (w w' : World) (was wi : Bool) (A : Int) (P : Prop) : Prop where
  below : Below base w w'
  lt : T < w'.heap.size
  ln : w'.cell? ⟨T, 9, none⟩ = some (.slice (some ⟨lb, 0, none⟩) 4 4)
  l0 : w'.cell? ⟨lb, 0, none⟩ = some (.bool false)
  l1 : w'.cell? ⟨lb, 1, none⟩ = some (.bool wi)
  l2 : w'.cell? ⟨lb, 2, none⟩ = some (.bool false)
  l3 : w'.cell? ⟨lb, 3, none⟩ = some (.bool false)
  rd : (was = wi ∧ w'.cell? ⟨T, 19, none⟩ = some (.slice none 0 0)) ∨ (was ≠ wi ∧ ∃ g cap, w'.cell? ⟨T, 19, none⟩ = some (.slice (some ⟨g, 0, none⟩) 1 cap) ∧ ∀ j, j < 4 → w'.cell? ⟨g, j, none⟩ = (chg ta wi)[j]?)
  pu : (¬P ∧ w'.cell? ⟨T, 18, none⟩ = some (.int .i64 0) ∧ w'.cell? ⟨T, 13, none⟩ = some (.slice none 0 0))
    ∨ (P ∧ w'.cell? ⟨T, 18, none⟩ = some (.int .i64 1) ∧ ∃ g cap at_ down, w'.cell? ⟨T, 13, none⟩ = some (.slice (some ⟨g, 0, none⟩) 1 cap) ∧ (∀ j, j < 5 → w'.cell? ⟨g, j, none⟩ = (itm at_ down 1 (!wi))[j]?)
      ∧ ∃ v, V at_ v ∧ A * 1048576 * Sc < v ∧ (wi = true → down = 9218868437227405312) ∧ (wi = false → ∃ z, V down z ∧ v < z ∧ z ≤ 4398046511104 * Sc))

theorem done_no {T nb xb lb ta x0 y0 vx vy x1 y1 ux uy r2 base : Nat} {w w1 : World} {was wi : Bool} {A : Int} {P : Prop} (ht : Trk w1 T nb xb lb ta x0 y0 vx vy x1 y1 ux uy r2) (h : Look base w w1 T lb ta was wi) (hP : ¬P) : Done base T lb ta w w1 was wi A P := by
  refine ⟨h.below, ht.lt, ht.ln, h.l0, h.l1, h.l2, h.l3, ?_, .inl ⟨hP, ht.nn, ht.hp⟩⟩
  rcases h.rd with h | ⟨h1, g, cap, h2, _, _, h3⟩
  · exact .inl h
  · exact .inr ⟨h1, g, cap, h2, h3⟩

theorem done_put {T nb xb lb ta x0 y0 vx vy x1 y1 ux uy r2 base at_ down : Nat} {w w1 w' : World} {was wi : Bool} {A v : Int} {P : Prop} (ht : Trk w1 T nb xb lb ta x0 y0 vx vy x1 y1 ux uy r2) (h : Look base w w1 T lb ta was wi) (hbase : base ≤ lb) (hP : P) (hp : Put T w1 w' at_ down 1 (!wi))
    (hv : V at_ v) (h1 : A * 1048576 * Sc < v) (h2 : wi = true → down = 9218868437227405312) (h3 : wi = false → ∃ z, V down z ∧ v < z ∧ z ≤ 4398046511104 * Sc) : Done base T lb ta w w' was wi A P := by
  have hl := ht.ltl
  have hT := ht.lt
  have cl : ∀ o, w'.cell? ⟨lb, o, none⟩ = w1.cell? ⟨lb, o, none⟩ := fun o => hp.far lb o (by omega) (by omega)
  obtain ⟨g, cap, g1, g2⟩ := hp.heap
  refine ⟨h.below.trans (hp.below.mono (by omega)), hp.lt, (hp.other 9 (by decide) (by decide)).trans ht.ln, (cl _).trans h.l0, (cl _).trans h.l1, (cl _).trans h.l2, (cl _).trans h.l3, ?_, .inr ⟨hP, hp.n, g, cap, at_, down, g1, g2, v, hv, h1, h2, h3⟩⟩
  rcases h.rd with ⟨k1, k2⟩ | ⟨k1, g', cap', k2, k3, k4, k5⟩
  · exact .inl ⟨k1, (hp.other 19 (by decide) (by decide)).trans k2⟩
  · exact .inr ⟨k1, g', cap', (hp.other 19 (by decide) (by decide)).trans k2, fun j hj => (hp.far g' j k4 (by omega)).trans (k5 j hj)⟩

/-- When pair queues a flip. -/
def Pushes (X0 Y0 VX VY X1 Y1 UX UY R : Int) : Prop := (UX - VX) * (UX - VX) + (UY - VY) * (UY - VY) ≠ 0 ∧ (((X1 - X0) * (X1 - X0) + (Y1 - Y0) * (Y1 - Y0) - R * R) ≤ 0 ∨ ((2 * ((X1 - X0) * (UX - VX) + (Y1 - Y0) * (UY - VY))) < 0 ∧ 0 ≤ (2 * ((X1 - X0) * (UX - VX) + (Y1 - Y0) * (UY - VY))) * (2 * ((X1 - X0) * (UX - VX) + (Y1 - Y0) * (UY - VY))) - 4 * ((UX - VX) * (UX - VX) + (UY - VY) * (UY - VY)) * ((X1 - X0) * (X1 - X0) + (Y1 - Y0) * (Y1 - Y0) - R * R)))

set_option maxRecDepth 100000 in
set_option maxHeartbeats 4000000 in
theorem pair_calls (T nb xb lb ta x0 y0 vx vy x1 y1 ux uy r2 base : Nat) (A X0 Y0 VX VY X1 Y1 UX UY R : Int) (was : Bool) (w : World) (hn : Nums ta x0 y0 vx vy x1 y1 ux uy r2 A X0 Y0 VX VY X1 Y1 UX UY R) (ht : Trk w T nb xb lb ta x0 y0 vx vy x1 y1 ux uy r2) (he : Ent w T lb was) (hbase : base ≤ lb) :
    Calls Yba.prog 14 #[.pointer (some ⟨T, 0, none⟩), .int .i64 0, .int .i64 1, .float .f64 ta] w fun e w' => e = .returned (.tuple #[]) ∧ Done base T lb ta w w' was (decide (((X1 - X0) * (X1 - X0) + (Y1 - Y0) * (Y1 - Y0) - R * R) ≤ 0)) A (Pushes X0 Y0 VX VY X1 Y1 UX UY R) := by
  obtain ⟨xa, ya, xb', yb, dx, dy, c, a1, a2, gg, n1, n2, n3⟩ := hn.now
  have hh := hn.hor
  obtain ⟨hA, hx0, hy0, hvx, hvy, hx1, hy1, hux, huy, hr, bA, b1, b2, b3, b4, b5, b6, b7, b8, b9⟩ := hn
  have s1 := nabs (a := X1 - X0) (b := X1 - X0) (m := 255) (n := 255) (by omega) (by omega)
  have s2 := nabs (a := Y1 - Y0) (b := Y1 - Y0) (m := 255) (n := 255) (by omega) (by omega)
  have s3 := nabs (a := R) (b := R) (m := 255) (n := 255) (by omega) (by omega)
  have t1 := sq_nonneg (X1 - X0)
  have t2 := sq_nonneg (Y1 - Y0)
  have t3 := sq_nonneg R
  have oc : (FloatKind.f64.format.order c 0 = some .lt ∧ decide (((X1 - X0) * (X1 - X0) + (Y1 - Y0) * (Y1 - Y0) - R * R) ≤ 0) = true) ∨ (FloatKind.f64.format.order c 0 = some .eq ∧ decide (((X1 - X0) * (X1 - X0) + (Y1 - Y0) * (Y1 - Y0) - R * R) ≤ 0) = true) ∨ (FloatKind.f64.format.order c 0 = some .gt ∧ decide (((X1 - X0) * (X1 - X0) + (Y1 - Y0) * (Y1 - Y0) - R * R) ≤ 0) = false) := by
    rcases Int.lt_trichotomy ((X1 - X0) * (X1 - X0) + (Y1 - Y0) * (Y1 - Y0) - R * R) 0 with h | h | h
    · exact .inl ⟨n3.lt0 h, decide_eq_true (by omega)⟩
    · exact .inr (.inl ⟨n3.eq0 h, decide_eq_true (by omega)⟩)
    · exact .inr (.inr ⟨n3.gt0 h, decide_eq_false (by omega)⟩)
  have hP : Pushes X0 Y0 VX VY X1 Y1 UX UY R ↔ ((UX - VX) * (UX - VX) + (UY - VY) * (UY - VY) ≠ 0 ∧ (((X1 - X0) * (X1 - X0) + (Y1 - Y0) * (Y1 - Y0) - R * R) ≤ 0 ∨ ((2 * ((X1 - X0) * (UX - VX) + (Y1 - Y0) * (UY - VY))) < 0 ∧ 0 ≤ (2 * ((X1 - X0) * (UX - VX) + (Y1 - Y0) * (UY - VY))) * (2 * ((X1 - X0) * (UX - VX) + (Y1 - Y0) * (UY - VY))) - 4 * ((UX - VX) * (UX - VX) + (UY - VY) * (UY - VY)) * ((X1 - X0) * (X1 - X0) + (Y1 - Y0) * (Y1 - Y0) - R * R)))) := Iff.rfl
  have hev : (2 * ((X1 - X0) * (UX - VX) + (Y1 - Y0) * (UY - VY))) % 2 = 0 := by omega
  generalize Pushes X0 Y0 VX VY X1 Y1 UX UY R = P at *
  have bC : -65025 ≤ ((X1 - X0) * (X1 - X0) + (Y1 - Y0) * (Y1 - Y0) - R * R) ∧ ((X1 - X0) * (X1 - X0) + (Y1 - Y0) * (Y1 - Y0) - R * R) ≤ 130050 := by omega
  clear s1 s2 s3 t1 t2 t3
  go_enter Yba.func14, Yba.ntmps14
  refine plook T nb xb lb ta x0 y0 vx vy x1 y1 ux uy r2 base c dx dy xa ya xb' yb A was _ w (fun w' => Done base T lb ta w w' was (decide (((X1 - X0) * (X1 - X0) + (Y1 - Y0) * (Y1 - Y0) - R * R) ≤ 0)) A P) ht he hbase hA a1 a2 gg oc ?_ _ _ _ _ _ _ _ _ _ _ _ _ _ _ _ _ _ _ _ _ _ _ _ _ _ _ _ _ _ _ _ _ _ _ _ _ _ _ _ _ _ _ _ _ _ _ _ _ _ _ _ _ _ _ _ _ _ _ _ _ _ _ _ _ _ _ _ _ _ _ _ _ _ _ _ _ _ _ _ _ _ _ _ _ _ _ _ _ _ _ _ _ _ _ _ _ _ _ _ _ _ _ _ _ _ _ _ _ _ _ _ _ _ _ _ _ _ _ _ _ _ _ _ _ _ _ _ _ _ _ _ _ _ _ _ _ _ _ _ _ _ _ _ _ _ _ _ _ _ _ _ _ _ _ _ _ _ _ _ _ _ _ _ _ _ _ _ _ _ _ _ _ _ _ _ _ _ _ _ _ _ _ _ _ _ _ _ _ _ _ _ _ _ _ _ _ _ _ _ _ _ _ _ _ _ _ _ _ _ _ _ _ _ _ _ _ _ _ _ _ _ _ _ _ _ _ _ _ _ _ _ _ _ _ _ _ _ _ _ _ _ _ _ _ _ _ _ _ _ _ _ _ _ _ _ _ _ _ _ _ _ _ _ _ _ _ _ _ _ _ _ _ _ _ _ _ _
  intro w1 ht1 hl
  intros
  refine pcoef T nb xb lb ta x0 y0 vx vy x1 y1 ux uy r2 c dx dy VX VY UX UY (X1 - X0) (Y1 - Y0) ((X1 - X0) * (X1 - X0) + (Y1 - Y0) * (Y1 - Y0) - R * R) _ w1 _ ht1 hvx hvy hux huy n1 n2 n3 (by omega) (by omega) (by omega) (by omega) (by omega) ?_ ?_ _ _ _ _ _ _ _ _ _ _ _ _ _ _ _ _ _ _ _ _ _ _ _ _ _ _ _ _ _ _ _ _ _ _ _ _ _ _ _ _ _ _ _ _ _ _ _ _ _ _ _ _ _ _ _ _ _ _ _ _ _ _ _ _ _ _ _ _ _ _ _ _ _ _ _ _ _ _ _ _ _ _ _ _ _ _ _ _ _ _ _ _ _ _ _ _ _ _ _ _ _ _ _ _ _ _ _ _ _ _ _ _ _ _ _ _ _ _ _ _ _ _ _ _ _ _ _ _ _ _ _ _ _ _ _ _ _ _ _ _ _ _ _ _ _ _ _ _ _ _ _ _ _ _ _ _ _ _ _ _ _ _ _ _ _ _ _ _ _ _ _ _ _ _ _ _ _ _ _ _ _ _ _ _ _ _ _ _ _ _ _ _ _ _ _ _ _ _ _ _ _ _ _ _ _ _ _ _ _ _ _ _ _ _ _ _ _ _ _ _ _ _ _ _ _ _ _ _ _ _ _ _ _ _ _ _ _ _ _ _ _ _ _ _ _ _ _ _ _ _ _ _ _ _ _ _ _ _ _ _ _ _ _ _ _ _ _ _ _ _
  · intro h q
    exact done_no (ht1.drew q) (hl.drew q) (fun k => (hP.1 k).1 h)
  · intro hq q qa qb disc k1 k2 k3 k4 k5 k6
    intros
    obtain ⟨th, hth, oth⟩ := hh (by
      by_cases e1 : UX - VX = 0
      · by_cases e2 : UY - VY = 0
        · rw [e1, e2] at hq; exact absurd rfl hq
        · exact .inr e2
      · exact .inl e1)
    have hb1 : 1 ≤ (UX - VX) * (UX - VX) + (UY - VY) * (UY - VY) ∧ (UX - VX) * (UX - VX) + (UY - VY) * (UY - VY) ≤ 130050 := by omega
    by_cases hw : ((X1 - X0) * (X1 - X0) + (Y1 - Y0) * (Y1 - Y0) - R * R) ≤ 0
    · have hP' : P := hP.2 ⟨hq, .inl hw⟩
      have ew : decide (((X1 - X0) * (X1 - X0) + (Y1 - Y0) * (Y1 - Y0) - R * R) ≤ 0) = true := decide_eq_true hw
      clear hP hq k5 k6 oc
      rw [ew] at hl ⊢
      generalize ((X1 - X0) * (X1 - X0) + (Y1 - Y0) * (Y1 - Y0) - R * R) = C at *
      generalize (2 * ((X1 - X0) * (UX - VX) + (Y1 - Y0) * (UY - VY))) = QB at *
      generalize (UX - VX) * (UX - VX) + (UY - VY) * (UY - VY) = QA at *
      refine pct T nb xb lb ta x0 y0 vx vy x1 y1 ux uy r2 c qa qb disc th A QA QB C (w1.drewN q) _ (ht1.drew q) hA k1 k2 k3 n3 bA hb1 k4 ⟨bC.1, hw⟩ hth oth ?_ _ _ _ _ _ _ _ _ _ _ _ _ _ _ _ _ _ _ _ _ _ _ _ _ _ _ _ _ _ _ _ _ _ _ _ _ _ _ _ _ _ _ _ _ _ _ _ _ _ _ _ _ _ _ _ _ _ _ _ _ _ _ _ _ _ _ _ _ _ _ _ _ _ _ _ _ _ _ _ _ _ _ _ _ _ _ _ _ _ _ _ _ _ _ _ _ _ _ _ _ _ _ _ _ _ _ _ _ _ _ _ _ _ _ _ _ _ _ _ _ _ _ _ _ _ _ _ _ _ _ _ _ _ _ _ _ _ _ _ _ _ _ _ _ _ _ _ _ _ _ _ _ _ _ _ _ _ _ _ _ _ _ _ _ _ _ _ _ _ _ _ _ _ _ _ _ _ _ _ _ _ _ _ _ _ _ _ _ _ _ _ _ _ _ _ _ _ _ _ _ _ _ _ _ _ _ _ _ _ _ _ _ _ _ _ _ _ _ _ _ _ _ _ _ _ _ _ _ _ _ _ _ _ _ _ _ _ _ _ _ _ _ _ _ _ _ _ _ _ _ _ _ _ _ _ _ _ _ _ _ _ _ _ _ _ _ _ _ _
      intro nd z w' j1 j2 j3 j4
      exact done_put (ht1.drew q) (hl.drew q) hbase hP' j4 j1 j2 (fun _ => rfl) (fun h => absurd h (by decide))
    · have ew : decide (((X1 - X0) * (X1 - X0) + (Y1 - Y0) * (Y1 - Y0) - R * R) ≤ 0) = false := decide_eq_false hw
      clear k5 k6 oc
      rw [ew] at hl ⊢
      generalize ((X1 - X0) * (X1 - X0) + (Y1 - Y0) * (Y1 - Y0) - R * R) = C at *
      generalize (2 * ((X1 - X0) * (UX - VX) + (Y1 - Y0) * (UY - VY))) = QB at *
      generalize (UX - VX) * (UX - VX) + (UY - VY) * (UY - VY) = QA at *
      refine pcf T nb xb lb ta x0 y0 vx vy x1 y1 ux uy r2 c qa qb disc th A QA QB C (w1.drewN q) _ (ht1.drew q) hA k1 k2 k3 n3 bA hb1 k4 ⟨by omega, bC.2⟩ hth oth hev ?_ ?_ _ _ _ _ _ _ _ _ _ _ _ _ _ _ _ _ _ _ _ _ _ _ _ _ _ _ _ _ _ _ _ _ _ _ _ _ _ _ _ _ _ _ _ _ _ _ _ _ _ _ _ _ _ _ _ _ _ _ _ _ _ _ _ _ _ _ _ _ _ _ _ _ _ _ _ _ _ _ _ _ _ _ _ _ _ _ _ _ _ _ _ _ _ _ _ _ _ _ _ _ _ _ _ _ _ _ _ _ _ _ _ _ _ _ _ _ _ _ _ _ _ _ _ _ _ _ _ _ _ _ _ _ _ _ _ _ _ _ _ _ _ _ _ _ _ _ _ _ _ _ _ _ _ _ _ _ _ _ _ _ _ _ _ _ _ _ _ _ _ _ _ _ _ _ _ _ _ _ _ _ _ _ _ _ _ _ _ _ _ _ _ _ _ _ _ _ _ _ _ _ _ _ _ _ _ _ _ _ _ _ _ _ _ _ _ _ _ _ _ _ _ _ _ _ _ _ _ _ _ _ _ _ _ _ _ _ _ _ _ _ _ _ _ _ _ _ _ _ _ _ _ _ _ _ _ _ _ _ _ _ _ _ _ _ _ _ _ _ _
      · intro h
        exact done_no (ht1.drew q) (hl.drew q) (fun k => by
          rcases (hP.1 k).2 with j | j
          · exact hw j
          · exact h j)
      · intro i1 i2 up nd vu z w' j1 j2 j3 j4 j5 j6
        exact done_put (ht1.drew q) (hl.drew q) hbase (hP.2 ⟨hq, .inr ⟨i1, i2⟩⟩) j6 j1 j3 (fun h => absurd h (by decide)) (fun _ => ⟨z, j2, j4, j5⟩)
end Go.Proofs.Ybulkawyi
