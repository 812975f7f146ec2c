import Derived.Test.YbulkawyiPrI
namespace Go.Proofs.Ybulkawyi
open Go.RowKit
attribute [local go_sem] run_store_float
set_option linter.unusedVariables false

/-- The links before, and the tracker's empty list. -/
structure Ent (w : World) (T lb : Nat) (was : Bool) : Prop where
  l0 : w.cell? ⟨lb, 0, none⟩ = some (.bool false)
  l1 : w.cell? ⟨lb, 1, none⟩ = some (.bool was)
  l2 : w.cell? ⟨lb, 2, none⟩ = some (.bool false)
  l3 : w.cell? ⟨lb, 3, none⟩ = some (.bool false)
  rd : w.cell? ⟨T, 19, none⟩ = some (.slice none 0 0)
  fl : ∀ o, w.frozen? ⟨lb, o, none⟩ = false

def chg (ta : Nat) (wi : Bool) : List Value := [.float .f64 ta, .int .i64 0, .int .i64 1, .bool wi]

/-- The links after, and the list of changes. -/
structure Look (base : Nat) (w w1 : World) (T lb ta : Nat) (was wi : Bool) : Prop where
  below : Below base w w1
  l0 : w1.cell? ⟨lb, 0, none⟩ = some (.bool false)
  l1 : w1.cell? ⟨lb, 1, none⟩ = some (.bool wi)
  l2 : w1.cell? ⟨lb, 2, none⟩ = some (.bool false)
  l3 : w1.cell? ⟨lb, 3, none⟩ = some (.bool false)
  rd : (was = wi ∧ w1.cell? ⟨T, 19, none⟩ = some (.slice none 0 0)) ∨ (was ≠ wi ∧ ∃ g cap, w1.cell? ⟨T, 19, none⟩ = some (.slice (some ⟨g, 0, none⟩) 1 cap) ∧ T < g ∧ g < w1.heap.size ∧ ∀ j, j < 4 → w1.cell? ⟨g, j, none⟩ = (chg ta wi)[j]?)

theorem Look.drew {base : Nat} {w w1 : World} {T lb ta : Nat} {was wi : Bool} (h : Look base w w1 T lb ta was wi) (q : Nat) : Look base w (w1.drewN q) T lb ta was wi :=
  ⟨bdrew h.below q, h.l0, h.l1, h.l2, h.l3, h.rd⟩

theorem Look.undrew {base : Nat} {w w1 : World} {T lb ta q : Nat} {was wi : Bool} (h : Look base (w.drewN q) w1 T lb ta was wi) : Look base w w1 T lb ta was wi :=
  ⟨(bdrew (Below.refl base w) q).trans h.below, h.l0, h.l1, h.l2, h.l3, h.rd⟩
theorem Ent.drew {w : World} {T lb : Nat} {was : Bool} (h : Ent w T lb was) (q : Nat) : Ent (w.drewN q) T lb was := ⟨h.l0, h.l1, h.l2, h.l3, h.rd, h.fl⟩
theorem Ent.same {w : World} {T lb ta base : Nat} {was : Bool} (h : Ent w T lb was) : Look base w w T lb ta was was := ⟨Below.refl _ _, h.l0, h.l1, h.l2, h.l3, .inl ⟨rfl, h.rd⟩⟩

theorem info74 : (Yba.prog.info? 74).map (fun i => (i.zero, i.size, i.bytes)) = some (some (.agg #[.float .f64 0, .int .i64 0, .int .i64 0, .bool false]), 4, 32) := by kernel_rfl

/-- The world behind the report of a change. -/
theorem look_of {T nb xb lb ta x0 y0 vx vy x1 y1 ux uy r2 base : Nat} {was wi : Bool} {w w1 : World} {g cap : Nat} (ht : Trk w T nb xb lb ta x0 y0 vx vy x1 y1 ux uy r2) (he : Ent w T lb was) (hb : base ≤ lb) (hne : was ≠ wi)
    (hown : w1.ownsRow w.heap.size 74 4 (.slice (some ⟨g, 0, none⟩) 1 cap) 1 (chg ta wi)) (hbel : Below w.heap.size (w.setCell ⟨lb, 1, none⟩ (.bool wi)) w1) :
    Trk (w1.setCell ⟨T, 19, none⟩ (.slice (some ⟨g, 0, none⟩) 1 cap)) T nb xb lb ta x0 y0 vx vy x1 y1 ux uy r2 ∧ Look base w (w1.setCell ⟨T, 19, none⟩ (.slice (some ⟨g, 0, none⟩) 1 cap)) T lb ta was wi := by
  have hg : w.heap.size ≤ g ∧ g < w1.heap.size := hown.lt _ rfl
  have hsz := hbel.size
  have hlt := ht.lt
  have hll := ht.ltl
  have hnl := ht.nnl
  have hxl := ht.nxl
  have hln := ht.ltn
  have hlx := ht.ltx
  simp only [World.size_setCell] at hsz
  have cc : ∀ b o, b < w.heap.size → b ≠ T → w1.cell? ⟨b, o, none⟩ = (w.setCell ⟨lb, 1, none⟩ (.bool wi)).cell? ⟨b, o, none⟩ := fun b o h _ => hbel.cell (p := ⟨b, o, none⟩) h
  have cT : ∀ o, w1.cell? ⟨T, o, none⟩ = w.cell? ⟨T, o, none⟩ := fun o => by rw [hbel.cell (p := ⟨T, o, none⟩) hlt, cset_block (by omega)]
  have cN : ∀ o, (w1.setCell ⟨T, 19, none⟩ (.slice (some ⟨g, 0, none⟩) 1 cap)).cell? ⟨nb, o, none⟩ = w.cell? ⟨nb, o, none⟩ := fun o => by rw [cset_block (by omega), hbel.cell (p := ⟨nb, o, none⟩) (by show nb < w.heap.size; omega), cset_block (by omega)]
  have cX : ∀ o, (w1.setCell ⟨T, 19, none⟩ (.slice (some ⟨g, 0, none⟩) 1 cap)).cell? ⟨xb, o, none⟩ = w.cell? ⟨xb, o, none⟩ := fun o => by rw [cset_block (by omega), hbel.cell (p := ⟨xb, o, none⟩) (by show xb < w.heap.size; omega), cset_block (by omega)]
  have cT' : ∀ o, o ≠ 19 → (w1.setCell ⟨T, 19, none⟩ (.slice (some ⟨g, 0, none⟩) 1 cap)).cell? ⟨T, o, none⟩ = w.cell? ⟨T, o, none⟩ := fun o h => by rw [cset_off (by omega), cT]
  have cL : ∀ o, o ≠ 1 → (w1.setCell ⟨T, 19, none⟩ (.slice (some ⟨g, 0, none⟩) 1 cap)).cell? ⟨lb, o, none⟩ = w.cell? ⟨lb, o, none⟩ := fun o h => by rw [cset_block (by omega), hbel.cell (p := ⟨lb, o, none⟩) (by show lb < w.heap.size; omega), cset_off (by omega)]
  have cL1 : (w1.setCell ⟨T, 19, none⟩ (.slice (some ⟨g, 0, none⟩) 1 cap)).cell? ⟨lb, 1, none⟩ = some (.bool wi) := by rw [cset_block (by omega), hbel.cell (p := ⟨lb, 1, none⟩) (by show lb < w.heap.size; omega), cset_same he.l1]
  have fT : ∀ o, (w1.setCell ⟨T, 19, none⟩ (.slice (some ⟨g, 0, none⟩) 1 cap)).frozen? ⟨T, o, none⟩ = false := fun o => by rw [fset, hbel.frozen (p := ⟨T, o, none⟩) hlt, fset]; exact ht.fT o
  refine ⟨⟨(cT' 0 (by decide)).trans ht.n, (cT' 1 (by decide)).trans ht.r2, (cT' 2 (by decide)).trans ht.fz, (cT' 7 (by decide)).trans ht.nodes, (cT' 8 (by decide)).trans ht.nx, (cT' 9 (by decide)).trans ht.ln,
    ⟨(cN _).trans ht.ma.c0, (cN _).trans ht.ma.c1, (cN _).trans ht.ma.c2, (cN _).trans ht.ma.c3, (cN _).trans ht.ma.c4, (cN _).trans ht.ma.c5⟩,
    ⟨(cN _).trans ht.mb.c0, (cN _).trans ht.mb.c1, (cN _).trans ht.mb.c2, (cN _).trans ht.mb.c3, (cN _).trans ht.mb.c4, (cN _).trans ht.mb.c5⟩,
    (cX _).trans ht.i0, (cX _).trans ht.i1, (cT' 13 (by decide)).trans ht.hp, (cT' 14 (by decide)).trans ht.cur, (cT' 18 (by decide)).trans ht.nn, fT, hln, hlx, hll, hxl, hnl, by simp; omega⟩, ?_⟩
  refine ⟨?_, (cL 0 (by decide)).trans he.l0, cL1, (cL 2 (by decide)).trans he.l2, (cL 3 (by decide)).trans he.l3, .inr ⟨hne, g, cap, cset_same ((cT 19).trans he.rd), by omega, by simp; omega, ?_⟩⟩
  · exact ((((Below.refl base w).setCell (Nat.le_trans hb (Nat.le_refl lb)) _)).trans (hbel.mono (by omega))).setCell (show base ≤ T by omega) _
  · intro j hj
    rw [cset_block (by omega)]
    exact hown.cellAt j (by simpa using hj)
end Go.Proofs.Ybulkawyi
