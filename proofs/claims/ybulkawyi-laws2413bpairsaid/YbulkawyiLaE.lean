import Derived.Test.YbulkawyiLaD
import Derived.BigRegion
import Derived.Deep.OwnRows
namespace Go.Proofs.Ybulkawyi
open Go.RowKit
attribute [local go_sem] run_store_float
set_option linter.unusedVariables false

theorem info4 : (Yba.prog.info? 4).map (fun i => (i.zero, i.size, i.bytes)) = some (some (.bool false), 1, 1) := by kernel_rfl
theorem made4 : madeCells #[Value.bool false] 4 = #[.bool false, .bool false, .bool false, .bool false] := by kernel_rfl
theorem made2 : madeCells #[Value.bool false] 2 = #[.bool false, .bool false] := by kernel_rfl
theorem mk4 (w : World) : (Instr.makeSlice 61 (.int .i64 4) (.int .i64 4)).run Yba.prog w = .ok (.slice (some ⟨w.heap.size, 0, none⟩) 4 4) (w.alloc (.cells #[.bool false, .bool false, .bool false, .bool false] 4)) := by
  rw [← made4]
  exact run_make_row' (P := Yba.prog) 61 4 (.bool false) 1 Yba.underlying61 info4 rfl .i64 .i64 4 (by omega) (by omega) w
theorem mk2 (w : World) : (Instr.makeSlice 61 (.int .i64 2) (.int .i64 2)).run Yba.prog w = .ok (.slice (some ⟨w.heap.size, 0, none⟩) 2 2) (w.alloc (.cells #[.bool false, .bool false] 4)) := by
  rw [← made2]
  exact run_make_row' (P := Yba.prog) 61 4 (.bool false) 1 Yba.underlying61 info4 rfl .i64 .i64 2 (by omega) (by omega) w

/-- The block b holds the row xs. -/
structure Row (W : World) (b : Nat) (xs : List Value) : Prop where
  cell : ∀ j u, xs[j]? = some u → W.cell? ⟨b, j, none⟩ = some u
  lt : b < W.heap.size
  fz : ∀ o, W.frozen? ⟨b, o, none⟩ = false

theorem frozen_new (W : World) (xs : Array Value) (t : TypeId) (o : Nat) : (W.alloc (.cells xs t)).frozen? ⟨W.heap.size, o, none⟩ = false := by simp
theorem Row.new {W : World} {b : Nat} {xs : List Value} {t : TypeId} (h : b = W.heap.size) : Row (W.alloc (.cells xs.toArray t)) b xs := by
  subst h
  refine ⟨fun j u hu => ?_, by simp, fun o => frozen_new W _ t o⟩
  simpa using hu
theorem Row.old {W : World} {b : Nat} {xs : List Value} {o : Obj} (h : Row W b xs) : Row (W.alloc o) b xs :=
  ⟨fun j u hu => (calloc h.lt).trans (h.cell j u hu), by have := h.lt; simp; omega, fun p => (falloc h.lt).trans (h.fz p)⟩

def nodeRow (ta x0 y0 vx vy x1 y1 ux uy : Nat) : List Value := [.float .f64 ta, .float .f64 x0, .float .f64 y0, .float .f64 vx, .float .f64 vy, .float .f64 9218868437227405312, .float .f64 0, .float .f64 0, .float .f64 ta, .float .f64 x1, .float .f64 y1, .float .f64 ux, .float .f64 uy, .float .f64 9218868437227405312, .float .f64 0, .float .f64 0]
def trkRow (r2 n x l m : Nat) : List Value := [.int .i64 2, .float .f64 r2, .float .f64 4741671816366391296, .slice none 0 0, .slice none 0 0, .slice none 0 0, .int .i64 0, .slice (some ⟨n, 0, none⟩) 2 2, .slice (some ⟨x, 0, none⟩) 2 2, .slice (some ⟨l, 0, none⟩) 4 4, .float .f64 0, .slice none 0 0, .slice (some ⟨m, 0, none⟩) 2 2, .slice none 0 0, .int .i64 0, .map none, .slice none 0 0, .slice none 0 0, .int .i64 0, .slice none 0 0]

theorem below4 (w : World) (a b c d : Obj) : Below w.heap.size w ((((w.alloc a).alloc b).alloc c).alloc d) :=
  ((((Below.refl _ w).alloc (Nat.le_refl _) a).alloc (by simp) b).alloc (by simp; omega) c).alloc (by simp; omega) d

theorem laid_of {base T nb xb lb ta x0 y0 vx vy x1 y1 ux uy r2 m : Nat} {w0 w W : World} (hb : Below base w0 w) (hbase : base ≤ w.heap.size) (hW : Below w.heap.size w W)
    (hn : Row W nb (nodeRow ta x0 y0 vx vy x1 y1 ux uy)) (hx : Row W xb [.float .f64 9218868437227405312, .float .f64 9218868437227405312]) (hl : Row W lb [.bool false, .bool false, .bool false, .bool false])
    (h1 : w.heap.size ≤ lb) (h2 : xb ≠ lb) (h3 : nb ≠ lb) (hT : T = W.heap.size) :
    Laid base w0 (World.drew (W.alloc (.cells (trkRow r2 nb xb lb m).toArray 71))) T nb xb lb ta x0 y0 vx vy x1 y1 ux uy r2 := by
  have ht : Row (W.alloc (.cells (trkRow r2 nb xb lb m).toArray 71)) T (trkRow r2 nb xb lb m) := Row.new hT
  have hn' := hn.old (o := .cells (trkRow r2 nb xb lb m).toArray 71)
  have hx' := hx.old (o := .cells (trkRow r2 nb xb lb m).toArray 71)
  have hl' := hl.old (o := .cells (trkRow r2 nb xb lb m).toArray 71)
  have l1 := hn.lt
  have l2 := hx.lt
  have l3 := hl.lt
  have hB : Below base w0 (W.alloc (.cells (trkRow r2 nb xb lb m).toArray 71)) := (hb.trans (hW.mono hbase)).alloc (by have := hW.size; omega) _
  exact ⟨⟨hB.os, hB.tape, hB.output, hB.size, hB.block⟩, by omega, ht.cell 0 _ rfl, ht.cell 1 _ rfl, ht.cell 2 _ rfl, ht.cell 7 _ rfl, ht.cell 8 _ rfl, ht.cell 9 _ rfl,
    ⟨hn'.cell 0 _ rfl, hn'.cell 1 _ rfl, hn'.cell 2 _ rfl, hn'.cell 3 _ rfl, hn'.cell 4 _ rfl, hn'.cell 5 _ rfl⟩,
    ⟨hn'.cell 8 _ rfl, hn'.cell 9 _ rfl, hn'.cell 10 _ rfl, hn'.cell 11 _ rfl, hn'.cell 12 _ rfl, hn'.cell 13 _ rfl⟩,
    hx'.cell 0 _ rfl, hx'.cell 1 _ rfl, ht.cell 13 _ rfl, ht.cell 14 _ rfl, ht.cell 18 _ rfl, ht.cell 19 _ rfl, hl'.cell 0 _ rfl, hl'.cell 1 _ rfl, hl'.cell 2 _ rfl, hl'.cell 3 _ rfl,
    ht.fz, hl'.fz, by omega, by omega, by omega, h2, h3, ht.lt⟩

end Go.Proofs.Ybulkawyi
