import Derived.Test.YbulkawyiRows
import Derived.WalkKit
import Derived.WalkLawsBesides
import Derived.BigQuiet
import Derived.Deep.RegionWith
import Derived.Deep.QuietTactic
namespace Go.Proofs.Ybulkawyi
open Go.RowKit

theorem run_store_float {P : Program} {w : World} {a : Addr} {m : Mode} (k : FloatKind) (n : Nat) : (store a (.float k n) m).run P w = stored P w a (.float k n) m := run_store P w a _ m rfl

/-! ### small laws on worlds, arguments in the order of use -/
theorem cset_same {w : World} {b o : Nat} {u v : Value} (h : w.cell? ⟨b, o, none⟩ = some u) : (w.setCell ⟨b, o, none⟩ v).cell? ⟨b, o, none⟩ = some v := World.cell?_setCell_same w _ _ h
theorem cset_off {w : World} {b o o' : Nat} {v : Value} (h : o ≠ o') : (w.setCell ⟨b, o, none⟩ v).cell? ⟨b, o', none⟩ = w.cell? ⟨b, o', none⟩ := World.cell?_setCell_other w _ _ _ (by intro e; cases e; exact h rfl)
theorem cset_block {w : World} {b b' o o' : Nat} {v : Value} (h : b ≠ b') : (w.setCell ⟨b, o, none⟩ v).cell? ⟨b', o', none⟩ = w.cell? ⟨b', o', none⟩ := World.cell?_setCell_other w _ _ _ (by intro e; cases e; exact h rfl)
theorem calloc {w : World} {b o : Nat} {x : Obj} (h : b < w.heap.size) : (w.alloc x).cell? ⟨b, o, none⟩ = w.cell? ⟨b, o, none⟩ := World.cell?_alloc_lt w x ⟨b, o, none⟩ h
theorem falloc {w : World} {b o : Nat} {x : Obj} (h : b < w.heap.size) : (w.alloc x).frozen? ⟨b, o, none⟩ = w.frozen? ⟨b, o, none⟩ := World.frozen?_of_block (by exact Below.heap_alloc w x b h)
theorem fset {w : World} {a p : Addr} {v : Value} : (w.setCell a v).frozen? p = w.frozen? p := by simp
theorem cdrew {w : World} {q : Nat} {p : Addr} : (w.drewN q).cell? p = w.cell? p := rfl
theorem fdrew {w : World} {q : Nat} {p : Addr} : (w.drewN q).frozen? p = w.frozen? p := rfl
theorem bdrew {B : Nat} {a w : World} (h : Below B a w) (q : Nat) : Below B a (w.drewN q) := ⟨h.os, h.tape, h.output, h.size, h.block⟩

theorem cells_laid (W : World) (V : Nat) (hV : V = W.heap.size) (t : TypeId) (xs : List Value) (j : Nat) (u : Value) (h : xs[j]? = some u) : (W.alloc (.cells xs.toArray t)).cell? ((⟨V, 0, none⟩ : Addr).add j) = some u := by
  subst hV
  rw [Go.WideShapes.add_plain, World.cell?_alloc_new]
  simpa using h

theorem grown_cell {w w' : World} {r : Option Nat} (h : w.grownBy w' r) (b o : Nat) (hb : b < w.heap.size) (hr : some b ≠ r) : w'.cell? ⟨b, o, none⟩ = w.cell? ⟨b, o, none⟩ :=
  World.cell?_of_block (w := w) (h.block b hb hr)
theorem grown_frozen {w w' : World} {r : Option Nat} (h : w.grownBy w' r) (b o : Nat) (hb : b < w.heap.size) (hr : some b ≠ r) : w'.frozen? ⟨b, o, none⟩ = w.frozen? ⟨b, o, none⟩ :=
  World.frozen?_of_block (w := w) (h.block b hb hr)

theorem own_mono {w : World} {base base' : Nat} {e : TypeId} {size : Nat} {v : Value} {n : Nat} {xs : List Value} (h : w.ownsRow base e size v n xs) (hb : base' ≤ base) : w.ownsRow base' e size v n xs := by
  obtain ⟨h1, h2⟩ := h
  refine ⟨h1, ?_⟩
  rcases h2 with h2 | ⟨g, cap, cur, e1, e2, e3⟩
  · exact .inl h2
  · exact .inr ⟨g, cap, cur, e1, Nat.le_trans hb e2, e3⟩
end Go.Proofs.Ybulkawyi
