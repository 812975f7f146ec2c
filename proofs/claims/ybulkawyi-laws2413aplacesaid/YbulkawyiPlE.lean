import Derived.Test.YbulkawyiPlD
import Derived.Laws.MakeOwn
import Derived.Laws.OwnMore
namespace Go.Proofs.Ybulkawyi
open Go.RowKit
set_option linter.unusedVariables false

def Z6 : Array Value := #[.int .u64 0, .float .f64 0, .bool false, .int .i64 0, .int .u64 0, .int .u64 0]
theorem mk48 (n : Nat) (hn : n ≤ 6) (w : World) : (Instr.makeSlice 26 (.int .i64 n) (.int .i64 n)).run Yba.prog w = .ok (.slice (some ⟨w.heap.size, 0, none⟩) n n) (w.alloc (.cells (madeCells Z6 (n * 6)) 48)) := by
  obtain ⟨i0, hi, hz0, hz1, hz2⟩ := info_parts info48
  have h := run_makeSlice (P := Yba.prog) w 26 48 i0 _ Yba.underlying26 hi hz0 .i64 .i64 n n (by omega) (Int.le_refl _) (by rw [hz1]; simp; omega) (by rw [hz2]; omega) (by omega)
  rw [hz1] at h
  simpa [Z6, Value.cells] using h

theorem row_cells {w : World} {g n : Nat} {L : List Nb} (h : RowAt w (some ⟨g, 0, none⟩) n L) : ∀ j u, (flat L)[j]? = some u → w.cell? ⟨g, j, none⟩ = some u := by
  intro j u hj
  have hl := getElem?_lt hj
  rw [flat_length] at hl
  obtain ⟨k, r, hr, rfl⟩ : ∃ k r, r < 6 ∧ j = k * 6 + r := ⟨j / 6, j % 6, Nat.mod_lt _ (by omega), by omega⟩
  obtain ⟨b, hb⟩ : ∃ b, L[k]? = some b := ⟨_, List.getElem?_eq_getElem (by omega)⟩
  obtain ⟨g', e1, _, _, e4⟩ := h k b hb
  cases e1
  rw [e4 r hr, ← flat_get hb r hr, hj]

theorem own_of_block {W : World} {base g n : Nat} {L : List Nb} (h : W.heap[g]? = some (.cells (flat L).toArray 48 (0, 0))) (hn : L.length = n) (hb : base ≤ g) (h6 : n ≤ 6) : W.ownsRow base 48 6 (.slice (some ⟨g, 0, none⟩) n n) n (flat L) := by
  refine ⟨by rw [flat_length, hn], .inr ⟨g, n, (flat L).toArray, rfl, hb, h, Nat.le_refl _, by unfold maxLen; omega, by simp [flat_length, hn], ?_⟩⟩
  show (flat L).take (n * 6) = flat L
  rw [List.take_of_length_le (by rw [flat_length, hn]; omega)]

theorem dup {w : World} {g n c : Nat} {L : List Nb} (hr : RowAt w (some ⟨g, 0, none⟩) n L) (hn : L.length = n) (h6 : n ≤ 6) (hg : g < w.heap.size) :
    ∃ W2, (Builtin.copy_ #[26, 26] 3 #[.slice (some ⟨w.heap.size, 0, none⟩) n n, .slice (some ⟨g, 0, none⟩) n c]).run Yba.prog (w.alloc (.cells (madeCells Z6 (n * 6)) 48)) = .ok (goInt n) W2 ∧
      W2.ownsRow w.heap.size 48 6 (.slice (some ⟨w.heap.size, 0, none⟩) n n) n (flat L) ∧ Below w.heap.size w W2 := by
  obtain ⟨i0, hi, hz0, hz1, hz2⟩ := info_parts info48
  have hsrc : ∀ j v, (flat L)[j]? = some v → (w.alloc (.cells (madeCells Z6 (n * 6)) 48)).cell? ((⟨g, 0, none⟩ : Addr).add j) = some v := by
    intro j v hj
    rw [Go.WideShapes.add_plain, Nat.zero_add, calloc hg]
    exact row_cells hr j v hj
  obtain ⟨W2, h1, h2, h3⟩ := copied (P := Yba.prog) (w.alloc (.cells (madeCells Z6 (n * 6)) 48)) 26 26 3 48 i0 6 n w.heap.size 0 n n ⟨g, 0, none⟩ n c (madeCells Z6 (n * 6)) 48 (flat L) Yba.underlying26 hi hz1 (heap_alloc_new w _) (by show n = min n n; omega) (by rw [flat_length, hn]) hsrc (by rw [flat_length, hn, size_madeCells]; omega) (flat_one L)
  have hb : (madeCells Z6 (n * 6)).toList.take 0 ++ flat L ++ (madeCells Z6 (n * 6)).toList.drop (0 + (flat L).length) = flat L := by
    rw [List.take_zero, List.nil_append, List.drop_eq_nil_of_le (by simp [size_madeCells, flat_length, hn]), List.append_nil]
  rw [hb] at h2
  refine ⟨W2, h1, own_of_block h2 hn (Nat.le_refl _) h6, ?_⟩
  exact Below.grown ((Below.refl _ w).alloc (Nat.le_refl _) _) h3 (by simp) (fun j hj => by cases hj; omega)

/-- .. and one of its cells written. -/
theorem dup_set {W2 : World} {base g n I : Nat} {L : List Nb} {b : Nb} (s : Int) (ho : W2.ownsRow base 48 6 (.slice (some ⟨g, 0, none⟩) n n) n (flat L)) (hn : L.length = n) (hb : L[I]? = some b) :
    (∃ v, W2.cell? ⟨g, I * 6 + 4, none⟩ = some v) ∧ W2.frozen? ⟨g, I * 6 + 4, none⟩ = false ∧ RowAt (W2.setCell ⟨g, I * 6 + 4, none⟩ (.int .u64 s)) (some ⟨g, 0, none⟩) n (L.set I { b with seq := s }) := by
  have hI := getElem?_lt hb
  have hst := (ho.stored (I * 6 + 4) (.int .u64 s)).1
  rw [← flat_set hb] at hst
  refine ⟨⟨_, (ho.cellAt (I * 6 + 4) (by omega)).trans (flat_get hb 4 (by omega))⟩, ho.frozenAt _, RowAt.of_own hst (by rw [List.length_set, hn])⟩
end Go.Proofs.Ybulkawyi
