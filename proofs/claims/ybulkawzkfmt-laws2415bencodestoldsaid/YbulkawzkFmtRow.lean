import Derived.Test.YbulkawzkFmtRefD
import Derived.Laws.CopyOwn
namespace Go.Proofs.YbulkawzkFmt
open Go.RowKit Go.Extern.Stop Go.Stop Go.Extern
set_option linter.unusedVariables false

theorem add_block (a : Addr) (j : Nat) : (a.add j).block = a.block := by unfold Addr.add; split <;> rfl
section
variable {P : Program}
theorem run_copyK (w : World) (dT sT ty elem : TypeId) (i : TypeInfo) (size n : Nat) (g o dLen dCap : Nat) (a : Addr) (sLen sCap : Nat) (cur : Array Value) (t : TypeId) (cs : List Value)
    (hu : P.underlying dT = some (.slice elem)) (hi : P.info? elem = some i) (hs : i.size = size)
    (hg : w.heap[g]? = some (.cells cur t (0, 0))) (hm : n = Nat.min sLen dLen) (hn : cs.length = n * size)
    (hsrc : ∀ j v, cs[j]? = some v → w.cell? (a.add j) = some v) (hfit : o + cs.length ≤ cur.size) (h1 : ∀ v ∈ cs, v.oneCell' = true) :
    (Builtin.copy_ #[dT, sT] ty #[.slice (some ⟨g, o, none⟩) dLen dCap, .slice (some a) sLen sCap]).run P w =
      .ok (goInt n) (w.setRow g (cur.toList.take o ++ cs ++ cur.toList.drop (o + cs.length)).toArray) := by
  have hl := run_loadCells_list (P := P) w a cs hsrc
  have hst := run_storeCells_at P g o t cs 0 cur w hg (by simpa using hfit) h1
  rw [hn] at hl
  simp [Builtin.copy_, run_underlying hu, Builtin.lenOf, Builtin.firstCells, sizeOf, typeInfo, hi, hs, ← hm, hl, hst]
end

/-- A new row of bytes or integers, filled off another row: the cells 'cs'. -/
theorem filled {w : World} (dT elem : TypeId) (i : TypeInfo) (z : Array Value) (n : Nat) (a : Addr) (sCap : Nat) (cs : List Value) (hu : Ybaf.prog.underlying dT = some (.slice elem)) (hi : Ybaf.prog.info? elem = some i) (hs : i.size = 1)
    (hn : cs.length = n) (hm : n ≤ maxLen) (hsrc : ∀ j v, cs[j]? = some v → w.cell? (a.add j) = some v) (ha : 0 < n → a.block < w.heap.size) (h1 : ∀ v ∈ cs, v.oneCell' = true) :
    ∃ W2, (Builtin.copy_ #[dT, dT] 3 #[.slice (some ⟨w.heap.size, 0, none⟩) n n, .slice (some a) n sCap]).run Ybaf.prog (w.alloc (.cells (madeCells z n) elem)) = .ok (goInt n) W2 ∧
      W2.ownsRow w.heap.size elem 1 (.slice (some ⟨w.heap.size, 0, none⟩) n n) n cs ∧ Below w.heap.size w W2 := by
  have hsrc' : ∀ j v, cs[j]? = some v → (w.alloc (.cells (madeCells z n) elem)).cell? (a.add j) = some v := by
    intro j v hj
    have hlt : j < cs.length := by
      rcases Nat.lt_or_ge j cs.length with h | h
      · exact h
      · rw [List.getElem?_eq_none h] at hj; cases hj
    rw [World.cell?_alloc_lt w _ (a.add j) (by rw [add_block]; exact ha (by omega))]
    exact hsrc j v hj
  have h := run_copyK (P := Ybaf.prog) (w.alloc (.cells (madeCells z n) elem)) dT dT 3 elem i 1 n w.heap.size 0 n n a n sCap (madeCells z n) elem cs hu hi hs (heap_alloc_new w _) (by show n = min n n; omega) (by omega) hsrc' (by rw [size_madeCells]; omega) h1
  have hb : (madeCells z n).toList.take 0 ++ cs ++ (madeCells z n).toList.drop (0 + cs.length) = cs := by
    rw [List.take_zero, List.nil_append, List.drop_eq_nil_of_le (by simp [size_madeCells, hn]), List.append_nil]
  rw [hb] at h
  refine ⟨_, h, ?_, ?_⟩
  · refine ⟨by omega, .inr ⟨w.heap.size, n, cs.toArray, rfl, Nat.le_refl _, setRow_heap _ _ _ _ _ _ (heap_alloc_new w _), Nat.le_refl _, hm, by simp [hn], ?_⟩⟩
    show cs.take (n * 1) = cs
    rw [List.take_of_length_le (by omega)]
  · refine ((Below.refl _ w).alloc (Nat.le_refl _) _).trans ⟨rfl, rfl, rfl, by simp [World.setRow], fun k hk => setRow_other _ _ _ _ (by omega)⟩
end Go.Proofs.YbulkawzkFmt
