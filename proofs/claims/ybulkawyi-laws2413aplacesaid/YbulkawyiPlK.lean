import Derived.Test.YbulkawyiPlJ
namespace Go.Proofs.Ybulkawyi
open Go.RowKit
set_option linter.unusedVariables false

theorem RowAt.moved {w w' : World} {g n : Nat} {L : List Nb} (h : RowAt w (some ⟨g, 0, none⟩) n L) (hg : w'.heap[g]? = w.heap[g]?) (hl : g < w'.heap.size) : RowAt w' (some ⟨g, 0, none⟩) n L := fun k b hk => by
  obtain ⟨g', e1, e2, e3, e4⟩ := h k b hk
  cases e1
  exact ⟨g, rfl, hl, e3, fun j hj => (World.cell?_of_block (w := w) hg).trans (e4 j hj)⟩

theorem pre_of {w0 wN w9 : World} {N M O n c base : Nat} {a : Option Addr} {L : List Nb} {l f lp fp : Int} {ls fs : Bool} {h s : Int} (hb : Below w0.heap.size w0 wN) (hbase : w0.heap.size ≤ base) (hN : N < wN.heap.size) (hNb : w0.heap.size ≤ N) (hO : O < wN.heap.size) (hON : O ≠ N)
    (hM : M < wN.heap.size) (hMN : M ≠ N) (hg : ∀ g, (Value.slice a n c).ownBlock = some g → base ≤ g ∧ g ≠ O ∧ g ≠ M) (hold : RowAt wN (some ⟨O, 0, none⟩) n L) (hl : L.length = n) (hgood : Good L) (hm : ∀ j, wN.cell? ⟨M, j, none⟩ = (msgCells l f lp fp ls fs h s)[j]?)
    (hno : Noted N base wN w9 (Value.slice a n c).ownBlock (noteL L (msgNb l f lp fp ls fs h s))) :
    ∃ an cN, Pre w0 w9 N M (some ⟨O, 0, none⟩) an n (noteL L (msgNb l f lp fp ls fs h s)).length cN L (noteL L (msgNb l f lp fp ls fs h s)) l f lp fp ls fs h s := by
  obtain ⟨an, cN, h1, h2⟩ := hno.near
  have hsz := hno.size
  have hob := hno.other O hO hON (fun e => (hg O e.symm).2.1 rfl)
  have hmb := hno.other M hM hMN (fun e => (hg M e.symm).2.2 rfl)
  refine ⟨an, cN, ⟨hno.os.trans hb.os, hno.tape.trans hb.tape, hno.output.trans hb.output, Nat.le_trans hb.size hsz, fun k hk => ?_⟩, hold.moved hob (by omega), hl, h1, by omega, RowAt.of_own h2 rfl, rfl, hgood, rfl, by omega, fun j => (World.cell?_of_block (w := wN) hmb).trans (hm j)⟩
  have := hb.size
  rw [hno.other k (by omega) (by omega) (fun e => by have := (hg k e.symm).1; omega)]
  exact hb.block k hk

theorem copy_nil (g : Nat) (w : World) : (Builtin.copy_ #[26, 26] 3 #[.slice (some ⟨g, 0, none⟩) 0 0, .slice none 0 0]).run Yba.prog w = .ok (goInt 0) w := by kernel_rfl

def nodeCells (z : Array Value) (a : Option Addr) (n c : Nat) : Array Value := z.setIfInBounds 38 (.slice a n c)
theorem build45n (a : Option Addr) (n c : Nat) (w : World) : (Instr.build 45 #[(25, .slice a n c)]).run Yba.prog w = .ok (.agg (nodeCells Yba.zeroCells45 a n c)) w := by kernel_rfl
theorem wp_build45n {o : Oper} {x : Act} {next : Act → World → Prop} {Q : Exit → Act → World → Prop} {w : World} (t : Tmp) (a : Option Addr) (n c : Nat) (ho : o.op = .build 45 #[(25, .tmp t)]) (hv : x.eval (.tmp t) = .slice a n c) (h : next (x.put o.dst (.agg (nodeCells Yba.zeroCells45 a n c))) w) : o.wp Yba.prog x w next Q := by
  unfold Oper.wp
  have e : (execOp x.eval o).run Yba.prog w = .ok (.value (.agg (nodeCells Yba.zeroCells45 a n c))) w := by
    simp only [execOp, ho, List.map_toArray, List.map_cons, List.map_nil, Sem.run_bind, hv, build45n, Result.andThen_ok, Sem.run_pure]
  rw [e]
  exact h
theorem node38 (a : Option Addr) (n c : Nat) : (nodeCells Yba.zeroCells45 a n c)[38]? = some (.slice a n c) := by
  unfold nodeCells
  rw [Array.getElem?_setIfInBounds_self_of_lt (by rw [size45]; omega)]

/-- make and copy, whatever the row. -/
theorem old_copy {w0 wB : World} {a : Option Addr} {n c : Nat} {L : List Nb} (hG : Grows w0 wB a n c L) :
    ∃ W2, (Builtin.copy_ #[26, 26] 3 #[.slice (some ⟨wB.heap.size, 0, none⟩) n n, .slice a n c]).run Yba.prog (wB.alloc (.cells (madeCells Z6 (n * 6)) 48)) = .ok (goInt n) W2 ∧
      RowAt W2 (some ⟨wB.heap.size, 0, none⟩) n L ∧ Below wB.heap.size wB W2 ∧ wB.heap.size < W2.heap.size := by
  have h6 : n ≤ 6 := by rw [← hG.len]; exact hG.good.len
  rcases hG.own.2 with ⟨h1, h2⟩ | ⟨g, cp, cur, e1, e2, e3, e4, _⟩
  · cases h1
    have hL : L = [] := List.eq_nil_of_length_eq_zero hG.len
    subst hL
    exact ⟨_, copy_nil _ _, fun k b hk => by simp at hk, (Below.refl _ _).alloc (Nat.le_refl _) _, by simp⟩
  · cases e1
    obtain ⟨W2, h1, h2, h3⟩ := dup (c := c) (RowAt.of_own hG.own hG.len) hG.len h6 (Array.getElem?_eq_some_iff.1 e3).1
    exact ⟨W2, h1, RowAt.of_own h2 hG.len, h3, (h2.lt _ rfl).2⟩
end Go.Proofs.Ybulkawyi
