import Derived.Test.YbulkawyiSendA
namespace Go.Proofs.Ybulkawyi
open Go.RowKit
attribute [local go_sem] run_store_float

def evl (at_ sent : Nat) (to : Option Addr) (tn tc : Nat) (msg : Option Addr) (node : Int) : List Value :=
  [.float .f64 at_, .int .u64 1, .float .f64 sent, .slice to tn tc, .pointer msg, .int .i32 node, .bool false]

/-- What a push leaves: below the network's block nothing has turned; in it the queue's number is 1 and its line the row v of just one event. -/
structure Pushed (N : Nat) (w w' : World) (v : Value) (ev : List Value) : Prop where
  below : Below N w w'
  lt : N < w'.heap.size
  seq : w'.cell? ⟨N, 19, none⟩ = some (.int .u64 1)
  line : w'.cell? ⟨N, 19 + 1, none⟩ = some v
  other : ∀ o, o ≠ 19 → o ≠ 19 + 1 → w'.cell? ⟨N, o, none⟩ = w.cell? ⟨N, o, none⟩
  own : w'.ownsRow (N + 1) 124 7 v 1 ev

theorem pushed_of {N : Nat} {w w1 : World} {o1 o2 : Obj} {q : Nat} {v : Value} {ev : List Value} (hN : N < w.heap.size) {x0 x1 : Value} (c0 : w.cell? ⟨N, 19, none⟩ = some x0) (c1 : w.cell? ⟨N, 19 + 1, none⟩ = some x1)
    (f1 : w.frozen? ⟨N, 19 + 1, none⟩ = false)
    (hg : ((((w.setCell ⟨N, 19, none⟩ (.int .u64 1)).alloc o1).drewN q).alloc o2).grownBy w1 none)
    (hown : w1.ownsRow ((((w.setCell ⟨N, 19, none⟩ (.int .u64 1)).alloc o1).drewN q).alloc o2).heap.size 124 7 v 1 ev) :
    w1.cell? ⟨N, 19 + 1, none⟩ = some x1 ∧ w1.frozen? ⟨N, 19 + 1, none⟩ = false ∧ Pushed N w (w1.setCell ⟨N, 19 + 1, none⟩ v) v ev := by
  have hsz : ((((w.setCell ⟨N, 19, none⟩ (.int .u64 1)).alloc o1).drewN q).alloc o2).heap.size = w.heap.size + 2 := by simp
  have hb0 : Below N w ((((w.setCell ⟨N, 19, none⟩ (.int .u64 1)).alloc o1).drewN q).alloc o2) := by
    have a1 : Below N w (w.setCell ⟨N, 19, none⟩ (.int .u64 1)) := (Below.refl N w).setCell (Nat.le_refl N) _
    have a2 := a1.alloc (by simp; omega) o1
    have a3 : Below N w (((w.setCell ⟨N, 19, none⟩ (.int .u64 1)).alloc o1).drewN q) := ⟨a2.os, a2.tape, a2.output, a2.size, a2.block⟩
    exact a3.alloc (by simp; omega) o2
  have k : ∀ o, w1.cell? ⟨N, o, none⟩ = (w.setCell ⟨N, 19, none⟩ (.int .u64 1)).cell? ⟨N, o, none⟩ := by
    intro o
    rw [grown_cell hg N o (by omega) (by simp), calloc (by simp; omega), cdrew, calloc (by simp; omega)]
  have hs1 := hg.size
  have e1 : w1.cell? ⟨N, 19 + 1, none⟩ = some x1 := by rw [k, cset_off (by omega)]; exact c1
  have b1 : Below N w w1 := hb0.grown hg (by omega) (by simp)
  refine ⟨e1, ?_, ⟨b1.setCell (Nat.le_refl N) _, ?_, ?_, cset_same e1, ?_, ?_⟩⟩
  · rw [grown_frozen hg N _ (by omega) (by simp), falloc (by simp; omega), fdrew, falloc (by simp; omega), fset]
    exact f1
  · simp; omega
  · rw [cset_off (by omega), k, cset_same c0]
  · intro o h0 h1
    rw [cset_off (by omega), k, cset_off (by omega)]
  · exact ownsRow_setCell_below (own_mono hown (by omega)) (by simp) _

set_option maxHeartbeats 1000000 in
theorem push_line (N : Nat) (at_ sent : Nat) (to : Option Addr) (tn tc : Nat) (msg : Option Addr) (node : Int) (w : World) (hN : N < w.heap.size)
    (c0 : w.cell? ⟨N, 19, none⟩ = some (.int .u64 0)) (c1 : w.cell? ⟨N, 19 + 1, none⟩ = some (.slice none 0 0)) (c2 : w.cell? ⟨N, 19 + 2, none⟩ = some (.int .i64 0))
    (f0 : w.frozen? ⟨N, 19, none⟩ = false) (f1 : w.frozen? ⟨N, 19 + 1, none⟩ = false) :
    Calls Yba.prog 29 #[.pointer (some ⟨N, 19, none⟩), .float .f64 at_, .agg #[.float .f64 0, .int .u64 0, .float .f64 sent, .slice to tn tc, .pointer msg, .int .i32 node, .bool false]] w fun e w' => e = .returned (.tuple #[]) ∧ ∃ g cap, Pushed N w w' (.slice (some ⟨g, 0, none⟩) 1 cap) (evl at_ sent to tn tc msg node) := by
  go_enter Yba.func29, Yba.ntmps29
  go_wp2
  go_quiet (fail)
  go_wp2
  refine wp_loop_rounds 1 ?_
  rw [rounds_succ]
  go_wp2
  go_region_with (go_at_call 43; refine (insert_nil _ (evl at_ sent to tn tc msg node) _ rfl (by exact cells_laid _ _ (by simp) _ (evl at_ sent to tn tc msg node)) (by simp [evl, Value.oneCell'])).mono ?_; rintro e w1 ⟨g, cap, rfl, hown, hgrow⟩; obtain ⟨hc1, hf1, HP⟩ := pushed_of hN c0 c1 f1 hgrow hown; clear hown hgrow)
  all_goals (go_end0; exact ⟨rfl, _, _, by assumption⟩)
end Go.Proofs.Ybulkawyi
