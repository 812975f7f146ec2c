import Derived.Test.YbulkawyiMsg
namespace Go.Proofs.Ybulkawyi
open Go.RowKit
set_option linter.unusedVariables false

theorem name21 : (Yba.f21.name == "runtime.NumGoroutine") = false := by kernel_rfl
theorem body21 : Yba.f21.body.isNone = true := by kernel_rfl
theorem next21 : Extern.findNext Yba.f21 = none := by kernel_rfl
theorem find21 : Extern.find Yba.f21 = some Extern.MathFloatBits.float64bits := by kernel_rfl
theorem tobits (n : Nat) (w : World) : (callFunc 21 #[.float .f64 n]).run Yba.prog w = .ok (.value (.int .u64 n)) w := by
  rw [run_callFunc_extern Yba.func21 name21 body21 next21 find21]
  rfl

set_option maxRecDepth 100000 in
set_option maxHeartbeats 1000000 in
theorem aeq_calls (b : Nb) (w : World) :
    Calls Yba.prog 12 #[b.val, b.val] w fun e w' => e = .returned (.bool true) ∧ Below w.heap.size w w' := by
  have hbel : ∀ o1 o2 q, Below w.heap.size w (((w.alloc o1).alloc o2).drewN q) := fun o1 o2 q => bdrew (((Below.refl _ w).alloc (Nat.le_refl _) o1).alloc (by simp) o2) q
  have HB : Hid _ := hbel
  clear hbel
  obtain ⟨id, pr, st, hops, seq, named⟩ := b
  unfold Nb.val
  simp only
  generalize pb pr = p
  have htb := tobits
  have d1 : (id == id) = true := by simp
  have d2 : (p == p) = true := by simp
  have d3 : (st == st) = true := by simp
  have d4 : (hops == hops) = true := by simp
  have d5 : (seq == seq) = true := by simp
  have d6 : (named == named) = true := by simp
  go_enter Yba.func12, Yba.ntmps12
  go_wp2
  generalize hW : World.alloc _ _ = W
  have HW : Hid _ := hW
  have c0 : W.cell? ⟨w.heap.size, 0, none⟩ = some (.int .u64 id) := by subst hW; go_keep
  have c1 : W.cell? ⟨w.heap.size, 1, none⟩ = some (.float .f64 p) := by subst hW; go_keep
  have c2 : W.cell? ⟨w.heap.size, 2, none⟩ = some (.bool st) := by subst hW; go_keep
  have c3 : W.cell? ⟨w.heap.size, 3, none⟩ = some (.int .i64 hops) := by subst hW; go_keep
  have c4 : W.cell? ⟨w.heap.size, 4, none⟩ = some (.int .u64 seq) := by subst hW; go_keep
  have c5 : W.cell? ⟨w.heap.size, 5, none⟩ = some (.int .u64 named) := by subst hW; go_keep
  have c6 : W.cell? ⟨w.heap.size + 1, 0, none⟩ = some (.int .u64 id) := by subst hW; go_keep
  have c7 : W.cell? ⟨w.heap.size + 1, 1, none⟩ = some (.float .f64 p) := by subst hW; go_keep
  have c8 : W.cell? ⟨w.heap.size + 1, 2, none⟩ = some (.bool st) := by subst hW; go_keep
  have c9 : W.cell? ⟨w.heap.size + 1, 3, none⟩ = some (.int .i64 hops) := by subst hW; go_keep
  have c10 : W.cell? ⟨w.heap.size + 1, 4, none⟩ = some (.int .u64 seq) := by subst hW; go_keep
  have c11 : W.cell? ⟨w.heap.size + 1, 5, none⟩ = some (.int .u64 named) := by subst hW; go_keep
  clear hW
  go_region_held3 (fun w' => w'.cell? ⟨w.heap.size, 0, none⟩ = some (.int .u64 id) ∧ w'.cell? ⟨w.heap.size, 1, none⟩ = some (.float .f64 p) ∧ w'.cell? ⟨w.heap.size, 2, none⟩ = some (.bool st) ∧ w'.cell? ⟨w.heap.size, 3, none⟩ = some (.int .i64 hops) ∧ w'.cell? ⟨w.heap.size, 4, none⟩ = some (.int .u64 seq) ∧ w'.cell? ⟨w.heap.size, 5, none⟩ = some (.int .u64 named) ∧ w'.cell? ⟨w.heap.size + 1, 0, none⟩ = some (.int .u64 id) ∧ w'.cell? ⟨w.heap.size + 1, 1, none⟩ = some (.float .f64 p) ∧ w'.cell? ⟨w.heap.size + 1, 2, none⟩ = some (.bool st) ∧ w'.cell? ⟨w.heap.size + 1, 3, none⟩ = some (.int .i64 hops) ∧ w'.cell? ⟨w.heap.size + 1, 4, none⟩ = some (.int .u64 seq) ∧ w'.cell? ⟨w.heap.size + 1, 5, none⟩ = some (.int .u64 named)) (exact ⟨c0, c1, c2, c3, c4, c5, c6, c7, c8, c9, c10, c11⟩) (fail)
  all_goals
    go_wp2
    go_ret
    exact ⟨rfl, by rw [← HW.out]; exact HB.out _ _ _⟩

/-- The cells of two rows, read at one index. -/
theorem row_at {w w' : World} {n : Nat} {a : Option Addr} {L : List Nb} {k : Nat} {b : Nb} (h : ∀ k b, L[k]? = some b → ∃ g, a = some ⟨g, 0, none⟩ ∧ g < w.heap.size ∧ k < n ∧ ∀ j, j < 6 → w.cell? ⟨g, k * 6 + j, none⟩ = b.cells[j]?) (hb : Below w.heap.size w w') (hk : L[k]? = some b) :
    ∃ g, a = some ⟨g, 0, none⟩ ∧ g < w'.heap.size ∧ k < n ∧ ∀ j, j < 6 → w'.cell? ⟨g, k * 6 + j, none⟩ = b.cells[j]? := by
  obtain ⟨g, h1, h2, h3, h4⟩ := h k b hk
  exact ⟨g, h1, Nat.lt_of_lt_of_le h2 hb.size, h3, fun j hj => (hb.cell (p := ⟨g, k * 6 + j, none⟩) h2).trans (h4 j hj)⟩

/-- zzs2413asame: two rows with the same elements. -/
def RowAt (w : World) (a : Option Addr) (n : Nat) (L : List Nb) : Prop := ∀ k b, L[k]? = some b → ∃ g, a = some ⟨g, 0, none⟩ ∧ g < w.heap.size ∧ k < n ∧ ∀ j, j < 6 → w.cell? ⟨g, k * 6 + j, none⟩ = b.cells[j]?

set_option maxRecDepth 100000 in
set_option maxHeartbeats 4000000 in
theorem asame_calls (L : List Nb) (n c1 c2 : Nat) (a1 a2 : Option Addr) (w : World) (hn : L.length = n) (hm : n ≤ 1000) (h1 : RowAt w a1 n L) (h2 : RowAt w a2 n L) :
    Calls Yba.prog 11 #[.slice a1 n c1, .slice a2 n c2] w fun e w' => e = .returned (.bool true) ∧ Below w.heap.size w w' := by
  have H1 : Hid _ := h1
  have H2 : Hid _ := h2
  have HN : Hid _ := hn
  clear h1 h2 hn
  go_enter Yba.func11, Yba.ntmps11
  go_wp2
  go_loopw [13] (fun i wr => ∃ k : Nat, k ≤ n ∧ i = .int .i64 k ∧ Below w.heap.size w wr) (fun i _ => n - (intOf i).toNat)
  case atStart => exact ⟨0, by omega, rfl, Below.refl _ _⟩
  case round =>
    obtain ⟨k, hk, rfl, hbr⟩ := hrel
    by_cases hkn : k < n
    · have hkn' : (k : Int) < (n : Int) := by omega
      have hkl : k < L.length := by rw [HN.out]; exact hkn
      obtain ⟨b, hLb⟩ : ∃ b, L[k]? = some b := ⟨_, List.getElem?_eq_getElem hkl⟩
      obtain ⟨g1, rfl, hg1, _, hc1⟩ := row_at H1.out hbr hLb
      obtain ⟨g2, rfl, hg2, _, hc2⟩ := row_at H2.out hbr hLb
      have c0 : wr.cell? ⟨g1, k * 6, none⟩ = some (.int .u64 b.id) := hc1 0 (by omega)
      have c1' : wr.cell? ⟨g1, k * 6 + 1, none⟩ = some (.float .f64 (pb b.pr)) := hc1 1 (by omega)
      have c2' : wr.cell? ⟨g1, k * 6 + 2, none⟩ = some (.bool b.st) := hc1 2 (by omega)
      have c3 : wr.cell? ⟨g1, k * 6 + 3, none⟩ = some (.int .i64 b.hops) := hc1 3 (by omega)
      have c4 : wr.cell? ⟨g1, k * 6 + 4, none⟩ = some (.int .u64 b.seq) := hc1 4 (by omega)
      have c5 : wr.cell? ⟨g1, k * 6 + 5, none⟩ = some (.int .u64 b.named) := hc1 5 (by omega)
      have d0 : wr.cell? ⟨g2, k * 6, none⟩ = some (.int .u64 b.id) := hc2 0 (by omega)
      have d1 : wr.cell? ⟨g2, k * 6 + 1, none⟩ = some (.float .f64 (pb b.pr)) := hc2 1 (by omega)
      have d2 : wr.cell? ⟨g2, k * 6 + 2, none⟩ = some (.bool b.st) := hc2 2 (by omega)
      have d3 : wr.cell? ⟨g2, k * 6 + 3, none⟩ = some (.int .i64 b.hops) := hc2 3 (by omega)
      have d4 : wr.cell? ⟨g2, k * 6 + 4, none⟩ = some (.int .u64 b.seq) := hc2 4 (by omega)
      have d5 : wr.cell? ⟨g2, k * 6 + 5, none⟩ = some (.int .u64 b.named) := hc2 5 (by omega)
      have HKEEP : Hid (∀ (q : Nat) (w2 : World), Below wr.heap.size (wr.drewN q) w2 → Hid (Below w.heap.size w w2) ∧ (w2.cell? ⟨g1, k * 6, none⟩ = some (.int .u64 b.id) ∧ w2.cell? ⟨g1, k * 6 + 1, none⟩ = some (.float .f64 (pb b.pr)) ∧ w2.cell? ⟨g1, k * 6 + 2, none⟩ = some (.bool b.st) ∧ w2.cell? ⟨g1, k * 6 + 3, none⟩ = some (.int .i64 b.hops) ∧ w2.cell? ⟨g1, k * 6 + 4, none⟩ = some (.int .u64 b.seq) ∧ w2.cell? ⟨g1, k * 6 + 5, none⟩ = some (.int .u64 b.named) ∧ w2.cell? ⟨g2, k * 6, none⟩ = some (.int .u64 b.id) ∧ w2.cell? ⟨g2, k * 6 + 1, none⟩ = some (.float .f64 (pb b.pr)) ∧ w2.cell? ⟨g2, k * 6 + 2, none⟩ = some (.bool b.st) ∧ w2.cell? ⟨g2, k * 6 + 3, none⟩ = some (.int .i64 b.hops) ∧ w2.cell? ⟨g2, k * 6 + 4, none⟩ = some (.int .u64 b.seq) ∧ w2.cell? ⟨g2, k * 6 + 5, none⟩ = some (.int .u64 b.named))) := by
        intro q w2 hb2'
        have k2 : ∀ g o', g < wr.heap.size → w2.cell? ⟨g, o', none⟩ = wr.cell? ⟨g, o', none⟩ := fun g o' hg => hb2'.cell (p := ⟨g, o', none⟩) hg
        exact ⟨(bdrew hbr q).trans (hb2'.mono hbr.size), (k2 _ _ hg1).trans c0, (k2 _ _ hg1).trans c1', (k2 _ _ hg1).trans c2', (k2 _ _ hg1).trans c3, (k2 _ _ hg1).trans c4, (k2 _ _ hg1).trans c5, (k2 _ _ hg2).trans d0, (k2 _ _ hg2).trans d1, (k2 _ _ hg2).trans d2, (k2 _ _ hg2).trans d3, (k2 _ _ hg2).trans d4, (k2 _ _ hg2).trans d5⟩
      have HC : Hid _ := aeq_calls b
      clear hc1 hc2 hbr hLb
      go_wp2
      go_region_held3 (fun w' => w'.cell? ⟨g1, k * 6, none⟩ = some (.int .u64 b.id) ∧ w'.cell? ⟨g1, k * 6 + 1, none⟩ = some (.float .f64 (pb b.pr)) ∧ w'.cell? ⟨g1, k * 6 + 2, none⟩ = some (.bool b.st) ∧ w'.cell? ⟨g1, k * 6 + 3, none⟩ = some (.int .i64 b.hops) ∧ w'.cell? ⟨g1, k * 6 + 4, none⟩ = some (.int .u64 b.seq) ∧ w'.cell? ⟨g1, k * 6 + 5, none⟩ = some (.int .u64 b.named) ∧ w'.cell? ⟨g2, k * 6, none⟩ = some (.int .u64 b.id) ∧ w'.cell? ⟨g2, k * 6 + 1, none⟩ = some (.float .f64 (pb b.pr)) ∧ w'.cell? ⟨g2, k * 6 + 2, none⟩ = some (.bool b.st) ∧ w'.cell? ⟨g2, k * 6 + 3, none⟩ = some (.int .i64 b.hops) ∧ w'.cell? ⟨g2, k * 6 + 4, none⟩ = some (.int .u64 b.seq) ∧ w'.cell? ⟨g2, k * 6 + 5, none⟩ = some (.int .u64 b.named))
        (first | exact ⟨c0, c1', c2', c3, c4, c5, d0, d1, d2, d3, d4, d5⟩ | assumption) ((go_at_call 12; refine Calls.mono (HC.out _) ?_; rintro e w2 ⟨rfl, hb2⟩; have hS2 := HKEEP.out 1 w2 hb2; clear hb2; have HB3 := hS2.1; have hS3 := hS2.2; clear hS2))
      go_wp2
      go_roundw
      case rel => exact ⟨k + 1, by omega, by go_num, HB3.out⟩
      case measure => simp [intOf]; omega
    · go_wp2
      go_ret
      exact ⟨rfl, hbr⟩
end Go.Proofs.Ybulkawyi
