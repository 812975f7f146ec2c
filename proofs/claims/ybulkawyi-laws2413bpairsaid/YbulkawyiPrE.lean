import Derived.Test.YbulkawyiPrD
import Derived.Deep.RegionHeld3
namespace Go.Proofs.Ybulkawyi
open Go.RowKit
attribute [local go_sem] run_store_float
set_option linter.unusedVariables false

/-- What a push leaves. -/
structure Put (T : Nat) (w w' : World) (at_ down : Nat) (pr : Int) (up : Bool) : Prop where
  below : Below T w w'
  lt : T < w'.heap.size
  n : w'.cell? ⟨T, 13 + 5, none⟩ = some (.int .i64 1)
  other : ∀ o, o ≠ 13 → o ≠ 13 + 5 → w'.cell? ⟨T, o, none⟩ = w.cell? ⟨T, o, none⟩
  far : ∀ b o, b < w.heap.size → b ≠ T → w'.cell? ⟨b, o, none⟩ = w.cell? ⟨b, o, none⟩
  heap : ∃ g cap, w'.cell? ⟨T, 13, none⟩ = some (.slice (some ⟨g, 0, none⟩) 1 cap) ∧ ∀ j, j < 5 → w'.cell? ⟨g, j, none⟩ = (itm at_ down pr up)[j]?

theorem put_of {T : Nat} {w W w1 : World} {at_ down : Nat} {pr : Int} {up : Bool} {g cap q : Nat} (hW : Below T w W) (hT : T < W.heap.size) (h13 : W.cell? ⟨T, 13, none⟩ = some (.slice none 0 0)) (h18 : W.cell? ⟨T, 13 + 5, none⟩ = some (.int .i64 1)) (ho : ∀ o, o ≠ 13 → o ≠ 13 + 5 → W.cell? ⟨T, o, none⟩ = w.cell? ⟨T, o, none⟩) (hfar : ∀ b o, b < w.heap.size → b ≠ T → W.cell? ⟨b, o, none⟩ = w.cell? ⟨b, o, none⟩) (hsz : w.heap.size ≤ W.heap.size)
    (hown : w1.ownsRow W.heap.size 80 5 (.slice (some ⟨g, 0, none⟩) 1 cap) 1 (itm at_ down pr up)) (hb : Below W.heap.size W w1) :
    Put T w (w1.setCell ⟨T, 13, none⟩ (.slice (some ⟨g, 0, none⟩) 1 cap)) at_ down pr up := by
  have c13 : w1.cell? ⟨T, 13, none⟩ = some (.slice none 0 0) := (hb.cell (p := ⟨T, 13, none⟩) hT).trans h13
  have hsz2 := hb.size
  refine ⟨(hW.trans (hb.mono (by omega))).setCell (Nat.le_refl T) _, by simp; omega, ?_, ?_, ?_, g, cap, cset_same c13, ?_⟩
  · rw [cset_off (by omega)]
    exact (hb.cell (p := ⟨T, 13 + 5, none⟩) hT).trans h18
  · intro o h1 h2
    rw [cset_off (by omega)]
    exact (hb.cell (p := ⟨T, o, none⟩) hT).trans (ho o h1 h2)
  · intro b o h1 h2
    rw [cset_block (by omega)]
    exact (hb.cell (p := ⟨b, o, none⟩) (by show b < W.heap.size; omega)).trans (hfar b o h1 h2)
  · intro j hj
    have hg : W.heap.size ≤ g := (hown.lt _ rfl).1
    rw [cset_block (by omega)]
    exact hown.cellAt j (by simpa using hj)

set_option maxRecDepth 100000 in
set_option maxHeartbeats 1000000 in
theorem push_calls (T at_ down : Nat) (pr : Int) (up : Bool) (v : Int) (w : World) (hv : V at_ v) (hv2 : v.natAbs ≤ 1073741824 * Sc * 1024) (hT : T < w.heap.size)
    (ch : w.cell? ⟨T, 13, none⟩ = some (.slice none 0 0)) (cc : w.cell? ⟨T, 13 + 1, none⟩ = some (.int .i64 4611686018427387904)) (cn : w.cell? ⟨T, 13 + 5, none⟩ = some (.int .i64 0))
    (f1 : w.frozen? ⟨T, 13, none⟩ = false) (f2 : w.frozen? ⟨T, 13 + 5, none⟩ = false) :
    Calls Yba.prog 26 #[.pointer (some ⟨T, 13, none⟩), .float .f64 at_, .agg #[.float .f64 down, .int .i32 pr, .bool up]] w fun e w' => e = .returned (.tuple #[]) ∧ Put T w w' at_ down pr up := by
  have hbk := fun w => bucket_calls hv hv2 w
  have HB : Hid _ := hbk
  clear hbk hv hv2
  go_enter Yba.func26, Yba.ntmps26
  go_wp2_with fail
  generalize hWd : World.alloc _ _ = W
  have hsz : W.heap.size = w.heap.size + 1 + 1 := by subst hWd; simp
  have d6 : W.cell? ⟨w.heap.size + 1, 0, none⟩ = some (.float .f64 at_) ∧ W.cell? ⟨w.heap.size + 1, 1, none⟩ = some (.int .u64 0) ∧ W.cell? ⟨w.heap.size + 1, 2, none⟩ = some (.float .f64 down) ∧ W.cell? ⟨w.heap.size + 1, 3, none⟩ = some (.int .i32 pr) ∧ W.cell? ⟨w.heap.size + 1, 4, none⟩ = some (.bool up) := by
    subst hWd
    refine ⟨?_, ?_, ?_, ?_, ?_⟩ <;> (rw [World.cell?_alloc_at _ _ _ _ (by simp)]; rfl)
  have hc : ∀ o, W.cell? ⟨T, o, none⟩ = (w.setCell ⟨T, 18, none⟩ (.int .i64 1)).cell? ⟨T, o, none⟩ := by
    subst hWd
    intro o
    rw [calloc (by simp; omega), calloc (by simp; omega)]
  have hbw : Below T w W := by
    subst hWd
    exact (((Below.refl T w).setCell (Nat.le_refl T) _).alloc (by simp; omega) _).alloc (by simp; omega) _
  have hfar : ∀ b o, b < w.heap.size → b ≠ T → W.cell? ⟨b, o, none⟩ = w.cell? ⟨b, o, none⟩ := by
    subst hWd
    intro b o h1 h2
    rw [calloc (by simp; omega), calloc (by simp; omega), cset_block (by omega)]
  have hfw : ∀ o, W.frozen? ⟨T, o, none⟩ = w.frozen? ⟨T, o, none⟩ := by
    subst hWd
    intro o
    rw [falloc (by simp; omega), falloc (by simp; omega), fset]
  clear hWd
  have d13 : W.cell? ⟨T, 13, none⟩ = some (.slice none 0 0) := by rw [hc, cset_off (by omega)]; exact ch
  have d14 : W.cell? ⟨T, 14, none⟩ = some (.int .i64 4611686018427387904) := by rw [hc, cset_off (by omega)]; exact cc
  have d18 : W.cell? ⟨T, 18, none⟩ = some (.int .i64 1) := by rw [hc, cset_same cn]
  have df : W.frozen? ⟨T, 13, none⟩ = false := (hfw 13).trans f1
  have hoth : ∀ o, o ≠ 13 → o ≠ 13 + 5 → W.cell? ⟨T, o, none⟩ = w.cell? ⟨T, o, none⟩ := fun o _ h => by rw [hc, cset_off (by omega)]
  have hTW : T < W.heap.size := by omega
  obtain ⟨d60, d61, d62, d63, d64⟩ := d6
  have HP : Hid _ := fun g cap w1 hown hb => put_of (g := g) (cap := cap) (w1 := w1) (at_ := at_) (down := down) (pr := pr) (up := up) (q := 0) hbw hTW d13 d18 hoth hfar (by omega) hown hb
  clear hc hbw hfw hoth hfar ch cc cn f1 f2
  have HSZ : Hid _ := hsz
  have HTW : Hid _ := hTW
  clear hsz hTW
  obtain ⟨z, hz, hcalls⟩ := HB.out W
  refine Calls.mono hcalls ?_
  clear hcalls HB
  rintro e w1 ⟨rfl, rfl⟩
  have hz' : decide (z ≤ 4611686018427387904) = true := by simpa using hz
  go_wp2_with fail
  go_region_with (go_at_call 39; refine (heap_push at_ down pr up _).mono ?_; rintro e w2 ⟨g, cap, rfl, hown, hb⟩; have k13 : w2.cell? ⟨T, 13, none⟩ = some (.slice none 0 0) := (hb.cell (p := ⟨T, 13, none⟩) HTW.out).trans d13; have kf : w2.frozen? ⟨T, 13, none⟩ = false := (hb.frozen (p := ⟨T, 13, none⟩) HTW.out).trans df; have HO : Hid _ := HP.out g cap w2 hown ⟨hb.os, hb.tape, hb.output, hb.size, hb.block⟩; clear hown hb)
  all_goals
    go_wp2
    (try simp only [Exit.inBlock, Exit.then]); refine bodyPost_ret (results_none rfl _ _ _) rfl ?_
    exact ⟨rfl, HO.out⟩
end Go.Proofs.Ybulkawyi
