import Derived.Test.YbulkawzkFmtFacts
import Derived.Laws.MakeOwn
import Derived.Laws.OwnMore
import Derived.ProofKit
import Derived.Deep.RegionHeld3
import Derived.BigQuiet
import Derived.Deep.RegionWith
import Derived.Deep.QuietTactic
import Derived.WalkLawsBesides
namespace Go.Proofs.YbulkawzkFmt
open Go.RowKit Go.Extern.Stop Go.Stop Go.Extern
set_option linter.unusedVariables false

theorem parts {t : TypeId} {z : Value} {a b : Nat} (h : (Ybaf.prog.info? t).map (fun i => (i.zero, i.size, i.bytes)) = some (some z, a, b)) : ∃ i, Ybaf.prog.info? t = some i ∧ i.zero = some z ∧ i.size = a ∧ i.bytes = b := by
  obtain ⟨i, hi, h2⟩ := Option.map_eq_some_iff.1 h
  simp only [Prod.mk.injEq] at h2
  exact ⟨i, hi, h2.1, h2.2.1, h2.2.2⟩
theorem info5 : (Ybaf.prog.info? 5).map (fun i => (i.zero, i.size, i.bytes)) = some (some (.int .u8 0), 1, 1) := by kernel_rfl
theorem info3 : (Ybaf.prog.info? 3).map (fun i => (i.zero, i.size, i.bytes)) = some (some (.int .i64 0), 1, 8) := by kernel_rfl
theorem info31 : (Ybaf.prog.info? 31).map (fun i => (i.zero, i.size, i.bytes)) = some (some (.agg #[.int .i64 0, .slice none 0 0]), 2, 32) := by kernel_rfl

theorem mk5 (n : Nat) (hn : n ≤ 1024) (w : World) : (Instr.makeSlice 25 (.int .i64 n) (.int .i64 n)).run Ybaf.prog w = .ok (.slice (some ⟨w.heap.size, 0, none⟩) n n) (w.alloc (.cells (madeCells #[.int .u8 0] n) 5)) := by
  obtain ⟨i0, hi, hz0, hz1, hz2⟩ := parts info5
  have h := run_makeSlice (P := Ybaf.prog) w 25 5 i0 _ Ybaf.underlying25 hi hz0 .i64 .i64 n n (by omega) (Int.le_refl _) (by rw [hz1]; simp; omega) (by rw [hz2]; omega) (by omega)
  rw [hz1] at h
  simpa [Value.cells] using h

/-- The bytes of one signature. -/
def sigAt (seed k : Int) (j : Nat) : Int := (seed + wrap64 ((j : Int) * 7 + k)) % 256
def sigL (seed k : Int) : List Value := (List.range 64).map fun j => .int .u8 (sigAt seed k j)
theorem sigL_length (seed k : Int) : (sigL seed k).length = 64 := by simp [sigL]

set_option maxRecDepth 100000 in
set_option maxHeartbeats 4000000 in
theorem sig_calls (seed k : Int) (w : World) :
    Calls Ybaf.prog 5 #[.int .u8 seed, .int .i64 k] w fun e w' => e = .returned (.slice (some ⟨w.heap.size, 0, none⟩) 64 64) ∧ w'.ownsRow w.heap.size 5 1 (.slice (some ⟨w.heap.size, 0, none⟩) 64 64) 64 (sigL seed k) ∧ Below w.heap.size w w' := by
  have hmk : ∀ w, (Instr.makeSlice 25 (.int .i64 64) (.int .i64 64)).run Ybaf.prog w = .ok (.slice (some ⟨w.heap.size, 0, none⟩) 64 64) (w.alloc (.cells (madeCells #[.int .u8 0] 64) 5)) := fun w => mk5 64 (by omega) w
  have hown0 : (w.alloc (.cells (madeCells #[.int .u8 0] 64) 5)).ownsRow w.heap.size 5 1 (.slice (some ⟨w.heap.size, 0, none⟩) 64 64) 64 (madeCells #[.int .u8 0] 64).toList := World.ownsRow_lit w _ 64 (Nat.le_refl _) (by decide) (size_madeCells _ _)
  have hb0 : Below w.heap.size w (w.alloc (.cells (madeCells #[.int .u8 0] 64) 5)) := (Below.refl _ w).alloc (Nat.le_refl _) _
  have HO : Hid _ := hown0
  have HB : Hid _ := hb0
  clear hown0 hb0
  go_enter Ybaf.func5, Ybaf.ntmps5
  go_wp2
  generalize w.alloc (.cells (madeCells #[.int .u8 0] 64) 5) = W at *
  go_loopw [6] (fun i wr => ∃ (j : Nat) (xs : List Value), j ≤ 64 ∧ i = .int .i64 j ∧ wr.ownsRow w.heap.size 5 1 (.slice (some ⟨w.heap.size, 0, none⟩) 64 64) 64 xs ∧ (∀ x, x < j → xs[x]? = some (.int .u8 (sigAt seed k x))) ∧ Below w.heap.size w wr) (fun i _ => 64 - (intOf i).toNat)
  case atStart => exact ⟨0, _, by omega, rfl, HO.out, fun x hx => by omega, HB.out⟩
  case round =>
    obtain ⟨j, xs, hj, rfl, hown, hxs, hbr⟩ := hrel
    by_cases hj6 : j < 64
    · have hj6' : (j : Int) < 64 := by omega
      have hxl : xs.length = 64 := hown.1
      obtain ⟨x0, hc⟩ : ∃ x0, wr.cell? ⟨w.heap.size, j, none⟩ = some x0 := ⟨_, (hown.cellAt j (by omega)).trans (List.getElem?_eq_getElem (by omega))⟩
      have hf := hown.frozenAt j
      have hst := (hown.stored j (.int .u8 (sigAt seed k j))).1
      have HST : Hid _ := hst
      have HXS : Hid _ := hxs
      have HBR : Hid _ := hbr
      have HXL : Hid _ := hxl
      clear hown hst hxs hbr hxl
      go_wp2
      go_roundw
      case rel =>
        refine ⟨j + 1, xs.set j (.int .u8 (sigAt seed k j)), by omega, by go_num, HST.out, fun x hx => ?_, HBR.out.trans ⟨rfl, rfl, rfl, by simp, fun y hy => Below.heap_setCell _ _ _ _ (by simp; omega)⟩⟩
        by_cases hxj : x = j
        · subst hxj
          rw [List.getElem?_set_self (by rw [HXL.out]; omega)]
        · rw [List.getElem?_set_ne (by omega)]
          exact HXS.out x (by omega)
      case measure => simp [intOf]; omega
    · have hj6' : j = 64 := by omega
      have hd : decide ((j : Int) < 64) = false := by simp; omega
      have hx : xs = sigL seed k := by
        refine List.ext_getElem? fun x => ?_
        by_cases hx : x < 64
        · rw [hxs x (by omega)]
          simp [sigL, hx]
        · have hx64 : xs.length = 64 := hown.1
          rw [List.getElem?_eq_none (by omega), List.getElem?_eq_none (by rw [sigL_length]; omega)]
      rw [hx] at hown
      have HOW : Hid _ := hown
      have HBR : Hid _ := hbr
      clear hown hxs hbr hx
      go_wp2
      go_ret
      exact ⟨rfl, HOW.out, HBR.out⟩
end Go.Proofs.YbulkawzkFmt
