import Derived.Test.YbulkawyiSendB
import Derived.Laws.FloatArith
namespace Go.Proofs.Ybulkawyi
open Go.RowKit
attribute [local go_sem] run_store_float

set_option maxRecDepth 100000 in
set_option maxHeartbeats 1000000 in
/-- broadcast at a node without neighbours: one send is counted. -/
theorem broadcast_none (N T A kk f : Nat) (ra : Option Addr) (rc : Nat) (s : Int) (at_ : Nat) (msg : Option Addr) (w : World)
    (hf : f < kk)
    (cT : w.cell? ⟨N, 25, none⟩ = some (.pointer (some ⟨T, 0, none⟩))) (cs : w.cell? ⟨T, 2, none⟩ = some (.int .u64 s)) (fs : w.frozen? ⟨T, 2, none⟩ = false)
    (cA : w.cell? ⟨N, 15, none⟩ = some (.slice (some ⟨A, 0, none⟩) kk kk)) (ca : w.cell? ⟨A, f, none⟩ = some (.slice ra 0 rc)) (hTN : T ≠ N) (hTA : T ≠ A) :
    Calls Yba.prog 16 #[.pointer (some ⟨N, 0, none⟩), .int .i64 (f : Int), .float .f64 at_, .pointer msg] w fun e w' => e = .returned (.tuple #[]) ∧ w' = w.setCell ⟨T, 2, none⟩ (.int .u64 (IntKind.wrap .u64 (s + 1))) := by
  have cA' : (w.setCell ⟨T, 2, none⟩ (.int .u64 (IntKind.wrap .u64 (s + 1)))).cell? ⟨N, 15, none⟩ = some (.slice (some ⟨A, 0, none⟩) kk kk) := by rw [cset_block hTN]; exact cA
  have ca' : (w.setCell ⟨T, 2, none⟩ (.int .u64 (IntKind.wrap .u64 (s + 1)))).cell? ⟨A, f, none⟩ = some (.slice ra 0 rc) := by rw [cset_block hTA]; exact ca
  generalize hW : (w.setCell ⟨T, 2, none⟩ (.int .u64 (IntKind.wrap .u64 (s + 1)))) = W at *
  go_enter Yba.func16, Yba.ntmps16
  go_wp2_with (go_at_call 28; refine (send_calls T s _ cs fs).mono ?_; rintro e w1 ⟨rfl, hw1⟩; rw [hW] at hw1; subst hw1)
  go_end0
  exact ⟨rfl, rfl⟩

set_option maxRecDepth 100000 in
set_option maxHeartbeats 1000000 in
/-- broadcast at a node with neighbours: one send is counted, the sender is marked, one event is pushed. -/
theorem broadcast_has (N T A S kk f d rc : Nat) (ra : Addr) (s : Int) (at_ dl r x : Nat) (msg : Option Addr) (w : World)
    (hf : f < kk) (hd : 0 < d) (hr : floatBits .add .f64 at_ dl = some r) (hN : N < w.heap.size)
    (cT : w.cell? ⟨N, 25, none⟩ = some (.pointer (some ⟨T, 0, none⟩))) (cs : w.cell? ⟨T, 2, none⟩ = some (.int .u64 s)) (fs : w.frozen? ⟨T, 2, none⟩ = false)
    (cA : w.cell? ⟨N, 15, none⟩ = some (.slice (some ⟨A, 0, none⟩) kk kk)) (ca : w.cell? ⟨A, f, none⟩ = some (.slice (some ra) d rc))
    (cS : w.cell? ⟨N, 18, none⟩ = some (.slice (some ⟨S, 0, none⟩) kk kk)) (cx : w.cell? ⟨S, f, none⟩ = some (.float .f64 x)) (fx : w.frozen? ⟨S, f, none⟩ = false)
    (cD : w.cell? ⟨N, 2, none⟩ = some (.float .f64 dl))
    (c0 : w.cell? ⟨N, 19, none⟩ = some (.int .u64 0)) (c1 : w.cell? ⟨N, 19 + 1, none⟩ = some (.slice none 0 0)) (c2 : w.cell? ⟨N, 19 + 2, none⟩ = some (.int .i64 0))
    (f0 : w.frozen? ⟨N, 19, none⟩ = false) (f1 : w.frozen? ⟨N, 19 + 1, none⟩ = false)
    (hTN : T ≠ N) (hTA : T ≠ A) (hTS : T ≠ S) (hSA : S ≠ A) (hSN : S ≠ N) :
    Calls Yba.prog 16 #[.pointer (some ⟨N, 0, none⟩), .int .i64 (f : Int), .float .f64 at_, .pointer msg] w fun e w' => e = .returned (.tuple #[]) ∧ ∃ q g cap, Pushed N (((w.setCell ⟨T, 2, none⟩ (.int .u64 (IntKind.wrap .u64 (s + 1)))).setCell ⟨S, f, none⟩ (.float .f64 r)).drewN q) w' (.slice (some ⟨g, 0, none⟩) 1 cap) (evl r at_ (some ra) d rc msg (IntKind.wrap .i32 f)) := by
  have kN : ∀ o, (w.setCell ⟨T, 2, none⟩ (.int .u64 (IntKind.wrap .u64 (s + 1)))).cell? ⟨N, o, none⟩ = w.cell? ⟨N, o, none⟩ := fun o => cset_block hTN
  have kA : ∀ o, (w.setCell ⟨T, 2, none⟩ (.int .u64 (IntKind.wrap .u64 (s + 1)))).cell? ⟨A, o, none⟩ = w.cell? ⟨A, o, none⟩ := fun o => cset_block hTA
  have kS : ∀ o, (w.setCell ⟨T, 2, none⟩ (.int .u64 (IntKind.wrap .u64 (s + 1)))).cell? ⟨S, o, none⟩ = w.cell? ⟨S, o, none⟩ := fun o => cset_block hTS
  have kF : ∀ p, (w.setCell ⟨T, 2, none⟩ (.int .u64 (IntKind.wrap .u64 (s + 1)))).frozen? p = w.frozen? p := fun p => fset
  have hsz : (w.setCell ⟨T, 2, none⟩ (.int .u64 (IntKind.wrap .u64 (s + 1)))).heap.size = w.heap.size := by simp
  generalize hW : (w.setCell ⟨T, 2, none⟩ (.int .u64 (IntKind.wrap .u64 (s + 1)))) = W at *
  have HW : Hid (w.setCell ⟨T, 2, none⟩ (.int .u64 (IntKind.wrap .u64 (s + 1))) = W) := hW
  clear hW
  rw [← kN] at cA cS cD c0 c1 c2
  rw [← kA] at ca
  rw [← kS] at cx
  rw [← kF] at fx f0 f1
  rw [← hsz] at hN
  have cT' := cT
  rw [← kN] at cT'
  clear kN kA kS kF hsz
  have hadd : ∀ w, (binOp .add 33 (.float .f64 at_) (.float .f64 dl)).run Yba.prog w = .ok (.float .f64 r) w := fun w => run_float_arith w .add 33 .f64 at_ dl r hr
  have hb1 : (0 : Int) ≤ (f : Int) := by omega
  have hb2 : (f : Int) < (kk : Int) := by omega
  have hb3 : (0 : Int) < (d : Int) := by omega
  go_enter Yba.func16, Yba.ntmps16
  go_wp2_with (go_at_call 28; refine (send_calls T s _ cs fs).mono ?_; rintro e w1 ⟨rfl, hw1⟩; rw [HW.out] at hw1; subst hw1)
  go_region
  all_goals go_wp2
  have d0 : (w1.setCell ⟨S, f, none⟩ (.float .f64 r)).cell? ⟨N, 19, none⟩ = some (.int .u64 0) := (cset_block hSN).trans c0
  have d1 : (w1.setCell ⟨S, f, none⟩ (.float .f64 r)).cell? ⟨N, 19 + 1, none⟩ = some (.slice none 0 0) := (cset_block hSN).trans c1
  have d2 : (w1.setCell ⟨S, f, none⟩ (.float .f64 r)).cell? ⟨N, 19 + 2, none⟩ = some (.int .i64 0) := (cset_block hSN).trans c2
  have e0 : (w1.setCell ⟨S, f, none⟩ (.float .f64 r)).frozen? ⟨N, 19, none⟩ = false := fset.trans f0
  have e1 : (w1.setCell ⟨S, f, none⟩ (.float .f64 r)).frozen? ⟨N, 19 + 1, none⟩ = false := fset.trans f1
  have hN' : N < (w1.setCell ⟨S, f, none⟩ (.float .f64 r)).heap.size := by simpa using hN
  go_region_with (go_at_call 29; refine (push_line N r at_ (some ra) d rc msg (IntKind.wrap .i32 f) _ (by exact hN') (by exact d0) (by exact d1) (by exact d2) (by exact e0) (by exact e1)).mono ?_; rintro e w2 ⟨rfl, g, cap, HP⟩)
  all_goals (go_end0; exact ⟨rfl, 2, _, _, by assumption⟩)
end Go.Proofs.Ybulkawyi
