import Derived.Test.YbulkaxdeFill
namespace Go.Proofs.Ybulkaxde
open Go.Conc Go.RowKit
set_option linter.unusedVariables false

set_option maxRecDepth 100000 in
set_option maxHeartbeats 4000000 in
theorem fill_loop (C p t c : Nat) (w : World) (cs : List Frame) (hC : C < 256) (hp : p ≤ C) (ht : t < 256) (HCW : Hid (c = w.heap.size)) (k i s : Nat) (hk : i + k = p) (buf : Array Value) (w0 : World) (hb : Below w.heap.size w w0) (hc0 : w0.heap[c]? = some (.chan C buf false s 0 false)) (HBS : Hid (buf.size = i)) (u0 u1 u2 u3 u4 u5 u6 u12 u13 u14 u15 u16 u17 u18 u19 u20 u21 u22 u23 u24 u25 u26 u27 u28 u29 u30 u31 u32 u33 u34 u35 u36 u37 u38 u39 u40 u41 u42 u43 u44 u45 u46 u47 u48 u49 u50 u51 u52 u53 u54 u55 u56 u57 u58 u59 u60 u61 u62 u63 u64 u65 u66 u67 u68 u69 u70 u71 u72 u73 u74 u75 u76 u77 u78 : Value) :
    LoneTo Yba.prog (fun g' w' => ∃ e fr, g' = G fr cs ∧ (e = .returned (.bool true) ∧ Below w.heap.size w w') ∧ fr.fn = 3 ∧ fr.leaving Yba.prog w' e)
      (G ((base 3).at { tmps := #[u0, u1, u2, u3, u4, u5, u6, .int .i64 C, .int .i64 p, .int .i64 t, .chan (some c), .int .i64 i, u12, u13, u14, u15, u16, u17, u18, u19, u20, u21, u22, u23, u24, u25, u26, u27, u28, u29, u30, u31, u32, u33, u34, u35, u36, u37, u38, u39, u40, u41, u42, u43, u44, u45, u46, u47, u48, u49, u50, u51, u52, u53, u54, u55, u56, u57, u58, u59, u60, u61, u62, u63, u64, u65, u66, u67, u68, u69, u70, u71, u72, u73, u74, u75, u76, u77, u78], defers := [] } (.code (onceOf (insideOf (secondOf (firstOf (secondOf (secondOf (secondOf (secondOf (secondOf (Yba.f3.body.getD .skip)))))))))) :: .inLoop (onceOf (insideOf (secondOf (firstOf (secondOf (secondOf (secondOf (secondOf (secondOf (Yba.f3.body.getD .skip)))))))))) :: .inBlock 0 :: .code (secondOf (secondOf (secondOf (secondOf (secondOf (secondOf (Yba.f3.body.getD .skip))))))) :: [])) cs) w0 := by
  obtain ⟨T, hT⟩ : ∃ T, T = (onceOf (insideOf (secondOf (firstOf (secondOf (secondOf (secondOf (secondOf (secondOf (Yba.f3.body.getD .skip)))))))))) := ⟨_, rfl⟩
  rw [← hT]
  obtain ⟨RS, hRS⟩ : ∃ RS, RS = (secondOf (secondOf (secondOf (secondOf (secondOf (secondOf (Yba.f3.body.getD .skip))))))) := ⟨_, rfl⟩
  rw [← hRS]

  have HRS : Hid _ := hRS
  dsimp only [Yba.f3, Option.getD, secondOf, firstOf, onceOf, insideOf] at hT
  subst hT
  induction k generalizing i s buf w0 u28 u29 u30 u31 u32 u33 u34 with
  | zero =>
    obtain rfl : i = p := by omega
    have hd : decide ((i : Int) < (i : Int)) = false := by simp
    refine LoneTo.goes (n := 9) ?_
    dsimp only
    s_c stepG_seq
    s_c stepG_seq
    s_reg
    s_op
    s_op
    s_op
    s_c stepG_region_end
    s_cond false
    s_exit
    s_stop
    rw [HRS.out]
    exact lone_tail Yba.func3 (by rintro _ ⟨h, _⟩; cases h) (fill_rest C i t c s buf w _ hC hp ht HCW.out hb hc0 HBS.out _ _ _ _ _ _ _ _ _ _ _ _ _ _ _ _ _ _ _ _ _ _ _ _ _ _ _ _ _ _ _ _ _ _ _ _ _ _ _ _ _ _ _ _ _ _ _ _ _ _ _ _ _ _ _ _ _ _ _ _ _ _ _ _ _ _ _ _ _ _ _ _ _ _ _)
  | succ k ih =>
    have hip : (i : Int) < (p : Int) := by omega
    refine LoneTo.goes (n := 14) ?_
    dsimp only
    s_c stepG_seq
    s_c stepG_seq
    s_reg
    s_op
    s_op
    s_op
    s_c stepG_region_end
    s_cond true
    s_c stepG_skip
    s_c stepG_seq
    s_c stepG_block
    s_reg
    s_op
    s_op
    s_stop
    refine LoneTo.step (step_lone_send_room (c := c) (cap := C) (buf := buf) (s := s) (r := 0) (tm := false) (v := .agg #[]) (stepG_comm (cases := #[scase c (.agg #[]) (.tuple #[])]) (blocking := true) (shape := .send) (w' := _) rfl rfl (by decide) (by simp [execOp, scase, Act.eval])) hc0 (by have := HBS.out; omega)) ?_
    rw [Frame.finish_at]
    walk_nrm
    refine LoneTo.goes (n := 8) ?_
    s_c stepG_region_end
    s_c stepG_inBlock
    s_reg
    s_op
    s_op
    s_op
    s_c stepG_region_end
    s_c stepG_inLoop
    s_stop
    have hcl : c < w0.heap.size := (Array.getElem?_eq_some_iff.1 hc0).1
    have key := fun x1 x2 x3 x4 x5 x6 x7 => ih (i + 1) (s + 1) (by omega) (buf.push (.agg #[])) (w0.setChan c C (buf.push (.agg #[])) false (s + 1) 0 false) (below_setChan hb (Nat.le_of_eq HCW.out.symm) _ _ _ _ _ _) (heap_setChan _ _ _ _ _ _ _ _ hcl) (by show _ = _; have := HBS.out; simp; omega) x1 x2 x3 x4 x5 x6 x7
    rw [show (((i + 1 : Nat) : Int)) = (i : Int) + 1 by omega] at key
    have hwr : IntKind.i64.wrap ((i : Int) + 1) = (i : Int) + 1 := by rw [IntKind.wrap_i64]; omega
    rw [hwr]
    exact key _ _ _ _ _ _ _
end Go.Proofs.Ybulkaxde
