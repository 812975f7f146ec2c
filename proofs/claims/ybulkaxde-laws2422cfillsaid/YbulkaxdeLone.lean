import Derived.Test.YbulkaxdeRows
import Derived.Conc.LoneSelectN
import Derived.Conc.LoneSelect
import Derived.KernelRfl
import Derived.Laws.Rows
import Derived.WalkKit
namespace Go.Proofs.Ybulkaxde
open Go.Conc Go.RowKit
set_option linter.unusedVariables false

/-- The last code of a body, by the kit's walk. -/
theorem lone_tail {P : Program} {f : FuncId} {fn : Func} {c : Code} {a : Act} {w : World} {cs : List Frame} {R : Ending → World → Prop} (hf : P.funcs[f]? = some fn) (hno : ∀ w', ¬ R .outgrown w')
    (h : c.wp P (bodyPost P fn R) a w) : LoneTo P (fun g' w' => ∃ e fr, g' = G fr cs ∧ R e w' ∧ fr.fn = f ∧ fr.leaving P w' e) (G ((base f).at a [.code c]) cs) w := by
  obtain ⟨e, a', w', hq, harr⟩ := h (base f) [] cs
  cases e with
  | normal =>
    obtain ⟨hd, v, hr, hR⟩ := hq
    exact ⟨_, w', Steps.trans harr (.one step_end), .returned v, _, rfl, hR, rfl, rfl, hd, rfl, fn, hf, hr⟩
  | ret =>
    obtain ⟨hd, v, hr, hR⟩ := hq
    obtain ⟨todo, hs⟩ := harr
    exact ⟨_, w', hs, .returned v, _, rfl, hR, rfl, rfl, hd, rfl, fn, hf, hr⟩
  | panic chain =>
    obtain ⟨hd, hR⟩ := hq
    obtain ⟨todo, hs⟩ := harr
    exact ⟨_, w', hs, .panicked chain, _, rfl, hR, rfl, rfl, hd, fn, hf⟩
  | exit id => exact hq.elim
  | goto l => exact hq.elim
  | outgrown => exact absurd hq (hno _)

/-- What a code of plain steps does, within a lone walk. -/
theorem lone_code {P : Program} {Q : Goroutine → World → Prop} {b : Frame} {c : Code} {k : List Item} {a : Act} {w : World} {cs : List Frame} {N : Act → World → Prop}
    (h : c.wp P (fun e a' w' => e = .normal ∧ N a' w') a w) (hn : ∀ a' w', N a' w' → LoneTo P Q (G (b.at a' k) cs) w') : LoneTo P Q (G (b.at a (.code c :: k)) cs) w := by
  obtain ⟨e, a', w', ⟨rfl, hN⟩, harr⟩ := h b k cs
  obtain ⟨g₂, w₂, hs, hq⟩ := hn a' w' hN
  exact ⟨g₂, w₂, Steps.trans harr hs, hq⟩

set_option maxRecDepth 100000 in
theorem take_room (c cap s r : Nat) (buf : Array Value) (w : World) (hc : w.heap[c]? = some (.chan cap buf false s r false)) (hroom : buf.size < cap) :
    Calls Yba.prog 4 #[.chan (some c)] w fun e w' => e = .returned (.bool true) ∧ w' = w.setChan c cap (buf.push (.agg #[])) false (s + 1) r false := by
  refine calls_of_loneTo fun cs => ?_
  have e : Frame.enter Yba.prog 4 #[.chan (some c)] .normal = (base 4).at ⟨#[.chan (some c), undef, undef, undef, undef, undef, undef, undef], []⟩ [.code (Yba.f4.body.getD .skip)] := by
    simp [Frame.enter, Frame.at, Yba.func4, base, Yba.f4]
  rw [e]
  refine LoneTo.goes (n := 14) ?_
  simp only [Yba.f4, Option.getD_some]
  s_c stepG_seq
  s_reg
  s_op
  s_c stepG_region_end
  s_c stepG_seq
  s_c stepG_seq
  s_reg
  s_op
  s_c stepG_region_end
  s_reg
  s_op
  s_c stepG_region_end
  s_c stepG_seq
  s_reg
  s_stop
  refine LoneTo.step (step_lone_select_send_room (c := c) (cap := cap) (buf := buf) (s := s) (r := r) (tm := false) (v := .agg #[]) (z' := .agg #[]) (stepG_comm (cases := #[scase c (.agg #[]) (.agg #[])]) (blocking := false) (shape := .select) (w' := w) rfl rfl (by decide) (by simp [go_sem, execOp, scase, Act.eval])) hc hroom) ?_
  rw [Frame.finish_at]
  walk_nrm
  refine LoneTo.goes (n := 10) ?_
  s_op
  s_op
  s_c stepG_region_end
  s_c stepG_block
  s_cond true
  s_c stepG_seq
  s_reg
  s_op
  s_c stepG_region_end
  s_c stepG_ret'
  s_stop
  refine LoneTo.done ⟨.returned (.bool true), _, rfl, ⟨rfl, rfl⟩, rfl, rfl, rfl, rfl, _, Yba.func4, by simp [results, Yba.f4, Frame.at]⟩

set_option maxRecDepth 100000 in
theorem take_full (c cap s r : Nat) (buf : Array Value) (w : World) (hc : w.heap[c]? = some (.chan cap buf false s r false)) (hfull : cap ≤ buf.size) :
    Calls Yba.prog 4 #[.chan (some c)] w fun e w' => e = .returned (.bool false) ∧ w' = w := by
  refine calls_of_loneTo fun cs => ?_
  have e : Frame.enter Yba.prog 4 #[.chan (some c)] .normal = (base 4).at ⟨#[.chan (some c), undef, undef, undef, undef, undef, undef, undef], []⟩ [.code (Yba.f4.body.getD .skip)] := by
    simp [Frame.enter, Frame.at, Yba.func4, base, Yba.f4]
  rw [e]
  refine LoneTo.goes (n := 14) ?_
  simp only [Yba.f4, Option.getD_some]
  s_c stepG_seq
  s_reg
  s_op
  s_c stepG_region_end
  s_c stepG_seq
  s_c stepG_seq
  s_reg
  s_op
  s_c stepG_region_end
  s_reg
  s_op
  s_c stepG_region_end
  s_c stepG_seq
  s_reg
  s_stop
  refine LoneTo.step (step_lone_select_send_full (c := c) (cap := cap) (buf := buf) (s := s) (r := r) (tm := false) (v := .agg #[]) (z' := .agg #[]) (stepG_comm (cases := #[scase c (.agg #[]) (.agg #[])]) (blocking := false) (shape := .select) (w' := w) rfl rfl (by decide) (by simp [go_sem, execOp, scase, Act.eval])) hc hfull) ?_
  rw [Frame.finish_at]
  walk_nrm
  refine LoneTo.goes (n := 10) ?_
  s_op
  s_op
  s_c stepG_region_end
  s_c stepG_block
  s_cond false
  s_c stepG_seq
  s_reg
  s_op
  s_c stepG_region_end
  s_c stepG_ret'
  s_stop
  refine LoneTo.done ⟨.returned (.bool false), _, rfl, ⟨rfl, rfl⟩, rfl, rfl, rfl, rfl, _, Yba.func4, by simp [results, Yba.f4, Frame.at]⟩

end Go.Proofs.Ybulkaxde
