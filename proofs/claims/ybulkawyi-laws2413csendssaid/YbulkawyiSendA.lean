import Derived.Test.YbulkawyiBase
namespace Go.Proofs.Ybulkawyi
open Go.RowKit

set_option maxHeartbeats 400000 in
theorem send_calls (T : Nat) (s : Int) (w : World) (h : w.cell? ⟨T, 2, none⟩ = some (.int .u64 s)) (hf : w.frozen? ⟨T, 2, none⟩ = false) :
    Calls Yba.prog 28 #[.pointer (some ⟨T, 0, none⟩)] w fun e w' => e = .returned (.tuple #[]) ∧ w' = w.setCell ⟨T, 2, none⟩ (.int .u64 (IntKind.wrap .u64 (s + 1))) := by
  go_enter Yba.func28, Yba.ntmps28
  go_wp2
  go_end0
  exact ⟨rfl, rfl⟩

theorem info124 : (Yba.prog.info? 124).map (fun i => (i.zero, i.size, i.bytes)) = some (some (.agg #[.float .f64 0, .int .u64 0, .float .f64 0, .slice none 0 0, .pointer none, .int .i32 0, .bool false]), 7, 64) := by kernel_rfl

set_option maxHeartbeats 400000 in
/-- slices.Insert(nil, 0, e) at events: one new row that holds just e. -/
theorem insert_nil (V : Nat) (news : List Value) (w : World) (hl : news.length = 7) (hc : ∀ j u, news[j]? = some u → w.cell? ((⟨V, 0, none⟩ : Addr).add j) = some u) (h1 : ∀ u ∈ news, u.oneCell' = true) :
    Calls Yba.prog 43 #[.slice none 0 0, .int .i64 0, .slice (some ⟨V, 0, none⟩) 1 1] w fun e w' => ∃ g cap, e = .returned (.slice (some ⟨g, 0, none⟩) 1 cap) ∧ w'.ownsRow w.heap.size 124 7 (.slice (some ⟨g, 0, none⟩) 1 cap) 1 news ∧ w.grownBy w' none := by
  obtain ⟨i0, hi, hz0, hz1, hz2⟩ := info_parts info124
  go_enter Yba.func43, Yba.ntmps43
  go_wp2_with (first
    | (at_builtin; refine wpList_append_own _ rfl _ _ 115 rfl w.heap.size 124 i0 _ 7 64 Yba.underlying115 hi hz0 hz1 hz2 rfl (by decide) _ 0 [] rfl (World.ownsRow_nil _ _ _ _) ⟨V, 0, none⟩ 1 1 news rfl hl hc h1 (by decide) (by decide) (Nat.le_refl _) ?_)
    | go_in)
  intro v' w1 hown hgrow _
  go_wp2
  go_ret
  have ho : w1.ownsRow w.heap.size 124 7 v' 1 news := by simpa using hown
  rcases ho.2 with ⟨_, h0⟩ | ⟨g, cap, cur, hv, _⟩
  · cases h0
  · subst hv
    exact ⟨g, cap, rfl, ho, hgrow⟩
end Go.Proofs.Ybulkawyi
