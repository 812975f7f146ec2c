import Derived.Test.YbulkawyiPrC
namespace Go.Proofs.Ybulkawyi
open Go.RowKit
attribute [local go_sem] run_store_float
set_option linter.unusedVariables false

theorem info80 : (Yba.prog.info? 80).map (fun i => (i.zero, i.size, i.bytes)) = some (some (.agg #[.float .f64 0, .int .u64 0, .float .f64 0, .int .i32 0, .bool false]), 5, 32) := by kernel_rfl

def itm (at_ down : Nat) (pr : Int) (up : Bool) : List Value := [.float .f64 at_, .int .u64 0, .float .f64 down, .int .i32 pr, .bool up]

set_option maxHeartbeats 1000000 in
theorem heap_push (at_ down : Nat) (pr : Int) (up : Bool) (w : World) :
    Calls Yba.prog 39 #[.slice none 0 0, .agg #[.float .f64 at_, .int .u64 0, .float .f64 down, .int .i32 pr, .bool up]] w fun e w' => ∃ g cap, e = .returned (.slice (some ⟨g, 0, none⟩) 1 cap) ∧ w'.ownsRow w.heap.size 80 5 (.slice (some ⟨g, 0, none⟩) 1 cap) 1 (itm at_ down pr up) ∧ Below w.heap.size w w' := by
  obtain ⟨i0, hi, hz0, hz1, hz2⟩ := info_parts info80
  go_enter Yba.func39, Yba.ntmps39
  have hnew : ∀ j u, (itm at_ down pr up)[j]? = some u → ((w.alloc (.cells #[.float .f64 at_, .int .u64 0, .float .f64 down, .int .i32 pr, .bool up] 80)).alloc (.cells #[.float .f64 at_, .int .u64 0, .float .f64 down, .int .i32 pr, .bool up] 80)).cell? ((⟨w.heap.size + 1, 0, none⟩ : Addr).add j) = some u := fun j u h => cells_laid _ _ (by simp) _ (itm at_ down pr up) j u h
  have hnew : ∀ j u, (itm at_ down pr up)[j]? = some u → ((w.alloc (.cells #[.float .f64 at_, .int .u64 0, .float .f64 down, .int .i32 pr, .bool up] 80)).alloc (.cells #[.float .f64 at_, .int .u64 0, .float .f64 down, .int .i32 pr, .bool up] 80)).cell? ((⟨w.heap.size + 1, 0, none⟩ : Addr).add j) = some u := fun j u h => cells_laid _ _ (by simp) _ (itm at_ down pr up) j u h
  have hnew : ∀ j u, (itm at_ down pr up)[j]? = some u → ((w.alloc (.cells #[.float .f64 at_, .int .u64 0, .float .f64 down, .int .i32 pr, .bool up] 80)).alloc (.cells #[.float .f64 at_, .int .u64 0, .float .f64 down, .int .i32 pr, .bool up] 80)).cell? ((⟨w.heap.size + 1, 0, none⟩ : Addr).add j) = some u := fun j u h => cells_laid _ _ (by simp) _ (itm at_ down pr up) j u h
  have hnew : ∀ j u, (itm at_ down pr up)[j]? = some u → ((w.alloc (.cells #[.float .f64 at_, .int .u64 0, .float .f64 down, .int .i32 pr, .bool up] 80)).alloc (.cells #[.float .f64 at_, .int .u64 0, .float .f64 down, .int .i32 pr, .bool up] 80)).cell? ((⟨w.heap.size + 1, 0, none⟩ : Addr).add j) = some u := fun j u h => cells_laid _ _ (by simp) _ (itm at_ down pr up) j u h
  go_wp2_with (at_builtin; refine wpList_append_own _ rfl _ _ 64 rfl w.heap.size 80 i0 _ 5 32 Yba.underlying64 hi hz0 hz1 hz2 rfl (by decide) _ 0 [] rfl (World.ownsRow_nil _ _ _ _) ⟨w.heap.size + 1, 0, none⟩ 1 1 (itm at_ down pr up) rfl rfl hnew (by simp [itm, Value.oneCell']) (by decide) (by decide) (by simp; omega) ?_)
  intro v' w1 hown hgrow _
  have ho : w1.ownsRow w.heap.size 80 5 v' 1 (itm at_ down pr up) := by simpa using hown
  have hb0 : ∀ o1 o2, Below w.heap.size w ((w.alloc o1).alloc o2) := fun o1 o2 => ((Below.refl _ w).alloc (Nat.le_refl _) o1).alloc (by simp) o2
  have hbel : Below w.heap.size w w1 := by
    refine (hb0 _ _).grown hgrow ?_ ?_
    · rw [World.size_alloc, World.size_alloc]; omega
    · intro k hk; cases hk
  clear hb0
  clear hown hgrow hnew
  rcases ho.2 with ⟨_, h0⟩ | ⟨g, cap, cur, hv, _⟩
  · cases h0
  · subst hv
    have HO : Hid _ := ho
    have HB : Hid _ := hbel
    clear ho hbel
    go_wp2
    refine wp_loop_rounds 1 ?_
    rw [rounds_succ]
    go_wp2
    go_ret
    exact ⟨g, cap, rfl, HO.out, HB.out⟩
end Go.Proofs.Ybulkawyi
