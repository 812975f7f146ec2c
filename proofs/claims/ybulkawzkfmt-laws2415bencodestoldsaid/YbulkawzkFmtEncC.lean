import Derived.Test.YbulkawzkFmtEncB
namespace Go.Proofs.YbulkawzkFmt
open Go.RowKit Go.Extern.Stop Go.Stop Go.Extern
set_option linter.unusedVariables false

set_option maxRecDepth 100000 in
set_option maxHeartbeats 4000000 in
theorem voted_calls (B : Nat) (r : Option Nat) (v : Value) (n : Nat) (xs : List Value) (inst view : Int) (blk : Array Value) (w : World) (h : Buf B r w v n xs) (hB : B ≤ w.heap.size) (hn : n ≤ 80000) (hv0 : 0 ≤ view) (hv1 : view < 18446744073709551616) (hbl : blk.size = 32) (hb1 : ∀ u ∈ blk.toList, u.oneCell' = true) :
    Calls Ybaf.prog 12 #[v, .int .i64 inst, .int .u64 view, .agg blk] w fun e w' => ∃ v', e = .returned v' ∧ Buf B r w' v' (n + 8 + 8 + 32) (xs ++ be64 (IntKind.u64.wrap inst) ++ be64 view ++ blk.toList) ∧ Kept B r w w' := by
  obtain ⟨a, c, rfl⟩ := h.shape
  have hbel : Below w.heap.size w (w.alloc (.cells blk 33)) := (Below.refl _ _).alloc (Nat.le_refl _) _
  have h1 := h.below hbel
  have hsz : (w.alloc (.cells blk 33)).heap.size = w.heap.size + 1 := by simp
  have hk0 : Kept B r w (w.alloc (.cells blk 33)) := Kept.of_below hbel hB
  have hcell : ∀ j u, blk.toList[j]? = some u → (w.alloc (.cells blk 33)).cell? ⟨w.heap.size, j, none⟩ = some u := fun j u hj => by rw [World.cell?_alloc_new]; simpa using hj
  have hne := h.ne (Nat.le_refl _)
  generalize hW1 : w.alloc (.cells blk 33) = W1 at *
  have HC : Hid _ := be64_calls _ _ _ n xs (IntKind.u64.wrap inst) W1 (u64_lo _) (u64_hi _) h1.alone (Nat.le_refl _) (by omega)
  have HALL : Hid (∀ v2 w2, Buf W1.heap.size (Value.slice a n c).ownBlock w2 v2 (n + 8) (xs ++ be64 (IntKind.u64.wrap inst)) → Kept W1.heap.size (Value.slice a n c).ownBlock W1 w2 →
      ∃ a2 c2, v2 = .slice a2 (n + 8) c2 ∧ Hid (Calls Ybaf.prog 11 #[.agg #[], .slice a2 (n + 8) c2, .int .u64 view] w2 fun e w' => ∃ a3 c3, e = .returned (.slice a3 (n + 8 + 8) c3) ∧ ∃ v4 w4, (Builtin.append_ #[25, 25] 25 #[.slice a3 (n + 8 + 8) c3, .slice (some ⟨w.heap.size, 0, none⟩) 32 32]).run Ybaf.prog w' = .ok v4 w4 ∧ Hid (Buf B r w4 v4 (n + 8 + 8 + 32) (xs ++ be64 (IntKind.u64.wrap inst) ++ be64 view ++ blk.toList) ∧ Kept B r w w4))) := by
    intro v2 w2 hb hk
    obtain ⟨a2, c2, rfl⟩ := hb.shape
    refine ⟨a2, c2, rfl, ?_⟩
    show Calls _ _ _ _ _
    have hw2 := hk.size
    refine (be64_calls W1.heap.size (Value.slice a n c).ownBlock _ (n + 8) _ view w2 hv0 hv1 hb hw2 (by omega)).mono ?_
    rintro e w3 ⟨v3, rfl, hb3, hk3⟩
    obtain ⟨a3, c3, rfl⟩ := hb3.shape
    refine ⟨a3, c3, rfl, ?_⟩
    have hk13 := hk.trans hk3
    have hbB := h1.lift (by omega) hb3
    have hkB := hk0.trans (h1.liftK (by omega) hk13)
    obtain ⟨v4, w4, hr, hb4, hk4⟩ := buf_append hbB (Nat.le_trans hB hkB.size) (.inr ⟨⟨w.heap.size, 0, none⟩, 32, rfl, by simpa using hbl, fun j u hj => by
      rw [Go.WideShapes.add_plain, Nat.zero_add, hk13.cell (p := ⟨w.heap.size, j, none⟩) (by show w.heap.size < _; omega) hne]
      exact hcell j u hj, hb1⟩) (by omega)
    exact ⟨v4, w4, hr, hb4, hkB.trans hk4⟩
  clear hcell hne hk0 h1 h hb1 hbel hsz
  go_enter Ybaf.func12, Ybaf.ntmps12
  go_wp2_with fail
  refine Calls.mono (HC.out) ?_
  rintro e w2 ⟨v2, rfl, hb, hk⟩
  obtain ⟨a2, c2, rfl, HC2⟩ := HALL.out v2 w2 hb hk
  clear hb hk HALL
  go_wp2_with fail
  refine Calls.mono (HC2.out) ?_
  rintro e w3 ⟨a3, c3, rfl, v4, w4, hr, HF⟩
  go_wp2_with (at_builtin; refine Lib.wpList_append_run _ rfl _ _ _ _ rfl _ _ rfl rfl v4 w4 hr ?_)
  go_ret
  exact ⟨v4, rfl, HF.out.1, HF.out.2⟩

/-- Two rows of the same bytes. -/
def RowB (w : World) (v : Value) (n : Nat) (xs : List Value) : Prop := xs.length = n ∧ ∃ a c, v = .slice a n c ∧ ∀ k x, xs[k]? = some x → ∃ g i, a = some ⟨g, 0, none⟩ ∧ g < w.heap.size ∧ x = .int .u8 i ∧ w.cell? ⟨g, k, none⟩ = some (.int .u8 i)

set_option maxRecDepth 100000 in
set_option maxHeartbeats 4000000 in
theorem eq_calls (v1 v2 : Value) (n : Nat) (xs : List Value) (w : World) (hn : n ≤ 100000) (h1 : RowB w v1 n xs) (h2 : RowB w v2 n xs) :
    Calls Ybaf.prog 9 #[v1, v2] w fun e w' => e = .returned (.bool true) ∧ Below w.heap.size w w' := by
  obtain ⟨hl, a1, c1, rfl, r1⟩ := h1
  obtain ⟨_, a2, c2, rfl, r2⟩ := h2
  have H1 : Hid _ := r1
  have H2 : Hid _ := r2
  have HL : Hid _ := hl
  clear r1 r2 hl
  go_enter Ybaf.func9, Ybaf.ntmps9
  go_wp2
  go_loopw [5] (fun i wr => ∃ k : Nat, k ≤ n ∧ i = .int .i64 k ∧ ∃ q, wr = w.drewN q) (fun i _ => n - (intOf i).toNat)
  case atStart => exact ⟨0, by omega, rfl, 0, rfl⟩
  case round =>
    obtain ⟨k, hk, rfl, q, rfl⟩ := hrel
    by_cases hkn : k < n
    · have hkn' : (k : Int) < (n : Int) := by omega
      obtain ⟨x, hx⟩ : ∃ x, xs[k]? = some x := ⟨_, List.getElem?_eq_getElem (by rw [HL.out]; exact hkn)⟩
      obtain ⟨g, i, rfl, hg, rfl, c1'⟩ := H1.out k x hx
      obtain ⟨g2, i2, rfl, hg2, e2, c2'⟩ := H2.out k _ hx
      cases e2
      clear hx
      have hne : (i != i) = false := by simp
      go_wp2
      go_quiet (fail)
      go_wp2
      go_roundw
      case rel => exact ⟨k + 1, by omega, by go_num, _, rfl⟩
      case measure => simp [intOf]; omega
    · have hkn' : k = n := by omega
      subst hkn'
      have hd : decide ((k : Int) < (k : Int)) = false := by simp
      go_wp2
      go_ret
      exact ⟨rfl, bdrew (Below.refl _ _) _⟩
end Go.Proofs.YbulkawzkFmt
