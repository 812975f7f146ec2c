import Derived.Test.YbulkawyiNb
namespace Go.Proofs.Ybulkawyi
open Go.RowKit

/-- The value of a candidate and of a neighbour. -/
def Nb.candV (a : Nb) : Value := .agg #[.int .u64 a.id, .float .f64 (pb a.pr), .bool a.st]
def Nb.val (a : Nb) : Value := .agg #[.int .u64 a.id, .float .f64 (pb a.pr), .bool a.st, .int .i64 a.hops, .int .u64 a.seq, .int .u64 a.named]

set_option maxHeartbeats 400000 in
theorem outranks_raw (ia ib pa pb' : Int) (sa sb r : Bool) (hpa : -4 ≤ pa) (hpa' : pa ≤ 3) (hpb : -4 ≤ pb') (hpb' : pb' ≤ 3)
    (hr : r = if sa != sb then sa else if cmpI pa pb' != 0 then decide (0 < cmpI pa pb') else decide (ia < ib)) (w : World) :
    Calls Yba.prog 18 #[.agg #[.int .u64 ia, .float .f64 (pb pa), .bool sa], .agg #[.int .u64 ib, .float .f64 (pb pb'), .bool sb]] w fun e w' => e = .returned (.bool r) ∧ Below w.heap.size w w' := by
  have fin : ∀ x : Bool, r = x → ∀ (e : Ending) (w' : World), (e = .returned (.bool x) ∧ Below w.heap.size w w') → (e = .returned (.bool r) ∧ Below w.heap.size w w') := fun x hx e w' h => by rw [hx]; exact h
  have hbel : ∀ o1 o2, Below w.heap.size w ((w.alloc o1).alloc o2) := fun o1 o2 => ((Below.refl _ w).alloc (Nat.le_refl _) o1).alloc (by simp) o2
  have HB : Hid _ := hbel
  clear hbel
  have diff : ∀ s : Bool, r = s → sa = s → sb = !s → Calls Yba.prog 18 #[.agg #[.int .u64 ia, .float .f64 (pb pa), .bool sa], .agg #[.int .u64 ib, .float .f64 (pb pb'), .bool sb]] w fun e w' => e = .returned (.bool r) ∧ Below w.heap.size w w' := by
    intro s h1 h2 h3
    refine Calls.mono ?_ (fin s h1)
    subst h2 h3
    clear fin hr h1
    cases sa
    all_goals
      go_enter Yba.func18, Yba.ntmps18
      go_wp2
      go_ret
      exact ⟨rfl, HB.out _ _⟩
  have same : ∀ s : Bool, (r = if cmpI pa pb' != 0 then decide (0 < cmpI pa pb') else decide (ia < ib)) → sa = s → sb = s → Calls Yba.prog 18 #[.agg #[.int .u64 ia, .float .f64 (pb pa), .bool sa], .agg #[.int .u64 ib, .float .f64 (pb pb'), .bool sb]] w fun e w' => e = .returned (.bool r) ∧ Below w.heap.size w w' := by
    intro s hr h2 h3
    cases hc : (cmpI pa pb' != 0) with
    | true =>
      rw [hc] at hr
      simp only [if_true] at hr
      refine Calls.mono ?_ (fin _ hr)
      subst h2 h3
      clear fin diff
      cases sb
      all_goals
        go_enter Yba.func18, Yba.ntmps18
        go_wp2_with fail
        refine Calls.mono (compare_calls pa pb' hpa hpa' hpb hpb' _) ?_
        rintro e w' ⟨rfl, rfl⟩
        go_wp2
        go_ret
        exact ⟨rfl, HB.out _ _⟩
    | false =>
      rw [hc] at hr
      simp only [Bool.false_eq_true, if_false] at hr
      refine Calls.mono ?_ (fin _ hr)
      subst h2 h3
      clear fin diff
      cases sb
      all_goals
        go_enter Yba.func18, Yba.ntmps18
        go_wp2_with fail
        refine Calls.mono (compare_calls pa pb' hpa hpa' hpb hpb' _) ?_
        rintro e w' ⟨rfl, rfl⟩
        go_wp2
        go_ret
        exact ⟨rfl, HB.out _ _⟩
  cases sa <;> cases sb
  · exact same false (by simpa using hr) rfl rfl
  · exact diff false (by simpa using hr) rfl rfl
  · exact diff true (by simpa using hr) rfl rfl
  · exact same true (by simpa using hr) rfl rfl

theorem outranks_eq {a b : Nb} (ha : a.Ok) (hb : b.Ok) :
    decide (a.ck < b.ck) = if a.st != b.st then a.st else if cmpI a.pr b.pr != 0 then decide (0 < cmpI a.pr b.pr) else decide (a.id < b.id) := by
  obtain ⟨a1, a2, a3, a4, _, _⟩ := ha
  obtain ⟨b1, b2, b3, b4, _, _⟩ := hb
  unfold Nb.ck cmpI bit01
  cases h1 : a.st <;> cases h2 : b.st <;> simp
  · by_cases h : a.pr < b.pr
    · simp [h]; omega
    · by_cases h' : b.pr < a.pr
      · simp [h, h']; omega
      · simp [h, h']; omega
  · omega
  · omega
  · by_cases h : a.pr < b.pr
    · simp [h]; omega
    · by_cases h' : b.pr < a.pr
      · simp [h, h']; omega
      · simp [h, h']; omega

theorem outranks_calls {a b : Nb} (ha : a.Ok) (hb : b.Ok) (w : World) :
    Calls Yba.prog 18 #[a.candV, b.candV] w fun e w' => e = .returned (.bool (decide (a.ck < b.ck))) ∧ Below w.heap.size w w' :=
  outranks_raw a.id b.id a.pr b.pr a.st b.st _ ha.pr0 ha.pr3 hb.pr0 hb.pr3 (outranks_eq ha hb) w

set_option maxHeartbeats 400000 in
theorem before_calls {a b : Nb} (ha : a.Ok) (hb : b.Ok) (w : World) :
    Calls Yba.prog 10 #[a.val, b.val] w fun e w' => e = .returned (.bool (decide (a.key < b.key))) ∧ Below w.heap.size w w' := by
  have hbel : ∀ o1 o2, Below w.heap.size w ((w.alloc o1).alloc o2) := fun o1 o2 => ((Below.refl _ w).alloc (Nat.le_refl _) o1).alloc (by simp) o2
  have HB : Hid _ := hbel
  clear hbel
  have ra := Nb.ck_range ha
  have rb := Nb.ck_range hb
  have ho := fun w => outranks_calls ha hb w
  have HO : Hid _ := ho
  clear ho
  have hk : a.key = a.hops * 128 + a.ck := rfl
  have hk' : b.key = b.hops * 128 + b.ck := rfl
  rw [hk, hk']
  clear hk hk'
  obtain ⟨id, pr, st, hops, seq, named⟩ := a
  obtain ⟨id', pr', st', hops', seq', named'⟩ := b
  unfold Nb.val
  simp only at *
  generalize Nb.ck _ = x at *
  generalize Nb.ck _ = y at *
  clear ha hb
  by_cases h1 : hops < hops'
  · rw [show decide (hops * 128 + x < hops' * 128 + y) = true from by simp; omega]
    clear ra rb
    go_enter Yba.func10, Yba.ntmps10
    go_wp2
    go_ret
    exact ⟨rfl, HB.out _ _⟩
  · by_cases h2 : hops = hops'
    · subst h2
      rw [show decide (hops * 128 + x < hops * 128 + y) = decide (x < y) from by simp]
      have hd : (hops == hops) = true := by simp
      clear ra rb
      go_enter Yba.func10, Yba.ntmps10
      go_wp2_with fail
      refine Calls.mono (HO.out _) ?_
      rintro e w1 ⟨rfl, hb1⟩
      have hb2 := (HB.out (.cells #[.int .u64 id, .float .f64 (pb pr), .bool st, .int .i64 hops, .int .u64 seq, .int .u64 named] 48) (.cells #[.int .u64 id', .float .f64 (pb pr'), .bool st', .int .i64 hops, .int .u64 seq', .int .u64 named'] 48)).trans (hb1.mono (by simp; omega))
      have HB2 : Hid _ := hb2
      clear hb1 hb2
      go_wp2
      go_ret
      exact ⟨rfl, HB2.out⟩
    · rw [show decide (hops * 128 + x < hops' * 128 + y) = false from by simp; omega]
      have hd : (hops == hops') = false := by simpa using h2
      clear ra rb
      go_enter Yba.func10, Yba.ntmps10
      go_wp2
      go_ret
      exact ⟨rfl, HB.out _ _⟩
end Go.Proofs.Ybulkawyi
