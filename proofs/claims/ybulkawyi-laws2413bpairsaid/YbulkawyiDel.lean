import Derived.Test.YbulkawyiIns
namespace Go.Proofs.Ybulkawyi
open Go.RowKit
set_option linter.unusedVariables false

theorem grown_weak {w w' : World} (h : w.grownBy w' none) (r : Option Nat) : w.grownBy w' r := ⟨h.os, h.tape, h.output, h.size, fun k hk _ => h.block k hk (by simp)⟩

/-- slices.Insert(s, i, x) at neighbours, wherever it is put and whatever the capacity. -/
theorem insert_calls (base V n i c : Nat) (a : Option Addr) (xs news : List Value) (w : World) (hn : n ≤ 6) (hin : i ≤ n) (hown : w.ownsRow base 48 6 (.slice a n c) n xs) (hbase : base ≤ w.heap.size)
    (hl : news.length = 6) (hV : w.heap[V]? = some (.cells news.toArray 48 (0, 0))) (hVg : ∀ g, (Value.slice a n c).ownBlock = some g → V ≠ g) (h1 : ∀ u ∈ news, u.oneCell' = true) (h2 : ∀ u ∈ xs, u.oneCell' = true) :
    Calls Yba.prog 20 #[.slice a n c, .int .i64 (i : Int), .slice (some ⟨V, 0, none⟩) 1 1] w fun e w' => ∃ g cap, e = .returned (.slice (some ⟨g, 0, none⟩) (n + 1) cap) ∧ w'.ownsRow base 48 6 (.slice (some ⟨g, 0, none⟩) (n + 1) cap) (n + 1) (xs.take (i * 6) ++ (news ++ xs.drop (i * 6))) ∧ w.grownBy w' (Value.slice a n c).ownBlock := by
  have hxl := hown.1
  have hVl : V < w.heap.size := (Array.getElem?_eq_some_iff.1 hV).1
  have hc : ∀ j u, news[j]? = some u → w.cell? ((⟨V, 0, none⟩ : Addr).add j) = some u := by
    intro j u hj
    rw [Go.WideShapes.add_plain]
    simp [World.cell?, hV, hj]
  by_cases hi : i = n
  · subst hi
    refine (insert_end base V i _ xs news w a c rfl hn hown hbase hl hc h1).mono ?_
    rintro e w' ⟨g, cap, rfl, ho, hg⟩
    refine ⟨g, cap, rfl, ?_, hg⟩
    rw [List.take_of_length_le (by omega), List.drop_eq_nil_of_le (by omega), List.append_nil]
    exact ho
  · cases a with
    | none =>
      rcases hown.2 with ⟨h2, h3⟩ | ⟨g', cap', cur, e1, _⟩
      · omega
      · cases e1
    | some ad =>
      obtain ⟨g, rfl⟩ : ∃ g, ad = ⟨g, 0, none⟩ := by
        rcases hown.2 with ⟨h2, _⟩ | ⟨g', cap', cur, e1, _⟩
        · cases h2
        · cases e1; exact ⟨g', rfl⟩
      by_cases hr : n + 1 ≤ c
      · refine (insert_room base V n i g c xs news w hn (by omega) hr hown hbase hl hV (hVg g rfl) h1 h2).mono ?_
        rintro e w' ⟨rfl, ho, hg⟩
        exact ⟨g, c, rfl, ho, hg⟩
      · refine (insert_grow base V n i g c xs news w hn (by omega) (by omega) hown hbase hl hc hVl h1 h2).mono ?_
        rintro e w' ⟨g', cap, rfl, ho, hg⟩
        exact ⟨g', cap, rfl, ho, grown_weak hg _⟩

theorem zeros48 : ∀ v ∈ (Builtin.zeroCells (Value.agg #[.int .u64 0, .float .f64 0, .bool false, .int .i64 0, .int .u64 0, .int .u64 0]).cells 1).toList, v.oneCell' = true := by decide +kernel
theorem zeros48s : (Builtin.zeroCells (Value.agg #[.int .u64 0, .float .f64 0, .bool false, .int .i64 0, .int .u64 0, .int .u64 0]).cells 1).size = 6 := by decide +kernel

set_option maxRecDepth 100000 in
set_option maxHeartbeats 400000 in
/-- slices.Delete(s, i, i+1) at neighbours. -/
theorem delete_calls (base n1 i g c : Nat) (xs : List Value) (w : World) (hn : n1 + 1 ≤ 6) (hin : i < n1 + 1) (J : Int) (hJ : J = (i : Int) + 1) (hown : w.ownsRow base 48 6 (.slice (some ⟨g, 0, none⟩) (n1 + 1) c) (n1 + 1) xs) (h2 : ∀ u ∈ xs, u.oneCell' = true) :
    Calls Yba.prog 19 #[.slice (some ⟨g, 0, none⟩) (n1 + 1) c, .int .i64 (i : Int), .int .i64 J] w fun e w' => e = .returned (.slice (some ⟨g, 0, none⟩) n1 c) ∧ w'.ownsRow base 48 6 (.slice (some ⟨g, 0, none⟩) n1 c) n1 (xs.take (i * 6) ++ xs.drop ((i + 1) * 6)) ∧ w.grownBy w' (some g) := by
  obtain ⟨i0, hi, hz0, hz1, hz2⟩ := info_parts info48
  obtain ⟨cur, hcur, hcm, hcs, hct, hbg, hcn⟩ : ∃ cur, w.heap[g]? = some (.cells cur 48 (0, 0)) ∧ c ≤ maxLen ∧ cur.size = c * 6 ∧ cur.toList.take ((n1 + 1) * 6) = xs ∧ base ≤ g ∧ n1 + 1 ≤ c := by
    rcases hown.2 with ⟨h2, h3⟩ | ⟨g', cap', cur, e1, e2, e3, e4, e5, e6, e7⟩
    · cases h2
    · cases e1; exact ⟨cur, e3, e5, e6, e7, e2, e4⟩
  have hxl := hown.1
  have hcl : cur.toList.length = cur.size := Array.length_toList
  obtain ⟨i1, hi1, rfl⟩ : ∃ i1 : Nat, i1 = i + 1 ∧ J = (i1 : Int) := ⟨i + 1, rfl, by omega⟩
  have b1 : ((i : Int) == (i1 : Int)) = false := by rw [beq_eq_false_iff_ne]; omega
  have b2 : (i : Int) < (n1 : Int) + 1 := by omega
  have b3 : (i1 : Int) ≤ (n1 : Int) + 1 := by omega
  have b4 : (i : Int) ≤ (i1 : Int) := by omega
  have b5 : (i : Int) ≤ (c : Int) := by omega
  have b6 : (n1 : Int) + 1 ≤ (c : Int) := by omega
  have hyl : (xs.drop (i1 * 6)).length = (n1 + 1 - i1) * 6 := by simp; omega
  have hy1 : ∀ u ∈ xs.drop (i1 * 6), u.oneCell' = true := fun u hu => h2 u (List.mem_of_mem_drop hu)
  have hyc : ∀ j u, (xs.drop (i1 * 6))[j]? = some u → w.cell? ((⟨g, i1 * 6, none⟩ : Addr).add j) = some u := by
    intro j u hj
    have hj' : i1 * 6 + j < (n1 + 1) * 6 := by
      rcases Nat.lt_or_ge (i1 * 6 + j) ((n1 + 1) * 6) with h | h
      · exact h
      · rw [List.getElem?_drop, List.getElem?_eq_none (by omega)] at hj; cases hj
    rw [Go.WideShapes.add_plain, hown.cellAt _ hj']
    rw [List.getElem?_drop] at hj
    exact hj
  have hyc0 : c = i1 → ∀ j u, (xs.drop (i1 * 6))[j]? = some u → w.cell? ((⟨g, 0, none⟩ : Addr).add j) = some u := by
    intro hc j u hj
    rw [List.getElem?_eq_none (by rw [hyl]; omega)] at hj
    cases hj
  have HY : Hid _ := hyc
  have HY0 : Hid _ := hyc0
  have HN : Hid (n1 = i + (n1 + 1 - i1)) := by show _ = _; omega
  have HR : Hid (i + (n1 + 1 - i1) ≤ c) := by show _ ≤ _; omega
  have HF : Hid (i * 6 + (xs.drop (i1 * 6)).length ≤ cur.size) := by show _ ≤ _; omega
  have HI : Hid (i1 = i + 1) := hi1
  have HC : Hid _ := hcur
  have e3 : cur.toList.take (i * 6) = xs.take (i * 6) := by
    rw [← hct, List.take_take]; congr 1; omega
  have HT : Hid _ := e3
  rw [← hi1]
  have hfin : ∀ w2 w3 : World, w.grownBy w2 (some g) → w2.grownBy w3 (some g) →
      w3.heap[g]? = some (.cells ((cur.toList.take (i * 6) ++ xs.drop (i1 * 6) ++ cur.toList.drop (i * 6 + (xs.drop (i1 * 6)).length)).toArray.toList.take (n1 * 6) ++ (Builtin.zeroCells (Value.agg #[.int .u64 0, .float .f64 0, .bool false, .int .i64 0, .int .u64 0, .int .u64 0]).cells 1).toList ++
        (cur.toList.take (i * 6) ++ xs.drop (i1 * 6) ++ cur.toList.drop (i * 6 + (xs.drop (i1 * 6)).length)).toArray.toList.drop (n1 * 6 + (Builtin.zeroCells (Value.agg #[.int .u64 0, .float .f64 0, .bool false, .int .i64 0, .int .u64 0, .int .u64 0]).cells 1).size)).toArray 48 (0, 0)) →
      w3.ownsRow base 48 6 (.slice (some ⟨g, 0, none⟩) n1 c) n1 (xs.take (i * 6) ++ xs.drop (i1 * 6)) ∧ w.grownBy w3 (some g) := by
    intro w2 w3 hg2 hg3 hrow
    have ez := zeros48s
    generalize Builtin.zeroCells (Value.agg #[.int .u64 0, .float .f64 0, .bool false, .int .i64 0, .int .u64 0, .int .u64 0]).cells 1 = Z at hrow ez
    have ezl : Z.toList.length = 6 := by rw [Array.length_toList]; exact ez
    have e1 : (xs.take (i * 6) ++ xs.drop (i1 * 6)).length = n1 * 6 := by
      rw [List.length_append, hyl, List.length_take]; omega
    have e2 : (cur.toList.take (i * 6) ++ xs.drop (i1 * 6) ++ cur.toList.drop (i * 6 + (xs.drop (i1 * 6)).length)).take (n1 * 6) = xs.take (i * 6) ++ xs.drop (i1 * 6) := by
      rw [e3, ← e1]; exact List.take_left
    refine ⟨⟨e1, .inr ⟨g, c, _, rfl, hbg, hrow, by omega, hcm, ?_, ?_⟩⟩, ⟨hg3.os.trans hg2.os, hg3.tape.trans hg2.tape, hg3.output.trans hg2.output, Nat.le_trans hg2.size hg3.size, fun k hk hk' =>
      (hg3.block k (Nat.lt_of_lt_of_le hk hg2.size) hk').trans (hg2.block k hk hk')⟩⟩
    · simp only [List.size_toArray, List.length_append, List.length_take, List.length_drop, ezl, ez, hcl, hyl] 
      simp only [List.length_drop] at hyl
      omega
    · rw [show ∀ l : List Value, l.toArray.toList = l from fun _ => rfl, show ∀ l : List Value, l.toArray.toList = l from fun _ => rfl, e2, List.append_assoc, List.take_append_of_le_length (by omega)]
      exact List.take_of_length_le (by omega)
  have HFIN : Hid _ := hfin
  clear hyc hyc0 hcur hfin e3 hct hi1 hJ
  by_cases hci : c = i1
  · subst hci
    have hni : n1 = i := by have := HI.out; omega
    subst hni
    have hx0 : xs.drop (c * 6) = [] := List.drop_eq_nil_of_le (by omega)
    have hrw : cur.toList.take (n1 * 6) ++ xs.drop (c * 6) ++ cur.toList.drop (n1 * 6 + (xs.drop (c * 6)).length) = cur.toList := by rw [hx0]; simp
    rw [hrw] at HFIN
    obtain ⟨w3, hcl3, hrow3, hgr3⟩ := cleared (P := Yba.prog) w.drew 26 0 48 i0 _ g (n1 * 6) 1 (c - n1) cur 48 Yba.underlying26 hi hz0 HC.out (by omega) (by rw [zeros48s]; omega) zeros48
    have Hrow3 : Hid _ := hrow3
    clear hx0 hrw hrow3
    go_enter Yba.func19, Yba.ntmps19
    go_wp2
    go_region_held3 (fun _ => True) (trivial) (fail)
    all_goals
      go_wp2
      go_ret
      exact ⟨rfl, HFIN.out w w3 ⟨rfl, rfl, rfl, Nat.le_refl _, fun _ _ _ => rfl⟩ ⟨hgr3.os, hgr3.tape, hgr3.output, hgr3.size, hgr3.block⟩ Hrow3.out⟩
  · go_enter Yba.func19, Yba.ntmps19
    go_wp2
    go_region_held3 (fun _ => True) (trivial) ((refine step_appended rfl (.tmp 22) (.tmp 25) 26 rfl 48 i0 6 Yba.underlying26 hi hz1 g i c ⟨g, i1 * 6, none⟩ (n1 + 1 - i1) (c - i1) n1 rfl rfl HN.out cur 48 (by exact HC.out) (xs.drop (i1 * 6)) hyl (by exact HY.out) hy1 HR.out HF.out ?_; intro w2 hrow2 hgr2))
    obtain ⟨w3, hcl3, hrow3, hgr3⟩ := cleared (P := Yba.prog) w2 26 0 48 i0 _ g (n1 * 6) 1 (c - n1) _ 48 Yba.underlying26 hi hz0 hrow2.out (by omega) (by rw [zeros48s]; simp only [List.size_toArray, List.length_append, List.length_take, List.length_drop] at hyl ⊢; omega) zeros48
    have Hrow3 : Hid _ := hrow3
    clear hrow3
    go_wp2
    go_ret
    exact ⟨rfl, HFIN.out w2 w3 ⟨hgr2.os, hgr2.tape, hgr2.output, hgr2.size, hgr2.block⟩ hgr3 Hrow3.out⟩
end Go.Proofs.Ybulkawyi
