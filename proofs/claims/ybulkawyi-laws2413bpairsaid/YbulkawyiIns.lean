import Derived.Test.YbulkawyiRow
import Derived.Test.YbulkawyiMsg
import Derived.Lib.AppendZerosOnto
import Derived.Lib.AppendZeros
import Derived.Deep.RegionLaw
import Derived.Deep.DeepMust
import Derived.Deep.RegionHeld3
namespace Go.Proofs.Ybulkawyi
open Go.RowKit
set_option linter.unusedVariables false

theorem info48 : (Yba.prog.info? 48).map (fun i => (i.zero, i.size, i.bytes)) = some (some (.agg #[.int .u64 0, .float .f64 0, .bool false, .int .i64 0, .int .u64 0, .int .u64 0]), 6, 48) := by kernel_rfl

set_option maxRecDepth 100000 in
set_option maxHeartbeats 400000 in
/-- slices.Insert(s, len(s), x): an append. -/
theorem insert_end (base V n : Nat) (v : Value) (xs news : List Value) (w : World) (a : Option Addr) (c : Nat) (hv : v = .slice a n c) (hn : n ≤ 6) (hown : w.ownsRow base 48 6 v n xs) (hbase : base ≤ w.heap.size)
    (hl : news.length = 6) (hc : ∀ j u, news[j]? = some u → w.cell? ((⟨V, 0, none⟩ : Addr).add j) = some u) (h1 : ∀ u ∈ news, u.oneCell' = true) :
    Calls Yba.prog 20 #[v, .int .i64 (n : Int), .slice (some ⟨V, 0, none⟩) 1 1] w fun e w' => ∃ g cap, e = .returned (.slice (some ⟨g, 0, none⟩) (n + 1) cap) ∧ w'.ownsRow base 48 6 (.slice (some ⟨g, 0, none⟩) (n + 1) cap) (n + 1) (xs ++ news) ∧ w.grownBy w' v.ownBlock := by
  obtain ⟨i0, hi, hz0, hz1, hz2⟩ := info_parts info48
  subst hv
  have hcap : n ≤ c := by
    rcases hown.2 with ⟨h2, h3⟩ | ⟨g', cap', cur, e1, e2, e3, e4, _⟩
    · cases h2; exact Nat.le_refl _
    · cases e1; exact e4
  have hob : ∀ n' c' (w1 : World), w.grownBy w1 (Value.slice a n' c').ownBlock → w.grownBy w1 (Value.slice a n c).ownBlock := by cases a <;> exact fun _ _ _ h => h
  have HO : Hid _ := hob
  clear hob
  go_enter Yba.func20, Yba.ntmps20
  go_wp2_with (first
    | (at_builtin; refine wpList_append_own _ rfl (.tmp 23) (.tmp 24) 26 rfl base 48 i0 _ 6 48 Yba.underlying26 hi hz0 hz1 hz2 rfl (by decide) _ n xs rfl hown ⟨V, 0, none⟩ 1 1 news rfl hl hc h1 (by unfold maxLen; omega) (by omega) hbase ?_)
    | go_in)
  all_goals
    intro v' w1 hown' hgrow _
    have HG : Hid (w.grownBy w1 (Value.slice a n c).ownBlock) := HO.out _ _ _ hgrow
    clear hgrow
    go_wp2
    go_ret
    rcases hown'.2 with ⟨_, h0⟩ | ⟨g, cap, cur, hv, _⟩
    · omega
    · subst hv
      exact ⟨g, cap, rfl, hown', HG.out⟩

set_option maxRecDepth 100000 in
set_option maxHeartbeats 400000 in
/-- slices.Insert(s, i, x), i inside, no room. -/
theorem insert_grow (base V n i g c : Nat) (xs news : List Value) (w : World) (hn : n ≤ 6) (hin : i < n) (hcn : c < n + 1) (hown : w.ownsRow base 48 6 (.slice (some ⟨g, 0, none⟩) n c) n xs) (hbase : base ≤ w.heap.size)
    (hl : news.length = 6) (hc : ∀ j u, news[j]? = some u → w.cell? ((⟨V, 0, none⟩ : Addr).add j) = some u) (hV : V < w.heap.size) (h1 : ∀ u ∈ news, u.oneCell' = true) (h2 : ∀ u ∈ xs, u.oneCell' = true) :
    Calls Yba.prog 20 #[.slice (some ⟨g, 0, none⟩) n c, .int .i64 (i : Int), .slice (some ⟨V, 0, none⟩) 1 1] w fun e w' => ∃ g cap, e = .returned (.slice (some ⟨g, 0, none⟩) (n + 1) cap) ∧ w'.ownsRow base 48 6 (.slice (some ⟨g, 0, none⟩) (n + 1) cap) (n + 1) (xs.take (i * 6) ++ (news ++ xs.drop (i * 6))) ∧ w.grownBy w' none := by
  obtain ⟨i0, hi, hz0, hz1, hz2⟩ := info_parts info48
  have hcap : n ≤ c := by
    rcases hown.2 with ⟨h2, h3⟩ | ⟨g', cap', cur, e1, e2, e3, e4, _⟩
    · cases h2
    · cases e1; exact e4
  have hcn' : c = n := by omega
  subst hcn'
  have b1 : ((i : Int) == (c : Int)) = false := by rw [beq_eq_false_iff_ne]; omega
  have b2 : (i : Int) < (c : Int) := by omega
  have hol : (xs.take (i * 6)).length = i * 6 := by have := hown.1; simp; omega
  have hoc : ∀ j u, (xs.take (i * 6))[j]? = some u → w.cell? ((⟨g, 0, none⟩ : Addr).add j) = some u := by
    intro j u hj
    have hj' : j < i * 6 := by
      rcases Nat.lt_or_ge j (i * 6) with h | h
      · exact h
      · rw [List.getElem?_eq_none (by omega)] at hj; cases hj
    rw [Go.WideShapes.add_plain, Nat.zero_add, hown.cellAt j (by omega)]
    rw [List.getElem?_take, if_pos hj'] at hj
    exact hj
  go_enter Yba.func20, Yba.ntmps20
  have hVc : ∀ (w1 : World), w.grownBy w1 none → ∀ j u, news[j]? = some u → w1.cell? ((⟨V, 0, none⟩ : Addr).add j) = some u := by
    intro w1 hg j u hj
    have := hc j u hj
    rw [Go.WideShapes.add_plain] at this ⊢
    rw [grown_cell hg V _ hV (by simp)]
    exact this
  have HVc : Hid _ := hVc
  clear hVc
  go_wp2_with (at_builtin; refine wpList_append_zeros rfl (.tmp 34) (.tmp 39) 26 3 rfl 48 i0 _ 6 48 .i64 .i64 Yba.underlying26 Yba.underlying3 hi hz0 hz1 hz2 rfl (by decide) ⟨g, 0, none⟩ i c (c + 1 - i) (c + 1) (by omega) _ (xs.take (i * 6)) rfl rfl (by omega) hol hoc (by omega) (by omega) (by unfold maxLen; omega) (by omega) ?_; intro cap' cur w1 hca hcm hcur hcs hct hgr hsz)
  obtain ⟨w2, hcp, hrow2, hgr2⟩ := copied (P := Yba.prog) w1 26 26 3 48 i0 6 1 w.heap.size (i * 6) (c + 1 - i) (cap' - i) ⟨V, 0, none⟩ 1 1 cur 48 news Yba.underlying26 hi hz1 hcur (by show 1 = min 1 (c + 1 - i); omega) hl (HVc.out w1 hgr) (by omega) h1
  have Hrow2 : Hid _ := hrow2
  clear hrow2
  rw [hcp]
  go_simp
  go_wp2
  have hyc : ∀ j u, (xs.drop (i * 6))[j]? = some u → w2.cell? ((⟨g, i * 6, none⟩ : Addr).add j) = some u := by
    intro j u hj
    have hgl : g < w.heap.size := (hown.lt _ rfl).2
    have hj' : i * 6 + j < c * 6 := by
      rcases Nat.lt_or_ge (i * 6 + j) (c * 6) with h | h
      · exact h
      · rw [List.getElem?_drop, List.getElem?_eq_none (by have := hown.1; omega)] at hj; cases hj
    rw [Go.WideShapes.add_plain, grown_cell hgr2 g _ (by omega) (by simp; exact Nat.ne_of_lt hgl), grown_cell hgr g _ hgl (by simp), hown.cellAt _ hj']
    rw [List.getElem?_drop] at hj
    exact hj
  have hyl : (xs.drop (i * 6)).length = (c - i) * 6 := by have := hown.1; simp; omega
  have hy1 : ∀ u ∈ xs.drop (i * 6), u.oneCell' = true := fun u hu => h2 u (List.mem_of_mem_drop hu)
  have HY : Hid _ := hyc
  clear hyc
  obtain ⟨i1, hi1⟩ : ∃ i1 : Nat, i1 = i + 1 := ⟨_, rfl⟩
  have hwi : IntKind.wrap .i64 ((i : Int) + 1) = (i1 : Int) := by rw [wrap_i64 _ (by omega) (by omega)]; omega
  have hb3 : (i1 : Int) ≤ (c : Int) + 1 := by omega
  have hb4 : ¬ cap' = i1 := by omega
  have hb5 : (i : Int) ≤ (c : Int) := by omega
  have hb6 : ¬ c = i := by omega
  have HI : Hid (i1 = i + 1) := hi1
  clear hi1
  have hoff : i1 * 6 = i * 6 + news.length := by have := HI.out; omega
  have hmm : c - i = Nat.min (c - i) (c + 1 - i1) := by have := HI.out; show c - i = min _ _; omega
  have hfit : i * 6 + news.length + (xs.drop (i * 6)).length ≤ (cur.toList.take (i * 6) ++ news ++ cur.toList.drop (i * 6 + news.length)).toArray.size := by simp only [List.size_toArray, List.length_append, List.length_take, List.length_drop, Array.length_toList] at hyl ⊢; omega
  have HM : Hid _ := hmm
  have HO : Hid _ := hoff
  have HF : Hid _ := hfit
  clear hmm hoff hfit
  go_region_held3 (fun _ => True) (trivial) ((refine step_copied rfl (.tmp 50) (.tmp 53) 26 26 rfl 48 i0 6 (c - i) Yba.underlying26 hi hz1 w.heap.size (i * 6 + news.length) (i1 * 6) (c + 1 - i1) (cap' - i1) ⟨g, i * 6, none⟩ (c - i) (c - i) rfl HO.out rfl _ 48 (by exact Hrow2.out) (xs.drop (i * 6)) HM.out hyl (by exact HY.out) HF.out hy1 ?_; intro w3 hrow3 hgr3))
  all_goals
    go_wp2
    go_ret
    have hct' := hct
    have hlx := hown.1
    have hfit2 : i * 6 + news.length + (xs.drop (i * 6)).length ≤ cur.toList.length := by have : cur.toList.length = cur.size := Array.length_toList; omega
    refine ⟨w.heap.size, cap', rfl, ⟨?_, .inr ⟨w.heap.size, cap', _, rfl, hbase, hrow3.out, by omega, hcm, ?_, ?_⟩⟩, ?_⟩
    · simp; omega
    · rw [List.size_toArray, ins_new_len _ _ _ _ hfit2, Array.length_toList]; exact hcs
    · have e := ins_new cur.toList news (xs.drop (i * 6)) (i * 6) hfit2
      have e2 : (c + 1) * 6 = i * 6 + news.length + (xs.drop (i * 6)).length := by rw [hyl]; omega
      rw [e2]
      refine Eq.trans e ?_
      rw [hct', List.append_assoc]
    · exact ⟨(hgr3.os.trans hgr2.os).trans hgr.os, (hgr3.tape.trans hgr2.tape).trans hgr.tape, (hgr3.output.trans hgr2.output).trans hgr.output, Nat.le_trans hgr.size (Nat.le_trans hgr2.size hgr3.size), fun k hk _ =>
        ((hgr3.block k (Nat.lt_of_lt_of_le hk (Nat.le_trans hgr.size hgr2.size)) (by simp; omega)).trans (hgr2.block k (Nat.lt_of_lt_of_le hk hgr.size) (by simp; omega))).trans (hgr.block k hk (by simp))⟩
theorem name32 : (Yba.f32.name == "runtime.NumGoroutine") = false := by kernel_rfl
theorem body32 : Yba.f32.body.isNone = true := by kernel_rfl
theorem next32 : Extern.findNext Yba.f32 = none := by kernel_rfl
theorem find32 : Extern.find Yba.f32 = some (Extern.SlicesOverlaps.overlaps #[26, 26] #[4]) := by kernel_rfl
theorem size48 (w : World) : (Go.sizeOf 48).run Yba.prog w = .ok 6 w := by
  obtain ⟨i0, hi, hz0, hz1, hz2⟩ := info_parts info48
  simp [Go.sizeOf, typeInfo, hi, hz1]
theorem overlaps32 (w : World) (V g o la ca lb cb : Nat) (vs cur : Array Value) (hV : w.heap[V]? = some (.cells vs 48 (0, 0))) (hg : w.heap[g]? = some (.cells cur 48 (0, 0))) (hne : V ≠ g) (h0 : cur.size ≠ 0) :
    (callFunc 32 #[.slice (some ⟨V, 0, none⟩) la ca, .slice (some ⟨g, o, none⟩) lb cb]).run Yba.prog w = .ok (.value (.bool false)) w := by
  rw [run_callFunc_extern Yba.func32 name32 body32 next32 find32]
  rw [Lib.run_overlaps_apart w 26 4 48 Yba.underlying26 6 size48 ⟨V, 0, none⟩ ⟨g, o, none⟩ la ca lb cb hne 48 48 vs.size cur.size (by simp [World.shape?, hV]) (by simp [World.shape?, hg]) h0 (by simp [World.frozen?, hV]) (by simp [World.frozen?, hV])]
  rfl

set_option maxRecDepth 100000 in
set_option maxHeartbeats 400000 in
/-- slices.Insert(s, i, x), i inside, with room. -/
theorem insert_room (base V n i g c : Nat) (xs news : List Value) (w : World) (hn : n ≤ 6) (hin : i < n) (hcn : n + 1 ≤ c) (hown : w.ownsRow base 48 6 (.slice (some ⟨g, 0, none⟩) n c) n xs) (hbase : base ≤ w.heap.size)
    (hl : news.length = 6) (hV : w.heap[V]? = some (.cells news.toArray 48 (0, 0))) (hVg : V ≠ g) (h1 : ∀ u ∈ news, u.oneCell' = true) (h2 : ∀ u ∈ xs, u.oneCell' = true) :
    Calls Yba.prog 20 #[.slice (some ⟨g, 0, none⟩) n c, .int .i64 (i : Int), .slice (some ⟨V, 0, none⟩) 1 1] w fun e w' => e = .returned (.slice (some ⟨g, 0, none⟩) (n + 1) c) ∧ w'.ownsRow base 48 6 (.slice (some ⟨g, 0, none⟩) (n + 1) c) (n + 1) (xs.take (i * 6) ++ (news ++ xs.drop (i * 6))) ∧ w.grownBy w' (some g) := by
  obtain ⟨i0, hi, hz0, hz1, hz2⟩ := info_parts info48
  obtain ⟨cur, hcur, hcm, hcs, hct, hbg⟩ : ∃ cur, w.heap[g]? = some (.cells cur 48 (0, 0)) ∧ c ≤ maxLen ∧ cur.size = c * 6 ∧ cur.toList.take (n * 6) = xs ∧ base ≤ g := by
    rcases hown.2 with ⟨h2, h3⟩ | ⟨g', cap', cur, e1, e2, e3, e4, e5, e6, e7⟩
    · cases h2
    · cases e1; exact ⟨cur, e3, e5, e6, e7, e2⟩
  have hxl := hown.1
  have hcl : cur.toList.length = cur.size := Array.length_toList
  have hyl : (xs.drop (i * 6)).length = (n - i) * 6 := by simp; omega
  have hov := fun o la ca lb cb => overlaps32 w V g o la ca lb cb news.toArray cur hV hcur hVg (by omega)
  have b1 : ((i : Int) == (n : Int)) = false := by rw [beq_eq_false_iff_ne]; omega
  have b2 : (i : Int) < (n : Int) := by omega
  go_enter Yba.func20, Yba.ntmps20
  go_wp2
  obtain ⟨i1, hi1⟩ : ∃ i1 : Nat, i1 = i + 1 := ⟨_, rfl⟩
  have hwi : IntKind.wrap .i64 ((i : Int) + 1) = (i1 : Int) := by rw [wrap_i64 _ (by omega) (by omega)]; omega
  have hb3 : (i1 : Int) ≤ (n : Int) + 1 := by omega
  have hb4 : ¬ c = i1 := by omega
  have hb5 : (i : Int) ≤ (n : Int) + 1 := by omega
  have hb6 : ¬ c = i := by omega
  have HI : Hid (i1 = i + 1) := hi1
  have hyc : ∀ j u, (xs.drop (i * 6))[j]? = some u → w.cell? ((⟨g, i * 6, none⟩ : Addr).add j) = some u := by
    intro j u hj
    have hj' : i * 6 + j < n * 6 := by
      rcases Nat.lt_or_ge (i * 6 + j) (n * 6) with h | h
      · exact h
      · rw [List.getElem?_drop, List.getElem?_eq_none (by omega)] at hj; cases hj
    rw [Go.WideShapes.add_plain, hown.cellAt _ hj']
    rw [List.getElem?_drop] at hj
    exact hj
  have hy1 : ∀ u ∈ xs.drop (i * 6), u.oneCell' = true := fun u hu => h2 u (List.mem_of_mem_drop hu)
  have HY : Hid _ := hyc
  have HO : Hid (i1 * 6 = i * 6 + news.length) := by show _ = _; omega
  have HM : Hid (n - i = Nat.min (n + 1 - i) (n + 1 - i1)) := by show n - i = min _ _; omega
  have HF : Hid (i * 6 + news.length + (xs.drop (i * 6)).length ≤ cur.size) := by show _ ≤ _; omega
  have hfit2 : i * 6 + news.length + (xs.drop (i * 6)).length ≤ cur.toList.length := by omega
  have HC : Hid _ := hcur
  clear hi1 hyc
  go_region_held3 (fun _ => True) (trivial) ((refine step_copied rfl (.tmp 73) (.tmp 76) 26 26 rfl 48 i0 6 (n - i) Yba.underlying26 hi hz1 g (i * 6 + news.length) (i1 * 6) (n + 1 - i1) (c - i1) ⟨g, i * 6, none⟩ (n + 1 - i) (c - i) rfl HO.out rfl cur 48 (by exact HC.out) (xs.drop (i * 6)) HM.out hyl (by exact HY.out) HF.out hy1 ?_; intro w3 hrow3 hgr3))
  have hgl : g < w.heap.size := (hown.lt _ rfl).2
  have hVl : V < w.heap.size := (Array.getElem?_eq_some_iff.1 hV).1
  have hVc : ∀ j u, news[j]? = some u → w3.cell? ((⟨V, 0, none⟩ : Addr).add j) = some u := by
    intro j u hj
    rw [Go.WideShapes.add_plain, grown_cell hgr3 V _ hVl (by simpa using hVg)]
    show w.cell? _ = _
    simp [World.cell?, hV, hj]
  have hsz3 : i * 6 + news.length ≤ (cur.toList.take (i * 6 + news.length) ++ xs.drop (i * 6) ++ cur.toList.drop (i * 6 + news.length + (xs.drop (i * 6)).length)).toArray.size := by
    simp only [List.size_toArray, List.length_append, List.length_take]; omega
  obtain ⟨w4, hcp, hrow4, hgr4⟩ := copied (P := Yba.prog) w3 26 26 3 48 i0 6 1 g (i * 6) (n + 1 - i) (c - i) ⟨V, 0, none⟩ 1 1 _ 48 news Yba.underlying26 hi hz1 hrow3.out (by show 1 = min 1 (n + 1 - i); omega) hl hVc hsz3 h1
  have Hrow4 : Hid _ := hrow4
  clear hrow4 hVc hsz3
  go_wp2
  go_ret
  refine ⟨rfl, ⟨?_, .inr ⟨g, c, _, rfl, hbg, Hrow4.out, hcn, hcm, ?_, ?_⟩⟩, ?_⟩
  · simp; omega
  · rw [List.size_toArray, ins_old_len _ _ _ _ hfit2, hcl]; exact hcs
  · have e := ins_old cur.toList news (xs.drop (i * 6)) (i * 6) hfit2
    have e2 : (n + 1) * 6 = i * 6 + news.length + (xs.drop (i * 6)).length := by rw [hyl]; omega
    have e3 : cur.toList.take (i * 6) = xs.take (i * 6) := by
      rw [← hct, List.take_take]; congr 1; omega
    rw [e2]
    refine Eq.trans e ?_
    rw [e3, List.append_assoc]
  · exact ⟨hgr4.os.trans hgr3.os, hgr4.tape.trans hgr3.tape, hgr4.output.trans hgr3.output, Nat.le_trans hgr3.size hgr4.size, fun k hk hk' =>
      (hgr4.block k (Nat.lt_of_lt_of_le hk hgr3.size) hk').trans (hgr3.block k hk hk')⟩
end Go.Proofs.Ybulkawyi
