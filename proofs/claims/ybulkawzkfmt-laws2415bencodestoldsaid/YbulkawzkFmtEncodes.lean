import Derived.Test.YbulkawzkFmtCards
import Derived.Test.YbulkawzkFmtEnK
import Derived.WalkKit
import Derived.ProofKit
import Derived.OpenShut
import Derived.ShutString
import Derived.ChangeOld
import Derived.Deep.Slices
import Derived.Below
import Derived.Stop.JoinedTold
import Derived.SevenToldRow
namespace Go.Proofs.YbulkawzkFmt.lawS2415BEncodes
open Go.ChangeShapes Go.WideShapes Go.ChangeAt Go.RowKit
open Go.Extern.Stop Go.Stop Go.Extern
set_option linter.unusedVariables false

theorem own : ownKnob Ybaf.prog.godebug = none := by kernel_rfl
theorem laidOut : laidOutB Ybaf.pinned.checked.prog = true := by kernel_rfl
theorem stops : Ybaf.pinned.checked.prog.stops = ["fmt.errorf"] := by kernel_rfl
theorem stopKnobs : Ybaf.pinned.checked.prog.stopKnobs = [] := by kernel_rfl
theorem quiet (os : Os) : Stop.quiet Ybaf.pinned.checked.prog os := by
  intro k hk
  rw [stopKnobs] at hk
  cases hk
theorem cells27 : Ybaf.prog.cellsOf 27 = 40 := by kernel_rfl
theorem cells3 : Ybaf.prog.cellsOf 3 = 1 := by kernel_rfl
theorem cells22 : Ybaf.prog.cellsOf 22 = 1 := by kernel_rfl
theorem cells23 : Ybaf.prog.cellsOf 23 = 32 := by kernel_rfl
theorem cells5 : Ybaf.prog.cellsOf 5 = 1 := by kernel_rfl
theorem cells24 : Ybaf.prog.cellsOf 24 = 1 := by kernel_rfl
theorem cells4 : Ybaf.prog.cellsOf 4 = 1 := by kernel_rfl
theorem cells25 : Ybaf.prog.cellsOf 25 = 1 := by kernel_rfl

theorem len9 {α : Type} {l : List α} (h : l.length = 9) : ∃ a b c d e f g i j, l = [a, b, c, d, e, f, g, i, j] := by
  refine ⟨l[0], l[1], l[2], l[3], l[4], l[5], l[6], l[7], l[8], ?_⟩
  apply List.ext_getElem
  · simpa using h
  · intro i h1 h2
    rcases i with _ | _ | _ | _ | _ | _ | _ | _ | _ | i
    all_goals first | rfl | (simp at h2; omega)
theorem one_of {α : Type} {l : List α} {k : Nat} (hk : k < l.length) : ∃ v, (l.drop k).take 1 = [v] ∧ l[k]? = some v := by
  refine ⟨l[k], ?_, List.getElem?_eq_getElem hk⟩
  rw [List.drop_eq_getElem_cons hk]
  rfl

/-- A slice of integers, one cell, read. -/
theorem openInts {H : Type} {enc : TypeId × Value → H} {w : World} {spare : Nat → Bool} {held : Bool} {n : Nat} {v : Value} {x : DataW H × List MemPlace}
    (h : DataW.trod enc Ybaf.prog w 0 spare held n 24 [v] = some x) : ∃ a m c zs, v = .slice a m c ∧ IsRowI w a m c zs := by
  rcases open_ints Ybaf.underlying24 Ybaf.underlying3 (by kernel_rfl) h with ⟨hcs, _⟩ | ⟨x, l, c, zs, hcs, _, hl, hm, hz, _, hcell, hwz⟩
  · simp at hcs
    exact ⟨none, 0, 0, [], hcs, .inl ⟨rfl, rfl, rfl, rfl⟩⟩
  · simp at hcs
    have hls : l ≤ zs.length := by rw [hz]; split <;> omega
    have hc : ∀ j z, (zs.take l)[j]? = some z → w.cell? (x.add j) = some (.int .i64 z) := by
      intro j z hj
      rw [List.getElem?_take] at hj
      split at hj
      · have hlt : j < zs.length := by omega
        have := hcell j hlt
        rw [List.getElem?_eq_getElem hlt] at hj
        cases hj
        rw [this]
        simp [List.getD_eq_getElem?_getD, List.getElem?_eq_getElem hlt]
      · cases hj
    refine ⟨some x, l, c, zs.take l, hcs, .inr ⟨x, rfl, by rw [List.length_take]; omega, fun h0 => ?_, fun h0 => ?_, hc⟩⟩
    · have h1 := hc 0 _ (List.getElem?_eq_getElem (by rw [List.length_take]; omega))
      rcases Nat.lt_or_ge x.block w.heap.size with h | h
      · exact h
      · rw [World.cell?, add_block, Array.getElem?_eq_none h] at h1
        cases h1
    · have h1 := hc 0 _ (List.getElem?_eq_getElem (by rw [List.length_take]; omega))
      simpa [Addr.add] using World.cell?_spot h1

theorem ints_of {w : World} {a : Option Addr} {n c : Nat} {zs : List Int} (h : IsRowI w a n c zs) : IntsK w.heap.size w a n zs := by
  rcases h with ⟨rfl, rfl, rfl, rfl⟩ | ⟨x, rfl, h2, h3, h5, h4⟩
  · exact ⟨rfl, fun k z hz => by simp at hz⟩
  · refine ⟨h2, fun k z hz => ?_⟩
    have hk := lt_of_get hz
    obtain ⟨b, off, sp⟩ := x
    have hsp : sp = none := h5 (by omega)
    subst hsp
    have h6 := h4 k z hz
    rw [add_plain] at h6
    exact ⟨b, off, rfl, h3 (by omega), h3 (by omega), h6⟩
/-- A slice of bytes, one cell, read. -/
theorem openBytes {H : Type} {enc : TypeId × Value → H} {w : World} {spare : Nat → Bool} {held : Bool} {n : Nat} {v : Value} {x : DataW H × List MemPlace}
    (h : DataW.trod enc Ybaf.prog w 0 spare held n 25 [v] = some x) : ∃ a m c xs, v = .slice a m c ∧ SrcK w.heap.size none w (.slice a m c) m xs ∧ AllB xs := by
  rcases open_ints Ybaf.underlying25 Ybaf.underlying5 (by kernel_rfl) h with ⟨hcs, _⟩ | ⟨x, l, c, zs, hcs, _, hl, hm, hz, _, hcell, hwz⟩
  · simp at hcs
    exact ⟨none, 0, 0, [], hcs, .inl ⟨rfl, rfl, rfl⟩, fun u hu => by cases hu⟩
  · simp at hcs
    have hls : l ≤ zs.length := by rw [hz]; split <;> omega
    have hall : AllB ((zs.take l).map (.int .u8)) := fun u hu => by
      obtain ⟨z, _, rfl⟩ := List.mem_map.1 hu
      exact ⟨z, rfl⟩
    have hc : ∀ j u, ((zs.take l).map (Value.int .u8))[j]? = some u → w.cell? (x.add j) = some u := by
      intro j u hj
      rw [List.getElem?_map] at hj
      obtain ⟨z, hz', rfl⟩ := Option.map_eq_some_iff.1 hj
      rw [List.getElem?_take] at hz'
      split at hz'
      · have hlt : j < zs.length := by omega
        have := hcell j hlt
        rw [List.getElem?_eq_getElem hlt] at hz'
        cases hz'
        rw [this]
        simp [List.getD_eq_getElem?_getD, List.getElem?_eq_getElem hlt]
      · cases hz'
    refine ⟨some x, l, c, (zs.take l).map (.int .u8), hcs, .inr ⟨x, c, rfl, by rw [List.length_map, List.length_take]; omega, fun h0 => ⟨?_, by simp⟩, hc, hall.one⟩, hall⟩
    have h1 := hc 0 _ (List.getElem?_eq_getElem (by rw [List.length_map, List.length_take]; omega))
    rcases Nat.lt_or_ge x.block w.heap.size with h | h
    · exact h
    · rw [World.cell?, add_block, Array.getElem?_eq_none h] at h1
      cases h1

set_option maxRecDepth 100000 in
theorem lifted (os : Os) (started : os.Started) (H : Type) (enc : TypeId × Value → H) :
    ReturnsInTold none {} Ybaf.checked os 3 .any Input.okWide ((OpenSpec.ofChange Rows.lawS2415BEncodesSpec).preRow enc Ybaf.prog Ybaf.f3 Rows.lawS2415BEncodesRow.domain false []) (fun F => ((OpenSpec.ofChange Rows.lawS2415BEncodesSpec).at F).post enc Ybaf.prog Ybaf.f3 false true false false) (aloneAtReturn Ybaf.prog) nothingAlways := by
  refine returnsInTold_of_row (C := Ybaf.checked) (s := OpenSpec.ofChange Rows.lawS2415BEncodesSpec) (by kernel_rfl) own started (by kernel_rfl) Ybaf.func3
    (OpenSpec.witness_stopped (enc := enc) (C := Ybaf.checked) false ⟨#[], #[.agg #[.int .i64 0, .int .i64 0, .int .u64 0, .int .u8 0, .int .u8 0, .int .u8 0, .int .u8 0, .int .u8 0, .int .u8 0, .int .u8 0, .int .u8 0, .int .u8 0, .int .u8 0, .int .u8 0, .int .u8 0, .int .u8 0, .int .u8 0, .int .u8 0, .int .u8 0, .int .u8 0, .int .u8 0, .int .u8 0, .int .u8 0, .int .u8 0, .int .u8 0, .int .u8 0, .int .u8 0, .int .u8 0, .int .u8 0, .int .u8 0, .int .u8 0, .int .u8 0, .int .u8 0, .int .u8 0, .int .u8 0, .slice none 0 0, .int .u8 0, .slice none 0 0, .bool false, .slice none 0 0]], []⟩ 8 (by kernel_rfl) (by kernel_rfl) (by kernel_rfl) (by kernel_rfl)) ?_
  intro F W base args ds gs before _ hF hval0 hW _ _ hsz _ _
  have hval : ∀ (j : Nat) t v, Ybaf.f3.params[j]? = some t → args[j]? = some v → Value.okWide Ybaf.prog W .any base t v := hval0
  have hW' := hW
  obtain ⟨p, q, hA0, hV, rfl, hfz, hnd⟩ := hW
  have hA : DataW.TrodAll enc Ybaf.prog W 0 (fun _ => true) true Ybaf.f3.params.toList args.toList ds p := hA0
  rw [Ybaf.params3] at hA hval
  obtain ⟨v0, vs0, d0, ds0, p0, q0, hargs, rfl, rfl, h0, r0⟩ := trodAll_cons hA
  obtain ⟨rfl, rfl, rfl⟩ := trodAll_nil r0
  obtain rfl : args = #[v0] := by cases args; simp_all
  obtain ⟨rfl, rfl⟩ := trodVars_none hV
  obtain ⟨cs1, rfl, hcs1⟩ := okWide_struct Ybaf.underlying27 (hval 0 27 v0 rfl rfl)
  have k0 := h0
  have lt0 : ∀ x ∈ p0, x.block < W.heap.size := by obtain ⟨m, hm⟩ := k0; exact DataW.trod_lt m _ _ _ hm
  have hwk : Calls Ybaf.prog 3 #[.agg cs1] W fun e w' => e = .returned (.bool true) ∧ Below W.heap.size W w' := by
    obtain ⟨fuel, hf⟩ := h0
    obtain ⟨xs, k, hk, hxy, hcl, hxl, hff⟩ := DataW.trod_struct Ybaf.underlying27 hf
    rw [cells27] at hcl
    have hcl' : cs1.toList.length = 40 := hcl
    obtain ⟨y0, y1, y2, y3, y4, y5, y6, y7, y8, rfl⟩ := len9 hxl
    have g0 := hff 0 _ rfl
    have g1 := hff 1 _ rfl
    have g2 := hff 2 _ rfl
    have g3 := hff 3 _ rfl
    have g4 := hff 4 _ rfl
    have g5 := hff 5 _ rfl
    have g6 := hff 6 _ rfl
    have g7 := hff 7 _ rfl
    have g8 := hff 8 _ rfl
    change DataW.trod enc Ybaf.prog W 0 _ true k 3 ((cs1.toList.drop 0).take (Ybaf.prog.cellsOf 3)) = some y0 at g0
    change DataW.trod enc Ybaf.prog W 0 _ true k 3 ((cs1.toList.drop 1).take (Ybaf.prog.cellsOf 3)) = some y1 at g1
    change DataW.trod enc Ybaf.prog W 0 _ true k 22 ((cs1.toList.drop 2).take (Ybaf.prog.cellsOf 22)) = some y2 at g2
    change DataW.trod enc Ybaf.prog W 0 _ true k 23 ((cs1.toList.drop 3).take (Ybaf.prog.cellsOf 23)) = some y3 at g3
    change DataW.trod enc Ybaf.prog W 0 _ true k 24 ((cs1.toList.drop 35).take (Ybaf.prog.cellsOf 24)) = some y4 at g4
    change DataW.trod enc Ybaf.prog W 0 _ true k 5 ((cs1.toList.drop 36).take (Ybaf.prog.cellsOf 5)) = some y5 at g5
    change DataW.trod enc Ybaf.prog W 0 _ true k 24 ((cs1.toList.drop 37).take (Ybaf.prog.cellsOf 24)) = some y6 at g6
    change DataW.trod enc Ybaf.prog W 0 _ true k 4 ((cs1.toList.drop 38).take (Ybaf.prog.cellsOf 4)) = some y7 at g7
    change DataW.trod enc Ybaf.prog W 0 _ true k 25 ((cs1.toList.drop 39).take (Ybaf.prog.cellsOf 25)) = some y8 at g8
    rw [cells3] at g0 g1
    rw [cells22] at g2
    rw [cells23] at g3
    rw [cells24] at g4 g6
    rw [cells5] at g5
    rw [cells4] at g7
    rw [cells25] at g8
    obtain ⟨v0, e0, q0⟩ := one_of (l := cs1.toList) (k := 0) (by omega)
    obtain ⟨v1, e1, q1⟩ := one_of (l := cs1.toList) (k := 1) (by omega)
    obtain ⟨v2, e2, q2⟩ := one_of (l := cs1.toList) (k := 2) (by omega)
    obtain ⟨v4, e4, q4⟩ := one_of (l := cs1.toList) (k := 35) (by omega)
    obtain ⟨v5, e5, q5⟩ := one_of (l := cs1.toList) (k := 36) (by omega)
    obtain ⟨v6, e6, q6⟩ := one_of (l := cs1.toList) (k := 37) (by omega)
    obtain ⟨v7, e7, q7⟩ := one_of (l := cs1.toList) (k := 38) (by omega)
    obtain ⟨v8, e8, q8⟩ := one_of (l := cs1.toList) (k := 39) (by omega)
    rw [e0] at g0
    rw [e1] at g1
    rw [e2] at g2
    rw [e4] at g4
    rw [e5] at g5
    rw [e6] at g6
    rw [e7] at g7
    rw [e8] at g8
    obtain ⟨rep, f0, _, b0⟩ := DataW.trod_int Ybaf.underlying3 g0
    obtain ⟨inst, f1, _, b1⟩ := DataW.trod_int Ybaf.underlying3 g1
    obtain ⟨view, f2, _, b2⟩ := DataW.trod_int Ybaf.underlying22 g2
    obtain ⟨sa, ns, cs, zs, rfl, hsi⟩ := openInts g4
    obtain ⟨seed, f5, _, b5⟩ := DataW.trod_int Ybaf.underlying5 g5
    obtain ⟨am, nm, cm, zm, rfl, hmi⟩ := openInts g6
    obtain ⟨hs, f7, _⟩ := DataW.trod_bool Ybaf.underlying4 g7
    obtain ⟨pa, np, cp, pre, rfl, hpf, hpB⟩ := openBytes g8
    cases f0; cases f1; cases f2; cases f5; cases f7
    obtain ⟨ys, k', _, _, hl3, hy3, hb3⟩ := DataW.trod_array Ybaf.underlying23 g3
    have hbl : ((cs1.toList.drop 3).take 32).length = 32 := by rw [List.length_take, List.length_drop]; omega
    have hbB : AllB ((cs1.toList.drop 3).take 32) := by
      intro u hu
      obtain ⟨i, hi⟩ := List.mem_iff_getElem?.1 hu
      have hil := lt_of_get hi
      rw [hbl] at hil
      have hx := hb3 i hil
      rw [cells5, Nat.mul_one] at hx
      obtain ⟨v, ev, qv⟩ := one_of (l := (cs1.toList.drop 3).take 32) (k := i) (by omega)
      rw [ev, List.getElem?_eq_getElem (by omega)] at hx
      rw [hi] at qv
      cases qv
      obtain ⟨z, fz, _⟩ := DataW.trod_int Ybaf.underlying5 hx
      cases fz
      exact ⟨z, rfl⟩
    have c2 := Go.bounds_u64 b2
    exact encodes_walk F.told W hF cs1 rep inst view seed hs ((cs1.toList.drop 3).take 32) sa am pa ns cs nm cm np cp zs zm pre (by simpa using q0) (by simpa using q1) (by simpa using q2)
      (fun j u hj => by
        have hjl := lt_of_get hj
        rw [hbl] at hjl
        rw [List.getElem?_take, if_pos hjl, List.getElem?_drop] at hj
        simpa using hj)
      (by simpa using q4) (by simpa using q5) (by simpa using q6) (by simpa using q7) (by simpa using q8) hpf (ints_of hsi) hmi (ints_of hmi) hbl ⟨c2.1, by have := c2.2; omega⟩ ⟨hbB, hpB⟩
  clear hA0 hval0
  refine hwk.mono fun e W' ⟨he, bel⟩ => ?_
  subst he
  exact ⟨_, rfl, _, _, _, [], _, [], hW', trodAll_mk1 (shut_bool Ybaf.underlying4 _), (trodAll_cons_mk (Below.trod laidOut (by kernel_rfl) (of_decide_eq_true (by kernel_rfl)) k0 bel lt0) trodAll_mk0), rfl, bel.frame _, fun h => by cases h⟩

theorem proved : Rows.LawS2415BEncodesToldSaid :=
  Claim7.holds_of_told_any 3 Ybaf.f3 "fmt.errorf" [] [] _ _ _ (by kernel_rfl) rfl rfl rfl laidOut (by kernel_rfl) rfl ⟨rfl, rfl, rfl, rfl, rfl, rfl, rfl⟩ rfl rfl (by kernel_rfl) (by kernel_rfl) Ybaf.func3 (by kernel_rfl)
    (of_decide_eq_true (by kernel_rfl)) (of_decide_eq_true (by kernel_rfl)) stops.symm rfl stopKnobs.symm (by kernel_rfl)
    (by kernel_rfl) (by kernel_rfl) (by kernel_rfl) (by kernel_rfl) (by kernel_rfl) (by kernel_rfl) (by kernel_rfl) (by kernel_rfl) (by kernel_rfl) rfl (by kernel_rfl) rfl rfl
    rfl rfl
    rfl (by kernel_rfl) (by kernel_rfl) (by kernel_rfl) (by decide) (by kernel_rfl)
    (OpenClaim.moreEntering_of (by kernel_rfl) (by kernel_rfl) (by kernel_rfl) (by kernel_rfl) (by kernel_rfl) (by kernel_rfl) (by kernel_rfl) (by kernel_rfl) (by kernel_rfl) (by kernel_rfl))
    ⟨_, WideRow.started_initial, quiet _⟩
    (fun os started _ H enc _ => lifted os started H enc)
#print axioms proved
end Go.Proofs.YbulkawzkFmt.lawS2415BEncodes
