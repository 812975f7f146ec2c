import Derived.Test.YbulkawzkFmtCards
import Derived.Test.YbulkawzkFmtRefF
import Derived.WalkKit
import Derived.ProofKit
import Derived.OpenShut
import Derived.ShutString
import Derived.ChangeOld
import Derived.Deep.Slices
import Derived.Below
import Derived.Stop.JoinedTold
import Derived.SevenToldRow
namespace Go.Proofs.YbulkawzkFmt.lawS2415BRefuses
open Go.ChangeShapes Go.WideShapes Go.ChangeAt Go.RowKit
open Go.Extern.Stop Go.Stop Go.Extern
set_option linter.unusedVariables false

theorem own : ownKnob Ybaf.prog.godebug = none := by kernel_rfl
theorem laidOut : laidOutB Ybaf.pinned.checked.prog = true := by kernel_rfl
theorem stops : Ybaf.pinned.checked.prog.stops = ["fmt.errorf"] := by kernel_rfl
theorem stopKnobs : Ybaf.pinned.checked.prog.stopKnobs = [] := by kernel_rfl
theorem quiet (os : Os) : Stop.quiet Ybaf.pinned.checked.prog os := by
  intro k hk
  rw [stopKnobs] at hk
  cases hk
theorem cells47 : Ybaf.prog.cellsOf 47 = 5 := by kernel_rfl
theorem cells5 : Ybaf.prog.cellsOf 5 = 1 := by kernel_rfl
theorem cells24 : Ybaf.prog.cellsOf 24 = 1 := by kernel_rfl
theorem cells45 : Ybaf.prog.cellsOf 45 = 1 := by kernel_rfl

theorem len5 {α : Type} {l : List α} (h : l.length = 5) : ∃ a b c d e, l = [a, b, c, d, e] := by
  refine ⟨l[0], l[1], l[2], l[3], l[4], ?_⟩
  apply List.ext_getElem
  · simpa using h
  · intro i h1 h2
    rcases i with _ | _ | _ | _ | _ | i
    all_goals first | rfl | (simp at h2; omega)

/-- A slice of integers, one cell, read. -/
theorem openInts {H : Type} {enc : TypeId × Value → H} {w : World} {spare : Nat → Bool} {held : Bool} {n : Nat} {v : Value} {x : DataW H × List MemPlace}
    (h : DataW.trod enc Ybaf.prog w 0 spare held n 24 [v] = some x) : ∃ a m c zs, v = .slice a m c ∧ IsRowI w a m c zs := by
  rcases open_ints Ybaf.underlying24 Ybaf.underlying3 (by kernel_rfl) h with ⟨hcs, _⟩ | ⟨x, l, c, zs, hcs, _, hl, hm, hz, _, hcell, hwz⟩
  · simp at hcs
    exact ⟨none, 0, 0, [], hcs, .inl ⟨rfl, rfl, rfl, rfl⟩⟩
  · simp at hcs
    have hls : l ≤ zs.length := by rw [hz]; split <;> omega
    have hc : ∀ j z, (zs.take l)[j]? = some z → w.cell? (x.add j) = some (.int .i64 z) := by
      intro j z hj
      rw [List.getElem?_take] at hj
      split at hj
      · have hlt : j < zs.length := by omega
        have := hcell j hlt
        rw [List.getElem?_eq_getElem hlt] at hj
        cases hj
        rw [this]
        simp [List.getD_eq_getElem?_getD, List.getElem?_eq_getElem hlt]
      · cases hj
    refine ⟨some x, l, c, zs.take l, hcs, .inr ⟨x, rfl, by rw [List.length_take]; omega, fun h0 => ?_, fun h0 => ?_, hc⟩⟩
    · have h1 := hc 0 _ (List.getElem?_eq_getElem (by rw [List.length_take]; omega))
      rcases Nat.lt_or_ge x.block w.heap.size with h | h
      · exact h
      · rw [World.cell?, add_block, Array.getElem?_eq_none h] at h1
        cases h1
    · have h1 := hc 0 _ (List.getElem?_eq_getElem (by rw [List.length_take]; omega))
      simpa [Addr.add] using World.cell?_spot h1

set_option maxRecDepth 100000 in
theorem lifted (os : Os) (started : os.Started) (H : Type) (enc : TypeId × Value → H) :
    ReturnsInTold none {} Ybaf.checked os 4 .any Input.okWide ((OpenSpec.ofChange Rows.lawS2415BRefusesSpec).preRow enc Ybaf.prog Ybaf.f4 Rows.lawS2415BRefusesRow.domain false []) (fun F => ((OpenSpec.ofChange Rows.lawS2415BRefusesSpec).at F).post enc Ybaf.prog Ybaf.f4 false true false false) (aloneAtReturn Ybaf.prog) nothingAlways := by
  refine returnsInTold_of_row (C := Ybaf.checked) (s := OpenSpec.ofChange Rows.lawS2415BRefusesSpec) (by kernel_rfl) own started (by kernel_rfl) Ybaf.func4
    (OpenSpec.witness_stopped (enc := enc) (C := Ybaf.checked) false ⟨#[], #[.agg #[.int .u8 0, .slice none 0 0, .int .u64 0, .int .u8 0, .slice none 0 0]], []⟩ 8 (by kernel_rfl) (by kernel_rfl) (by kernel_rfl) (by kernel_rfl)) ?_
  intro F W base args ds gs before _ hF hval0 hW _ _ hsz _ _
  have hval : ∀ (j : Nat) t v, Ybaf.f4.params[j]? = some t → args[j]? = some v → Value.okWide Ybaf.prog W .any base t v := hval0
  have hW' := hW
  obtain ⟨p, q, hA0, hV, rfl, hfz, hnd⟩ := hW
  have hA : DataW.TrodAll enc Ybaf.prog W 0 (fun _ => true) true Ybaf.f4.params.toList args.toList ds p := hA0
  rw [Ybaf.params4] at hA hval
  obtain ⟨v0, vs0, d0, ds0, p0, q0, hargs, rfl, rfl, h0, r0⟩ := trodAll_cons hA
  obtain ⟨rfl, rfl, rfl⟩ := trodAll_nil r0
  obtain rfl : args = #[v0] := by cases args; simp_all
  obtain ⟨rfl, rfl⟩ := trodVars_none hV
  obtain ⟨cs1, rfl, hcs1⟩ := okWide_struct Ybaf.underlying47 (hval 0 47 v0 rfl rfl)
  have k0 := h0
  have lt0 : ∀ x ∈ p0, x.block < W.heap.size := by obtain ⟨m, hm⟩ := k0; exact DataW.trod_lt m _ _ _ hm
  obtain ⟨sel, sa, ns, cs, pos, bad, am, nm, cm, zs, zm, hce, hs0, hs1, hp0, hp1, hb0, hb1, hsi, hmi⟩ : ∃ (sel : Int) (sa : Option Addr) (ns cs : Nat) (pos bad : Int) (am : Option Addr) (nm cm : Nat) (zs zm : List Int), Value.agg cs1 = .agg #[.int .u8 sel, .slice sa ns cs, .int .u64 pos, .int .u8 bad, .slice am nm cm] ∧
      0 ≤ sel ∧ sel ≤ 255 ∧ 0 ≤ pos ∧ pos < 18446744073709551616 ∧ 0 ≤ bad ∧ bad ≤ 255 ∧ IsRowI W sa ns cs zs ∧ IsRowI W am nm cm zm := by
    obtain ⟨fuel, hf⟩ := h0
    obtain ⟨xs, k, hk, hxy, hcl, hxl, hff⟩ := DataW.trod_struct Ybaf.underlying47 hf
    rw [cells47] at hcl
    obtain ⟨e0, e1, e2, e3, e4, hce⟩ := len5 hcl
    obtain ⟨y0, y1, y2, y3, y4, rfl⟩ := len5 hxl
    rw [hce] at hff
    have g0 := hff 0 _ rfl
    have g1 := hff 1 _ rfl
    have g2 := hff 2 _ rfl
    have g3 := hff 3 _ rfl
    have g4 := hff 4 _ rfl
    simp [cells5, cells24, cells45] at g0 g1 g2 g3 g4
    obtain ⟨sel, f0, _, b0⟩ := DataW.trod_int Ybaf.underlying5 g0
    obtain ⟨sa, ns, cs, zs, rfl, hsi⟩ := openInts g1
    obtain ⟨pos, f2, _, b2⟩ := DataW.trod_int Ybaf.underlying45 g2
    obtain ⟨bad, f3, _, b3⟩ := DataW.trod_int Ybaf.underlying5 g3
    obtain ⟨am, nm, cm, zm, rfl, hmi⟩ := openInts g4
    cases f0; cases f2; cases f3
    have c0 := Go.bounds_u8 b0
    have c2 := Go.bounds_u64 b2
    have c3 := Go.bounds_u8 b3
    refine ⟨sel, sa, ns, cs, pos, bad, am, nm, cm, zs, zm, ?_, c0.1, c0.2, c2.1, by have := c2.2; omega, c3.1, c3.2, hsi, hmi⟩
    congr 1
    apply Array.toList_inj.1
    exact hce
  clear hA0 hval0
  have hwk := refuses_walk F.told W hF ns cs nm cm sa am sel pos bad hs0 hs1 hp0 hp1 hb0 hb1 zs zm hsi hmi
  rw [← hce] at hwk
  refine hwk.mono fun e W' ⟨he, bel⟩ => ?_
  subst he
  exact ⟨_, rfl, _, _, _, [], _, [], hW', trodAll_mk1 (shut_bool Ybaf.underlying4 _), (trodAll_cons_mk (Below.trod laidOut (by kernel_rfl) (of_decide_eq_true (by kernel_rfl)) k0 bel lt0) trodAll_mk0), rfl, bel.frame _, fun h => by cases h⟩

theorem proved : Rows.LawS2415BRefusesToldSaid :=
  Claim7.holds_of_told_any 4 Ybaf.f4 "fmt.errorf" [] [] _ _ _ (by kernel_rfl) rfl rfl rfl laidOut (by kernel_rfl) rfl ⟨rfl, rfl, rfl, rfl, rfl, rfl, rfl⟩ rfl rfl (by kernel_rfl) (by kernel_rfl) Ybaf.func4 (by kernel_rfl)
    (of_decide_eq_true (by kernel_rfl)) (of_decide_eq_true (by kernel_rfl)) stops.symm rfl stopKnobs.symm (by kernel_rfl)
    (by kernel_rfl) (by kernel_rfl) (by kernel_rfl) (by kernel_rfl) (by kernel_rfl) (by kernel_rfl) (by kernel_rfl) (by kernel_rfl) (by kernel_rfl) rfl (by kernel_rfl) rfl rfl
    rfl rfl
    rfl (by kernel_rfl) (by kernel_rfl) (by kernel_rfl) (by decide) (by kernel_rfl)
    (OpenClaim.moreEntering_of (by kernel_rfl) (by kernel_rfl) (by kernel_rfl) (by kernel_rfl) (by kernel_rfl) (by kernel_rfl) (by kernel_rfl) (by kernel_rfl) (by kernel_rfl) (by kernel_rfl))
    ⟨_, WideRow.started_initial, quiet _⟩
    (fun os started _ H enc _ => lifted os started H enc)
#print axioms proved
end Go.Proofs.YbulkawzkFmt.lawS2415BRefuses
