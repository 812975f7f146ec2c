import Derived.Test.YbulkawyiRows
import Derived.Test.YbulkawyiPlL
import Derived.WalkKit
import Derived.ProofKit
import Derived.OpenShut
import Derived.ShutString
import Derived.ChangeOld
import Derived.Deep.Slices
import Derived.Below
namespace Go.Proofs.Ybulkawyi.lawS2413APlace
open Go.ChangeShapes Go.WideShapes Go.ChangeAt Go.RowKit
set_option linter.unusedVariables false

theorem own : ownKnob Yba.prog.godebug = none := by kernel_rfl
theorem laidOut : laidOutB Yba.prog = true := by kernel_rfl
theorem cells25 : Yba.prog.cellsOf 25 = 8 := by kernel_rfl
theorem cells128 : Yba.prog.cellsOf 128 = 6 := by kernel_rfl
theorem cells5 : Yba.prog.cellsOf 5 = 1 := by kernel_rfl
theorem cells23 : Yba.prog.cellsOf 23 = 1 := by kernel_rfl
theorem cells4 : Yba.prog.cellsOf 4 = 1 := by kernel_rfl

theorem len8 {α : Type} {l : List α} (h : l.length = 8) : ∃ a b c d e f g i, l = [a, b, c, d, e, f, g, i] := by
  refine ⟨l[0], l[1], l[2], l[3], l[4], l[5], l[6], l[7], ?_⟩
  apply List.ext_getElem
  · simpa using h
  · intro i h1 h2
    rcases i with _ | _ | _ | _ | _ | _ | _ | _ | i
    all_goals first | rfl | (simp at h2; omega)

/-- The eight cells of one message, read. -/
theorem open25 {H : Type} {enc : TypeId × Value → H} {w : World} {base : Nat} {spare : Nat → Bool} {held : Bool} {n : Nat} {cs : List Value} {x : DataW H × List MemPlace}
    (h : DataW.trod enc Yba.prog w base spare held n 25 cs = some x) :
    ∃ (l f lp fp : Int) (ls fs : Bool) (h s : Int), cs = [.int .u8 l, .int .u8 f, .int .i8 lp, .int .i8 fp, .bool ls, .bool fs, .int .i8 h, .int .u8 s] ∧
      ((0 ≤ l ∧ l ≤ 255) ∧ (0 ≤ f ∧ f ≤ 255) ∧ (-128 ≤ lp ∧ lp ≤ 127) ∧ (-128 ≤ fp ∧ fp ≤ 127) ∧ (-128 ≤ h ∧ h ≤ 127) ∧ (0 ≤ s ∧ s ≤ 255)) := by
  obtain ⟨xs, k, hk, hxy, hcl, hxl, hf⟩ := DataW.trod_struct Yba.underlying25 h
  rw [cells25] at hcl
  obtain ⟨v0, v1, v2, v3, v4, v5, v6, v7, rfl⟩ := len8 hcl
  obtain ⟨y0, y1, y2, y3, y4, y5, y6, y7, rfl⟩ := len8 hxl
  ·
    have g0 := hf 0 _ rfl
    have g1 := hf 1 _ rfl
    have g2 := hf 2 _ rfl
    have g3 := hf 3 _ rfl
    have g4 := hf 4 _ rfl
    have g5 := hf 5 _ rfl
    have g6 := hf 6 _ rfl
    have g7 := hf 7 _ rfl
    simp [cells5, cells23, cells4] at g0 g1 g2 g3 g4 g5 g6 g7
    obtain ⟨l, e0, _, b0⟩ := DataW.trod_int Yba.underlying5 g0
    obtain ⟨f, e1, _, b1⟩ := DataW.trod_int Yba.underlying5 g1
    obtain ⟨lp, e2, _, b2⟩ := DataW.trod_int Yba.underlying23 g2
    obtain ⟨fp, e3, _, b3⟩ := DataW.trod_int Yba.underlying23 g3
    obtain ⟨ls, e4, _⟩ := DataW.trod_bool Yba.underlying4 g4
    obtain ⟨fs, e5, _⟩ := DataW.trod_bool Yba.underlying4 g5
    obtain ⟨hp, e6, _, b6⟩ := DataW.trod_int Yba.underlying23 g6
    obtain ⟨s, e7, _, b7⟩ := DataW.trod_int Yba.underlying5 g7
    cases e0; cases e1; cases e2; cases e3; cases e4; cases e5; cases e6; cases e7
    exact ⟨l, f, lp, fp, ls, fs, hp, s, rfl, Go.bounds_u8 b0, Go.bounds_u8 b1, Go.bounds_i8 b2, Go.bounds_i8 b3, Go.bounds_i8 b6, Go.bounds_u8 b7⟩

theorem len6 {α : Type} {l : List α} (h : l.length = 6) : ∃ a b c d e f, l = [a, b, c, d, e, f] := by
  refine ⟨l[0], l[1], l[2], l[3], l[4], l[5], ?_⟩
  apply List.ext_getElem
  · simpa using h
  · intro i h1 h2
    rcases i with _ | _ | _ | _ | _ | _ | i
    all_goals first | rfl | (simp at h2; omega)

/-- The six cells of one entry, read. -/
theorem open128 {H : Type} {enc : TypeId × Value → H} {w : World} {base : Nat} {spare : Nat → Bool} {held : Bool} {n : Nat} {cs : List Value} {x : DataW H × List MemPlace}
    (h : DataW.trod enc Yba.prog w base spare held n 128 cs = some x) :
    ∃ (id p : Int) (st : Bool) (h s nm : Int), cs = [.int .u8 id, .int .i8 p, .bool st, .int .u8 h, .int .u8 s, .int .u8 nm] ∧
      ((0 ≤ id ∧ id ≤ 255) ∧ (-128 ≤ p ∧ p ≤ 127) ∧ (0 ≤ h ∧ h ≤ 255) ∧ (0 ≤ s ∧ s ≤ 255) ∧ (0 ≤ nm ∧ nm ≤ 255)) := by
  obtain ⟨xs, k, hk, hxy, hcl, hxl, hf⟩ := DataW.trod_struct Yba.underlying128 h
  rw [cells128] at hcl
  obtain ⟨v0, v1, v2, v3, v4, v5, rfl⟩ := len6 hcl
  obtain ⟨y0, y1, y2, y3, y4, y5, rfl⟩ := len6 hxl
  have g0 := hf 0 _ rfl
  have g1 := hf 1 _ rfl
  have g2 := hf 2 _ rfl
  have g3 := hf 3 _ rfl
  have g4 := hf 4 _ rfl
  have g5 := hf 5 _ rfl
  simp [cells5, cells23, cells4] at g0 g1 g2 g3 g4 g5
  obtain ⟨id, e0, _, b0⟩ := DataW.trod_int Yba.underlying5 g0
  obtain ⟨p, e1, _, b1⟩ := DataW.trod_int Yba.underlying23 g1
  obtain ⟨st, e2, _⟩ := DataW.trod_bool Yba.underlying4 g2
  obtain ⟨hp, e3, _, b3⟩ := DataW.trod_int Yba.underlying5 g3
  obtain ⟨s, e4, _, b4⟩ := DataW.trod_int Yba.underlying5 g4
  obtain ⟨nm, e5, _, b5⟩ := DataW.trod_int Yba.underlying5 g5
  cases e0; cases e1; cases e2; cases e3; cases e4; cases e5
  exact ⟨id, p, st, hp, s, nm, rfl, Go.bounds_u8 b0, Go.bounds_i8 b1, Go.bounds_u8 b3, Go.bounds_u8 b4, Go.bounds_u8 b5⟩

/-- The same, in memory. -/
theorem entAt_of {H : Type} {enc : TypeId × Value → H} {w : World} {spare : Nat → Bool} {held : Bool} {n b o : Nat} {cs : List Value} {x : DataW H × List MemPlace}
    (h1 : w.cells? 0 ⟨b, o, none⟩ 6 = some cs) (h : DataW.trod enc Yba.prog w 0 spare held n 128 cs = some x) :
    b < w.heap.size ∧ ∃ id p st h s nm, EntAt w b o id p st h s nm := by
  obtain ⟨id, p, st, hp, s, nm, rfl, r⟩ := open128 h
  obtain ⟨_, _, hc⟩ := World.cells?_some h1
  have c : ∀ j, j < 6 → w.cell? ⟨b, o + j, none⟩ = ([.int .u8 id, .int .i8 p, .bool st, .int .u8 hp, .int .u8 s, .int .u8 nm] : List Value)[j]? := fun j hj => by rw [← add_plain]; exact hc j hj
  refine ⟨?_, id, p, st, hp, s, nm, c 0 (by omega), c 1 (by omega), c 2 (by omega), c 3 (by omega), c 4 (by omega), c 5 (by omega), r⟩
  have : w.cell? ⟨b, o, none⟩ = some (.int .u8 id) := c 0 (by omega)
  rcases Nat.lt_or_ge b w.heap.size with h | h
  · exact h
  · rw [World.cell?, Array.getElem?_eq_none h] at this; cases this

/-- What the walk is told of the slice that came in. -/
def IsRow (w : World) (a : Option Addr) (len : Nat) : Prop :=
  len = 0 ∨ ∃ b off, a = some ⟨b, off, none⟩ ∧ b < w.heap.size ∧ ∀ k, k < len → ∃ id p st h s nm, EntAt w b (off + k * 6) id p st h s nm

theorem walk (a0 : Option Addr) (len0 cap0 : Nat) (l f lp fp : Int) (ls fs : Bool) (h s : Int) (w : World) (hr : (0 ≤ l ∧ l ≤ 255) ∧ (0 ≤ f ∧ f ≤ 255) ∧ (-128 ≤ lp ∧ lp ≤ 127) ∧ (-128 ≤ fp ∧ fp ≤ 127) ∧ (-128 ≤ h ∧ h ≤ 127) ∧ (0 ≤ s ∧ s ≤ 255)) (w0 : IsRow w a0 len0) :
    Calls Yba.prog 3 #[.slice a0 len0 cap0, msgIn l f lp fp ls fs h s] w fun e w' => e = .returned (.bool true) ∧ Below w.heap.size w w' := by
  rcases w0 with rfl | ⟨b, off, rfl, hb, hk⟩
  · exact place_walk 0 0 0 cap0 a0 l f lp fp ls fs h s w hr (fun k hk => by omega)
  · exact place_walk b off len0 cap0 _ l f lp fp ls fs h s w hr (fun k hk' => ⟨rfl, hb, hk k hk'⟩)

set_option maxRecDepth 100000 in
theorem lifted (os : Os) (started : os.Started) (H : Type) (enc : TypeId × Value → H) :
    ReturnsInHanded {} Yba.checked os 3 .any (Rows.lawS2413APlaceSpec.pre6 enc Yba.prog Yba.f3 Rows.lawS2413APlaceRow.domain false) (Rows.lawS2413APlaceSpec.post enc Yba.prog Yba.f3 false true false false) := by
  refine returnsInHanded_of_change (C := Yba.checked) own started (by kernel_rfl) Yba.func3
    (ChangeSpec.witness6 (enc := enc) (C := Yba.checked) false ⟨#[], #[.slice none 0 0, .agg #[.int .u8 0, .int .u8 0, .int .i8 0, .int .i8 0, .bool false, .bool false, .int .i8 0, .int .u8 0]], []⟩ 8 (by kernel_rfl) (by kernel_rfl) (by kernel_rfl) (by kernel_rfl)) ?_
  intro W base args ds gs before hval0 hW hcnd _
  have hval : ∀ (j : Nat) t v, Yba.f3.params[j]? = some t → args[j]? = some v → Value.okWide Yba.prog W .any base t v := hval0
  have hW' := hW
  obtain ⟨p, q, hA0, hV, rfl, hfz, hnd⟩ := hW
  have hA : DataW.TrodAll enc Yba.prog W 0 (fun _ => true) true Yba.f3.params.toList args.toList ds p := hA0
  rw [Yba.params3] at hA hval
  obtain ⟨v0, vs0, d0, ds0, p0, q0, hargs, rfl, rfl, h0, r0⟩ := trodAll_cons hA
  obtain ⟨v1, vs1, d1, ds1, p1, q1, rfl, rfl, rfl, h1, r1⟩ := trodAll_cons r0
  obtain ⟨rfl, rfl, rfl⟩ := trodAll_nil r1
  obtain rfl : args = #[v0, v1] := by cases args; simp_all
  obtain ⟨rfl, rfl⟩ := trodVars_none hV
  obtain ⟨a0, len0, cap0, rfl⟩ := okWide_slice Yba.underlying22 (hval 0 22 v0 rfl rfl)
  have k0 := h0
  have lt0 : ∀ x ∈ p0, x.block < W.heap.size := by obtain ⟨m, hm⟩ := k0; exact DataW.trod_lt m _ _ _ hm
  have w0 : IsRow W a0 len0 := by
    obtain ⟨fuel, hf⟩ := h0
    rcases Go.Deep.open_slice Yba.underlying22 hf with ⟨hcs, _⟩ | ⟨x, l, c, m, n, D, Pl, hcs, _, hl, hm, hmm, _, hx⟩
    · simp [Value.cells] at hcs
      exact .inl hcs.2.1
    · simp [Value.cells] at hcs
      obtain ⟨rfl, rfl, rfl⟩ := hcs
      by_cases hz : len0 = 0
      · exact .inl hz
      · rw [cells128] at hx
        have hlm : len0 ≤ m := by rw [hmm]; split <;> omega
        obtain ⟨b, off, spot⟩ := x
        have hspot : spot = none := by
          obtain ⟨cs', g1, g2⟩ := hx 0 (by omega)
          obtain ⟨_, hlen', hc⟩ := World.cells?_some g1
          have := hc 0 (by omega)
          rw [List.getElem?_eq_getElem (by omega)] at this
          simpa [Addr.add] using World.cell?_spot this
        subst hspot
        have each : ∀ k, k < len0 → b < W.heap.size ∧ ∃ id p st h s nm, EntAt W b (off + k * 6) id p st h s nm := by
          intro k hk
          obtain ⟨cs', g1, g2⟩ := hx k (by omega)
          rw [add_plain] at g1
          exact entAt_of g1 g2
        exact .inr ⟨b, off, rfl, (each 0 (by omega)).1, fun k hk => (each k hk).2⟩
  obtain ⟨cs1, rfl, hcs1⟩ := okWide_struct Yba.underlying25 (hval 1 25 v1 rfl rfl)
  have k1 := h1
  have lt1 : ∀ x ∈ p1, x.block < W.heap.size := by obtain ⟨m, hm⟩ := k1; exact DataW.trod_lt m _ _ _ hm
  obtain ⟨l, f, lp, fp, ls, fs, h, s, hce, hr⟩ : ∃ (l f lp fp : Int) (ls fs : Bool) (h s : Int), Value.agg cs1 = msgIn l f lp fp ls fs h s ∧ ((0 ≤ l ∧ l ≤ 255) ∧ (0 ≤ f ∧ f ≤ 255) ∧ (-128 ≤ lp ∧ lp ≤ 127) ∧ (-128 ≤ fp ∧ fp ≤ 127) ∧ (-128 ≤ h ∧ h ≤ 127) ∧ (0 ≤ s ∧ s ≤ 255)) := by
    obtain ⟨fuel, hf⟩ := h1
    obtain ⟨l, f, lp, fp, ls, fs, h, s, hcs, r⟩ := open25 hf
    refine ⟨l, f, lp, fp, ls, fs, h, s, ?_, r⟩
    unfold msgIn
    congr 1
    apply Array.toList_inj.1
    exact hcs
  clear hA0 hval0
  have hwk := walk a0 len0 cap0 l f lp fp ls fs h s W hr w0
  rw [← hce] at hwk
  refine hwk.mono fun e W' ⟨he, bel⟩ => ?_
  subst he
  exact ⟨_, rfl, _, _, _, [], _, [], hW', trodAll_mk1 (shut_bool Yba.underlying4 _), (trodAll_cons_mk (Below.trod laidOut (by kernel_rfl) (of_decide_eq_true (by kernel_rfl)) k0 bel lt0) (trodAll_cons_mk (Below.trod laidOut (by kernel_rfl) (of_decide_eq_true (by kernel_rfl)) k1 bel lt1) trodAll_mk0)), rfl, bel.frame _, fun h => by cases h⟩

theorem over : Rows.lawS2413APlaceRow.holds Yba.pinned (OpenSpec.ofChange Rows.lawS2413APlaceSpec) :=
  OpenClaim.holds_of_wide 3 Yba.f3 rfl rfl rfl rfl rfl rfl rfl ⟨rfl, rfl, rfl, rfl, rfl⟩ rfl rfl rfl rfl rfl (by kernel_rfl) Yba.func3 (by kernel_rfl)
    (of_decide_eq_true (by kernel_rfl)) (by unfold Func.isWrapper; first | (rw [if_pos (by decide +kernel)]; kernel_rfl) | (rw [if_neg (by decide +kernel)]; exact ⟨rfl, rfl⟩))
    (fun os started H enc _ => lifted os started H enc)

theorem proved : Rows.LawS2413APlaceSaid := over
#print axioms proved
end Go.Proofs.Ybulkawyi.lawS2413APlace
