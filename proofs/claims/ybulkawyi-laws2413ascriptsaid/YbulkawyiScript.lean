import Derived.Test.YbulkawyiRows
import Derived.Test.YbulkawyiScriptA
import Derived.WalkKit
import Derived.ProofKit
import Derived.OpenShut
import Derived.ShutString
import Derived.ChangeOld
import Derived.Deep.Slices
import Derived.Below
namespace Go.Proofs.Ybulkawyi.lawS2413AScript
open Go.ChangeShapes Go.WideShapes Go.ChangeAt Go.RowKit
set_option linter.unusedVariables false

theorem own : ownKnob Yba.prog.godebug = none := by kernel_rfl
theorem laidOut : laidOutB Yba.prog = true := by kernel_rfl
theorem cells25 : Yba.prog.cellsOf 25 = 8 := by kernel_rfl
theorem cells5 : Yba.prog.cellsOf 5 = 1 := by kernel_rfl
theorem cells23 : Yba.prog.cellsOf 23 = 1 := by kernel_rfl
theorem cells4 : Yba.prog.cellsOf 4 = 1 := by kernel_rfl

theorem len8 {α : Type} {l : List α} (h : l.length = 8) : ∃ a b c d e f g i, l = [a, b, c, d, e, f, g, i] := by
  refine ⟨l[0], l[1], l[2], l[3], l[4], l[5], l[6], l[7], ?_⟩
  apply List.ext_getElem
  · simpa using h
  · intro i h1 h2
    rcases i with _ | _ | _ | _ | _ | _ | _ | _ | i
    all_goals first | rfl | (simp at h2; omega)

/-- The eight cells of one message, read. -/
theorem open25 {H : Type} {enc : TypeId × Value → H} {w : World} {base : Nat} {spare : Nat → Bool} {held : Bool} {n : Nat} {cs : List Value} {x : DataW H × List MemPlace}
    (h : DataW.trod enc Yba.prog w base spare held n 25 cs = some x) :
    ∃ (l f lp fp : Int) (ls fs : Bool) (h s : Int), cs = [.int .u8 l, .int .u8 f, .int .i8 lp, .int .i8 fp, .bool ls, .bool fs, .int .i8 h, .int .u8 s] ∧
      ((0 ≤ l ∧ l ≤ 255) ∧ (0 ≤ f ∧ f ≤ 255) ∧ (-128 ≤ lp ∧ lp ≤ 127) ∧ (-128 ≤ fp ∧ fp ≤ 127) ∧ (-128 ≤ h ∧ h ≤ 127) ∧ (0 ≤ s ∧ s ≤ 255)) := by
  obtain ⟨xs, k, hk, hxy, hcl, hxl, hf⟩ := DataW.trod_struct Yba.underlying25 h
  rw [cells25] at hcl
  obtain ⟨v0, v1, v2, v3, v4, v5, v6, v7, rfl⟩ := len8 hcl
  obtain ⟨y0, y1, y2, y3, y4, y5, y6, y7, rfl⟩ := len8 hxl
  ·
    have g0 := hf 0 _ rfl
    have g1 := hf 1 _ rfl
    have g2 := hf 2 _ rfl
    have g3 := hf 3 _ rfl
    have g4 := hf 4 _ rfl
    have g5 := hf 5 _ rfl
    have g6 := hf 6 _ rfl
    have g7 := hf 7 _ rfl
    simp [cells5, cells23, cells4] at g0 g1 g2 g3 g4 g5 g6 g7
    obtain ⟨l, e0, _, b0⟩ := DataW.trod_int Yba.underlying5 g0
    obtain ⟨f, e1, _, b1⟩ := DataW.trod_int Yba.underlying5 g1
    obtain ⟨lp, e2, _, b2⟩ := DataW.trod_int Yba.underlying23 g2
    obtain ⟨fp, e3, _, b3⟩ := DataW.trod_int Yba.underlying23 g3
    obtain ⟨ls, e4, _⟩ := DataW.trod_bool Yba.underlying4 g4
    obtain ⟨fs, e5, _⟩ := DataW.trod_bool Yba.underlying4 g5
    obtain ⟨hp, e6, _, b6⟩ := DataW.trod_int Yba.underlying23 g6
    obtain ⟨s, e7, _, b7⟩ := DataW.trod_int Yba.underlying5 g7
    cases e0; cases e1; cases e2; cases e3; cases e4; cases e5; cases e6; cases e7
    exact ⟨l, f, lp, fp, ls, fs, hp, s, rfl, Go.bounds_u8 b0, Go.bounds_u8 b1, Go.bounds_i8 b2, Go.bounds_i8 b3, Go.bounds_i8 b6, Go.bounds_u8 b7⟩

/-- The same, in memory. -/
theorem inAt_of {H : Type} {enc : TypeId × Value → H} {w : World} {spare : Nat → Bool} {held : Bool} {n b o : Nat} {cs : List Value} {x : DataW H × List MemPlace}
    (h1 : w.cells? 0 ⟨b, o, none⟩ 8 = some cs) (h : DataW.trod enc Yba.prog w 0 spare held n 25 cs = some x) :
    b < w.heap.size ∧ ∃ l f lp fp ls fs h s, InAt w b o l f lp fp ls fs h s := by
  obtain ⟨l, f, lp, fp, ls, fs, hp, s, rfl, r⟩ := open25 h
  obtain ⟨_, _, hc⟩ := World.cells?_some h1
  have c : ∀ j, j < 8 → w.cell? ⟨b, o + j, none⟩ = ([.int .u8 l, .int .u8 f, .int .i8 lp, .int .i8 fp, .bool ls, .bool fs, .int .i8 hp, .int .u8 s] : List Value)[j]? := fun j hj => by rw [← add_plain]; exact hc j hj
  refine ⟨?_, l, f, lp, fp, ls, fs, hp, s, c 0 (by omega), c 1 (by omega), c 2 (by omega), c 3 (by omega), c 4 (by omega), c 5 (by omega), c 6 (by omega), c 7 (by omega), r⟩
  have : w.cell? ⟨b, o, none⟩ = some (.int .u8 l) := c 0 (by omega)
  rcases Nat.lt_or_ge b w.heap.size with h | h
  · exact h
  · rw [World.cell?, Array.getElem?_eq_none h] at this; cases this

/-- What the walk is told of the slice that came in. -/
def IsScript (w : World) (a : Option Addr) (len : Nat) : Prop :=
  len = 0 ∨ ∃ b off, a = some ⟨b, off, none⟩ ∧ b < w.heap.size ∧ ∀ k, k < len → ∃ l f lp fp ls fs h s, InAt w b (off + k * 8) l f lp fp ls fs h s

set_option maxRecDepth 100000 in
theorem walk (a0 : Option Addr) (len0 cap0 : Nat) (w : World) (w0 : IsScript w a0 len0) :
    Calls Yba.prog 4 #[.slice a0 len0 cap0] w fun e w' => e = .returned (.bool true) ∧ Below w.heap.size w w' := by
  by_cases hlen : len0 ≤ 1024
  · rcases w0 with rfl | ⟨b, off, rfl, hb, hk⟩
    · exact script_walk 0 0 0 cap0 a0 w hlen (fun k hk => by omega)
    · exact script_walk b off len0 cap0 _ w hlen (fun k hk' => ⟨rfl, hb, hk k hk'⟩)
  · have hl : (1024 : Int) < (len0 : Int) := by omega
    go_enter Yba.func4, Yba.ntmps4
    go_wp2
    go_ret
    exact ⟨rfl, Below.refl _ _⟩

set_option maxRecDepth 100000 in
theorem lifted (os : Os) (started : os.Started) (H : Type) (enc : TypeId × Value → H) :
    ReturnsInHanded {} Yba.checked os 4 .any (Rows.lawS2413AScriptSpec.pre6 enc Yba.prog Yba.f4 Rows.lawS2413AScriptRow.domain false) (Rows.lawS2413AScriptSpec.post enc Yba.prog Yba.f4 false true false false) := by
  refine returnsInHanded_of_change (C := Yba.checked) own started (by kernel_rfl) Yba.func4
    (ChangeSpec.witness6 (enc := enc) (C := Yba.checked) false ⟨#[], #[.slice none 0 0], []⟩ 8 (by kernel_rfl) (by kernel_rfl) (by kernel_rfl) (by kernel_rfl)) ?_
  intro W base args ds gs before hval0 hW hcnd _
  have hval : ∀ (j : Nat) t v, Yba.f4.params[j]? = some t → args[j]? = some v → Value.okWide Yba.prog W .any base t v := hval0
  have hW' := hW
  obtain ⟨p, q, hA0, hV, rfl, hfz, hnd⟩ := hW
  have hA : DataW.TrodAll enc Yba.prog W 0 (fun _ => true) true Yba.f4.params.toList args.toList ds p := hA0
  rw [Yba.params4] at hA hval
  obtain ⟨v0, vs0, d0, ds0, p0, q0, hargs, rfl, rfl, h0, r0⟩ := trodAll_cons hA
  obtain ⟨rfl, rfl, rfl⟩ := trodAll_nil r0
  obtain rfl : args = #[v0] := by cases args; simp_all
  obtain ⟨rfl, rfl⟩ := trodVars_none hV
  obtain ⟨a0, len0, cap0, rfl⟩ := okWide_slice Yba.underlying53 (hval 0 53 v0 rfl rfl)
  have k0 := h0
  have lt0 : ∀ x ∈ p0, x.block < W.heap.size := by obtain ⟨m, hm⟩ := k0; exact DataW.trod_lt m _ _ _ hm
  have w0 : IsScript W a0 len0 := by
    obtain ⟨fuel, hf⟩ := h0
    rcases Go.Deep.open_slice Yba.underlying53 hf with ⟨hcs, _⟩ | ⟨x, l, c, m, n, D, Pl, hcs, _, hl, hm, hmm, _, hx⟩
    · simp [Value.cells] at hcs
      exact .inl hcs.2.1
    · simp [Value.cells] at hcs
      obtain ⟨rfl, rfl, rfl⟩ := hcs
      by_cases hz : len0 = 0
      · exact .inl hz
      · rw [cells25] at hx
        have hlm : len0 ≤ m := by rw [hmm]; split <;> omega
        obtain ⟨b, off, spot⟩ := x
        have hspot : spot = none := by
          obtain ⟨cs', g1, g2⟩ := hx 0 (by omega)
          obtain ⟨_, hlen', hc⟩ := World.cells?_some g1
          have := hc 0 (by omega)
          rw [List.getElem?_eq_getElem (by omega)] at this
          simpa [Addr.add] using World.cell?_spot this
        subst hspot
        have each : ∀ k, k < len0 → b < W.heap.size ∧ ∃ l f lp fp ls fs h s, InAt W b (off + k * 8) l f lp fp ls fs h s := by
          intro k hk
          obtain ⟨cs', g1, g2⟩ := hx k (by omega)
          rw [add_plain] at g1
          exact inAt_of g1 g2
        exact .inr ⟨b, off, rfl, (each 0 (by omega)).1, fun k hk => (each k hk).2⟩
  clear hA0 hval0
  refine (walk a0 len0 cap0 W w0).mono fun e W' ⟨he, bel⟩ => ?_
  subst he
  exact ⟨_, rfl, _, _, _, [], _, [], hW', trodAll_mk1 (shut_bool Yba.underlying4 _), (trodAll_cons_mk (Below.trod laidOut (by kernel_rfl) (of_decide_eq_true (by kernel_rfl)) k0 bel lt0) trodAll_mk0), rfl, bel.frame _, fun h => by cases h⟩

theorem over : Rows.lawS2413AScriptRow.holds Yba.pinned (OpenSpec.ofChange Rows.lawS2413AScriptSpec) :=
  OpenClaim.holds_of_wide 4 Yba.f4 rfl rfl rfl rfl rfl rfl rfl ⟨rfl, rfl, rfl, rfl, rfl⟩ rfl rfl rfl rfl rfl (by kernel_rfl) Yba.func4 (by kernel_rfl)
    (of_decide_eq_true (by kernel_rfl)) (by unfold Func.isWrapper; first | (rw [if_pos (by decide +kernel)]; kernel_rfl) | (rw [if_neg (by decide +kernel)]; exact ⟨rfl, rfl⟩))
    (fun os started H enc _ => lifted os started H enc)

theorem proved : Rows.LawS2413AScriptSaid := over
#print axioms proved
end Go.Proofs.Ybulkawyi.lawS2413AScript
