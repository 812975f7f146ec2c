import Derived.Test.YbulkaxdeLoop
import Derived.WalkKit
import Derived.ProofKit
import Derived.OpenShut
import Derived.ShutString
namespace Go.Proofs.Ybulkaxde.lawS2422CFill
open Go.Conc Go.ChangeShapes Go.WideShapes Go.ChangeAt Go.RowKit
open Go.ChangeMaps (open_string shut_string)
set_option linter.unusedVariables false      -- a walk need not use every 'w<i>' (that an integer argument fits its kind)

theorem own : ownKnob Yba.prog.godebug = none := by kernel_rfl

theorem bytes23 : ∃ i, Yba.prog.info? 23 = some i ∧ i.bytes = 0 := by
  have h : (Yba.prog.info? 23).map (·.bytes) = some 0 := by kernel_rfl
  obtain ⟨i, hi, hb⟩ := Option.map_eq_some_iff.1 h
  exact ⟨i, hi, hb⟩
theorem mk (n : Nat) (hn : n < 256) (w : World) : (Instr.makeChan 22 (.int .i64 n)).run Yba.prog w = .ok (.chan (some w.heap.size)) (w.alloc (.chan n #[] false 0 0 false)) := by
  obtain ⟨i, hi, hb⟩ := bytes23
  simpa using run_makeChan (P := Yba.prog) (w := w) Yba.underlying22 hi .i64 n (by omega) (by rw [hb]; omega)

set_option maxRecDepth 100000 in
set_option maxHeartbeats 4000000 in
theorem walk (a0 : Int) (a1 : Int) (a2 : Int) (w0 : (Lit.int .u8 a0).wf = true) (w1 : (Lit.int .u8 a1).wf = true) (w2 : (Lit.int .u8 a2).wf = true) (w : World) :
    Calls Yba.prog 3 #[.int .u8 a0, .int .u8 a1, .int .u8 a2] w fun e w' => e = .returned (.bool true) ∧ Below w.heap.size w w' := by
  obtain ⟨C, rfl, hC⟩ : ∃ C : Nat, a0 = C ∧ C < 256 := ⟨a0.toNat, by simp [Lit.wf, IntKind.min, IntKind.max, IntKind.bits, IntKind.signed] at w0; omega, by simp [Lit.wf, IntKind.min, IntKind.max, IntKind.bits, IntKind.signed] at w0; omega⟩
  obtain ⟨r, rfl, hr⟩ : ∃ C : Nat, a1 = C ∧ C < 256 := ⟨a1.toNat, by simp [Lit.wf, IntKind.min, IntKind.max, IntKind.bits, IntKind.signed] at w1; omega, by simp [Lit.wf, IntKind.min, IntKind.max, IntKind.bits, IntKind.signed] at w1; omega⟩
  obtain ⟨t, rfl, ht⟩ : ∃ C : Nat, a2 = C ∧ C < 256 := ⟨a2.toNat, by simp [Lit.wf, IntKind.min, IntKind.max, IntKind.bits, IntKind.signed] at w2; omega, by simp [Lit.wf, IntKind.min, IntKind.max, IntKind.bits, IntKind.signed] at w2; omega⟩
  clear w0 w1 w2
  obtain ⟨p, hp⟩ : ∃ p, p = r % (C + 1) := ⟨_, rfl⟩
  have hpC : p ≤ C := by have := Nat.mod_lt r (show 0 < C + 1 by omega); omega
  refine calls_of_loneTo fun cs => ?_
  have e : Frame.enter Yba.prog 3 #[.int .u8 C, .int .u8 r, .int .u8 t] .normal = (base 3).at ⟨#[.int .u8 C, .int .u8 r, .int .u8 t, undef, undef, undef, undef, undef, undef, undef, undef, undef, undef, undef, undef, undef, undef, undef, undef, undef, undef, undef, undef, undef, undef, undef, undef, undef, undef, undef, undef, undef, undef, undef, undef, undef, undef, undef, undef, undef, undef, undef, undef, undef, undef, undef, undef, undef, undef, undef, undef, undef, undef, undef, undef, undef, undef, undef, undef, undef, undef, undef, undef, undef, undef, undef, undef, undef, undef, undef, undef, undef, undef, undef, undef, undef, undef, undef, undef], []⟩ [.code (Yba.f3.body.getD .skip)] := by
    simp [Frame.enter, Frame.at, Yba.func3, base, Yba.f3]
  rw [e]
  have hmk := mk C hC
  have hw1 : IntKind.i64.wrap (C : Int) = C := by rw [IntKind.wrap_i64]; omega
  have hw2 : IntKind.i64.wrap (r : Int) = r := by rw [IntKind.wrap_i64]; omega
  have hw3 : IntKind.i64.wrap (t : Int) = t := by rw [IntKind.wrap_i64]; omega
  have hw4 : IntKind.i64.wrap ((C : Int) + 1) = (C : Int) + 1 := by rw [IntKind.wrap_i64]; omega
  have hw5 : IntKind.i64.wrap (p : Int) = p := by rw [IntKind.wrap_i64]; omega
  have hrem : Int.tmod (r : Int) ((C : Int) + 1) = p := by rw [Int.tmod_eq_emod_of_nonneg (by omega), hp]; simp
  clear hp
  have hz : ((C : Int) + 1 == 0) = false := by rw [beq_eq_false_iff_ne]; omega
  have hz2 : ¬ ((C : Int) + 1 = 0) := by omega
  refine LoneTo.goes (n := 38) ?_
  dsimp only [Yba.f3, Option.getD, secondOf, firstOf, onceOf, insideOf]
  s_c stepG_seq
  s_reg
  s_op
  s_c stepG_region_end
  s_c stepG_seq
  s_reg
  s_op
  s_op
  s_op
  s_c stepG_region_end
  s_c stepG_seq
  s_reg
  s_op
  s_op
  s_op
  s_op
  s_op
  s_op
  s_c stepG_region_end
  s_c stepG_seq
  s_reg
  s_op
  s_op
  s_op
  s_c stepG_region_end
  s_c stepG_seq
  s_reg
  s_op
  s_op
  s_op
  s_c stepG_region_end
  s_c stepG_seq
  s_c stepG_seq
  s_reg
  s_op
  s_c stepG_region_end
  s_c stepG_block
  s_c stepG_loop
  s_stop
  exact fill_loop C p t w.heap.size w cs hC hpC ht rfl p 0 0 (by omega) #[] _ ((Below.refl _ w).alloc (Nat.le_refl _) _) (heap_alloc_new _ _) rfl _ _ _ _ _ _ _ _ _ _ _ _ _ _ _ _ _ _ _ _ _ _ _ _ _ _ _ _ _ _ _ _ _ _ _ _ _ _ _ _ _ _ _ _ _ _ _ _ _ _ _ _ _ _ _ _ _ _ _ _ _ _ _ _ _ _ _ _ _ _ _ _ _ _
/-! ### THE ROW's STEP: WRITTEN OUT: LEAVE IT -/
set_option maxRecDepth 100000 in
theorem lifted (os : Os) (started : os.Started) (H : Type) (enc : TypeId × Value → H) :
    ReturnsInHanded {} Yba.checked os 3 .any (Rows.lawS2422CFillSpec.pre6 enc Yba.prog Yba.f3 Rows.lawS2422CFillRow.domain false) (Rows.lawS2422CFillSpec.post enc Yba.prog Yba.f3 false true false false) := by
  refine returnsInHanded_of_change (C := Yba.checked) own started (by kernel_rfl) Yba.func3
    (ChangeSpec.witness6 (enc := enc) (C := Yba.checked) false ⟨#[], #[.int .u8 0, .int .u8 0, .int .u8 0], []⟩ 8 (by kernel_rfl) (by kernel_rfl) (by kernel_rfl) (by kernel_rfl)) ?_
  intro W base args ds gs before hval0 hW hcnd _
  have hval : ∀ (j : Nat) t v, Yba.f3.params[j]? = some t → args[j]? = some v → Value.okWide Yba.prog W .any base t v := hval0
  have hW' := hW
  obtain ⟨p, q, hA0, hV, rfl, hfz, hnd⟩ := hW
  have hA : DataW.TrodAll enc Yba.prog W 0 (fun _ => true) true Yba.f3.params.toList args.toList ds p := hA0
  rw [Yba.params3] at hA hval
  obtain ⟨v0, vs0, d0, ds0, p0, q0, hargs, rfl, rfl, h0, r0⟩ := trodAll_cons hA
  obtain ⟨v1, vs1, d1, ds1, p1, q1, rfl, rfl, rfl, h1, r1⟩ := trodAll_cons r0
  obtain ⟨v2, vs2, d2, ds2, p2, q2, rfl, rfl, rfl, h2, r2⟩ := trodAll_cons r1
  obtain ⟨rfl, rfl, rfl⟩ := trodAll_nil r2
  obtain rfl : args = #[v0, v1, v2] := by cases args; simp_all
  obtain ⟨rfl, rfl⟩ := trodVars_none hV
  obtain ⟨a0, rfl, rfl, rfl, w0⟩ := open_int Yba.underlying5 (hval 0 5 v0 rfl rfl) h0
  obtain ⟨a1, rfl, rfl, rfl, w1⟩ := open_int Yba.underlying5 (hval 1 5 v1 rfl rfl) h1
  obtain ⟨a2, rfl, rfl, rfl, w2⟩ := open_int Yba.underlying5 (hval 2 5 v2 rfl rfl) h2
  clear hA0 hval0
  simp only [List.append_nil] at hW'
  refine (walk a0 a1 a2 w0 w1 w2 W).mono fun e W' ⟨he, bel⟩ => ?_
  subst he
  exact ⟨_, rfl, _, _, _, [], _, [], hW', trodAll_mk1 (shut_bool Yba.underlying4 _), (trodAll_cons_mk (shut_int Yba.underlying5 w0) (trodAll_cons_mk (shut_int Yba.underlying5 w1) (trodAll_cons_mk (shut_int Yba.underlying5 w2) trodAll_mk0))), rfl, bel.frame _, fun h => by cases h⟩

theorem over : Rows.lawS2422CFillRow.holds Yba.pinned (OpenSpec.ofChange Rows.lawS2422CFillSpec) :=
  OpenClaim.holds_of_wide 3 Yba.f3 rfl rfl rfl rfl rfl rfl rfl ⟨rfl, rfl, rfl, rfl, rfl⟩ rfl rfl rfl rfl rfl (by kernel_rfl) Yba.func3 (by kernel_rfl)
    (of_decide_eq_true (by kernel_rfl)) (by unfold Func.isWrapper; first | (rw [if_pos (by decide +kernel)]; kernel_rfl) | (rw [if_neg (by decide +kernel)]; exact ⟨rfl, rfl⟩))
    (fun os started H enc _ => lifted os started H enc)

/-- ████ THE STATEMENT ████ -/
theorem proved : Rows.LawS2422CFillSaid :=
  over
#print axioms proved
end Go.Proofs.Ybulkaxde.lawS2422CFill
