import Derived.Test.YbulkawzkFmtRefA
namespace Go.Proofs.YbulkawzkFmt
open Go.RowKit Go.Extern.Stop Go.Stop Go.Extern
set_option linter.unusedVariables false

theorem flat2_set : ∀ (E : List Sg) (k : Nat) (e : Sg), k < E.length → ((flat2 E).set (k * 2) (.int .i64 e.who)).set (k * 2 + 1) (.slice e.ad e.len e.cap) = flat2 (E.set k e)
  | [], k, e, h => by simp at h
  | x :: E, 0, e, h => by simp [flat2, Sg.cells]
  | x :: E, k + 1, e, h => by
    have ih := flat2_set E k e (by simpa using h)
    have e1 : flat2 (x :: E) = .int .i64 x.who :: .slice x.ad x.len x.cap :: flat2 E := by simp [flat2, Sg.cells]
    have e2 : flat2 (x :: E.set k e) = .int .i64 x.who :: .slice x.ad x.len x.cap :: flat2 (E.set k e) := by simp [flat2, Sg.cells]
    rw [List.set_cons_succ, e1, e2, show (k + 1) * 2 = k * 2 + 1 + 1 by omega, List.set_cons_succ, List.set_cons_succ, List.set_cons_succ, List.set_cons_succ, ih]
theorem flat2_length (E : List Sg) : (flat2 E).length = E.length * 2 := by
  induction E with
  | nil => rfl
  | cons x E ih => simp [flat2, Sg.cells] at ih ⊢; omega

set_option maxRecDepth 100000 in
set_option maxHeartbeats 4000000 in
theorem reg23 (base X b off ns cs k g : Nat) (z : Int) (E : List Sg) (wr : World) (hk : k < ns) (hns : ns ≤ 256) (hX : X < base) (hb : b < base) (hbase : base ≤ wr.heap.size) (hE : E.length = ns)
    (c1 : wr.cell? ⟨X, 1, none⟩ = some (.slice (some ⟨b, off, none⟩) ns cs)) (cz : wr.cell? ⟨b, off + k, none⟩ = some (.int .i64 z)) (hown : wr.ownsRow base 31 2 (.slice (some ⟨g, 0, none⟩) ns ns) ns (flat2 E)) (u0 u2 u3 u4 u6 u7 u8 u9 u11 u12 u13 u14 u15 u16 u17 u18 u19 u20 u21 u22 u23 u24 u25 u26 u27 u28 u29 u30 u31 u32 u33 u34 u35 u36 u37 u38 u39 u40 u41 u42 u43 u44 u45 u46 u47 u48 u49 u50 u51 u52 u53 u54 u55 u56 u57 u58 u59 u60 u61 u62 u63 u64 u65 u66 u67 u68 u69 u70 u71 u72 u73 u74 u75 u76 u77 u78 u79 u80 u81 u82 u83 u84 u85 u86 u87 u88 u89 u90 u91 u92 u93 u94 u95 u96 u97 u98 u99 u100 u101 u102 u103 u104 u105 u106 u107 u108 u109 u110 u111 u112 u113 u114 u115 u116 u117 u118 u119 u120 u121 u122 u123 u124 u125 u126 u127 : Value) :
    Code.wp Ybaf.prog (insideOf (firstOf (secondOf (onceOf (insideOf (secondOf (firstOf (secondOf (elseOf (secondOf (firstOf (secondOf (secondOf (secondOf (secondOf (secondOf (secondOf (secondOf (Ybaf.f4.body.getD .skip))))))))))))))))))) (fun e a' w' => e = .normal ∧ ∃ E' : List Sg, (E'.length = ns ∧ w'.ownsRow base 31 2 (.slice (some ⟨g, 0, none⟩) ns ns) ns (flat2 E') ∧ Below base wr w') ∧ ∃ v85 v86 v87 v88 v89 v90 v91 v92 v93 v94 v95, a' = { tmps := #[u0, .pointer (some ⟨X, 0, none⟩), u2, u3, u4, .slice (some ⟨g, 0, none⟩) ns ns, u6, u7, u8, u9, .int .i64 k, u11, u12, u13, u14, u15, u16, u17, u18, u19, u20, u21, u22, u23, u24, u25, u26, u27, u28, u29, u30, u31, u32, u33, u34, u35, u36, u37, u38, u39, u40, u41, u42, u43, u44, u45, u46, u47, u48, u49, u50, u51, u52, u53, u54, u55, u56, u57, u58, u59, u60, u61, u62, u63, u64, u65, u66, u67, u68, u69, u70, u71, u72, u73, u74, u75, u76, u77, u78, u79, u80, u81, u82, u83, u84, v85, v86, v87, v88, v89, v90, v91, v92, v93, v94, v95, u96, u97, u98, u99, u100, u101, u102, u103, u104, u105, u106, u107, u108, u109, u110, u111, u112, u113, u114, u115, u116, u117, u118, u119, u120, u121, u122, u123, u124, u125, u126, u127], defers := [] }) { tmps := #[u0, .pointer (some ⟨X, 0, none⟩), u2, u3, u4, .slice (some ⟨g, 0, none⟩) ns ns, u6, u7, u8, u9, .int .i64 k, u11, u12, u13, u14, u15, u16, u17, u18, u19, u20, u21, u22, u23, u24, u25, u26, u27, u28, u29, u30, u31, u32, u33, u34, u35, u36, u37, u38, u39, u40, u41, u42, u43, u44, u45, u46, u47, u48, u49, u50, u51, u52, u53, u54, u55, u56, u57, u58, u59, u60, u61, u62, u63, u64, u65, u66, u67, u68, u69, u70, u71, u72, u73, u74, u75, u76, u77, u78, u79, u80, u81, u82, u83, u84, u85, u86, u87, u88, u89, u90, u91, u92, u93, u94, u95, u96, u97, u98, u99, u100, u101, u102, u103, u104, u105, u106, u107, u108, u109, u110, u111, u112, u113, u114, u115, u116, u117, u118, u119, u120, u121, u122, u123, u124, u125, u126, u127], defers := [] } wr := by
  have hk' : (k : Int) < (ns : Int) := by omega
  have HSIG : Hid _ := fun w => sig_calls 3 k w
  have HKEEP : Hid (∀ (q : Nat) (w2 : World), Below wr.heap.size (wr.drewN q) w2 → Hid (∀ e : Sg, e.who = z → (((w2.setCell ⟨g, k * 2, none⟩ (.int .i64 z)).setCell ⟨g, k * 2 + 1, none⟩ (.slice e.ad e.len e.cap)).ownsRow base 31 2 (.slice (some ⟨g, 0, none⟩) ns ns) ns (flat2 (E.set k e)) ∧ Below base wr ((w2.setCell ⟨g, k * 2, none⟩ (.int .i64 z)).setCell ⟨g, k * 2 + 1, none⟩ (.slice e.ad e.len e.cap)) ∧ ((w2.setCell ⟨g, k * 2, none⟩ (.int .i64 z)).setCell ⟨g, k * 2 + 1, none⟩ (.slice e.ad e.len e.cap)).cell? ⟨X, 1, none⟩ = some (.slice (some ⟨b, off, none⟩) ns cs) ∧ ((w2.setCell ⟨g, k * 2, none⟩ (.int .i64 z)).setCell ⟨g, k * 2 + 1, none⟩ (.slice e.ad e.len e.cap)).cell? ⟨b, off + k, none⟩ = some (.int .i64 z))) ∧ (w2.cell? ⟨X, 1, none⟩ = some (.slice (some ⟨b, off, none⟩) ns cs) ∧ w2.cell? ⟨b, off + k, none⟩ = some (.int .i64 z)) ∧ (∃ v, w2.cell? ⟨g, k * 2, none⟩ = some v) ∧ (∃ v, w2.cell? ⟨g, k * 2 + 1, none⟩ = some v) ∧ ∀ o', w2.frozen? ⟨g, o', none⟩ = false) := by
    intro q w2 hb2
    have hbb : Below base wr w2 := ⟨hb2.os, hb2.tape, hb2.output, hb2.size, fun x hx => hb2.block x (by show x < wr.heap.size; omega)⟩
    have hgl := World.ownsRow.lt hown g rfl
    have ho2 : w2.ownsRow base 31 2 (.slice (some ⟨g, 0, none⟩) ns ns) ns (flat2 E) := own_any hown (fun g' hg' => by cases hg'; exact hb2.block g hgl.2)
    have hfl := flat2_length E
    have hba : ∀ e : Sg, Below base wr ((w2.setCell ⟨g, k * 2, none⟩ (.int .i64 z)).setCell ⟨g, k * 2 + 1, none⟩ (.slice e.ad e.len e.cap)) := fun e => hbb.trans ⟨rfl, rfl, rfl, by simp, fun y hy => (Below.heap_setCell _ _ _ _ (by simp; omega)).trans (Below.heap_setCell _ _ _ _ (by simp; omega))⟩
    refine ⟨fun e he => ⟨?_, hba e, ((hba e).cell (p := ⟨X, 1, none⟩) hX).trans c1, ((hba e).cell (p := ⟨b, off + k, none⟩) hb).trans cz⟩, ⟨(hbb.cell (p := ⟨X, 1, none⟩) hX).trans c1, (hbb.cell (p := ⟨b, off + k, none⟩) hb).trans cz⟩, ⟨_, (ho2.cellAt (k * 2) (by omega)).trans (List.getElem?_eq_getElem (by omega))⟩, ⟨_, (ho2.cellAt (k * 2 + 1) (by omega)).trans (List.getElem?_eq_getElem (by omega))⟩, fun o' => ho2.frozenAt o'⟩
    · have h1 := (ho2.stored (k * 2) (.int .i64 z)).1
      have h2 := (h1.stored (k * 2 + 1) (.slice e.ad e.len e.cap)).1
      rw [← he, flat2_set E k e (by omega)] at h2
      rw [← he]
      exact h2
  clear hown
  obtain ⟨T, hT⟩ : ∃ T, T = (insideOf (firstOf (secondOf (onceOf (insideOf (secondOf (firstOf (secondOf (elseOf (secondOf (firstOf (secondOf (secondOf (secondOf (secondOf (secondOf (secondOf (secondOf (Ybaf.f4.body.getD .skip))))))))))))))))))) := ⟨_, rfl⟩
  rw [← hT]
  dsimp only [Ybaf.f4, Option.getD, secondOf, firstOf, insideOf, onceOf, thenOf, elseOf] at hT
  subst hT
  dsimp only
  go_region_held3 (fun w' => w'.cell? ⟨X, 1, none⟩ = some (.slice (some ⟨b, off, none⟩) ns cs) ∧ w'.cell? ⟨b, off + k, none⟩ = some (.int .i64 z)) (first | exact ⟨c1, cz⟩ | assumption | exact (HB3.out ⟨z, some ⟨wr.heap.size, 0, none⟩, 64, 64⟩ rfl).2.2)
    ((go_at_call 5; refine Calls.mono (HSIG.out _) ?_; rintro e w2 ⟨rfl, hso, hb2⟩; clear hso; have hS2 := HKEEP.out 1 w2 hb2; clear hb2; have HB3 := hS2.1; have hS3 := hS2.2.1; obtain ⟨y0, hy0⟩ := hS2.2.2.1; obtain ⟨y1, hy1⟩ := hS2.2.2.2.1; have hfz := hS2.2.2.2.2; clear hS2; try dsimp only))
  all_goals
    have hfin := HB3.out ⟨z, some ⟨wr.heap.size, 0, none⟩, 64, 64⟩ rfl
    exact ⟨rfl, _, ⟨by rw [List.length_set, hE], hfin.1, hfin.2.1⟩, _, _, _, _, _, _, _, _, _, _, _, rfl⟩

end Go.Proofs.YbulkawzkFmt
