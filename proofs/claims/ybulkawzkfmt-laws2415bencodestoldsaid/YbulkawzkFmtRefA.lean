import Derived.Test.YbulkawzkFmtAgg
namespace Go.Proofs.YbulkawzkFmt
open Go.RowKit Go.Extern.Stop Go.Stop Go.Extern
set_option linter.unusedVariables false

def secondOf : Code → Code
  | .seq _ b => b
  | c => c
def firstOf : Code → Code
  | .seq a _ => a
  | c => c
def insideOf : Code → Code
  | .block _ a => a
  | c => c
def onceOf : Code → Code
  | .loop a => a
  | c => c
def thenOf : Code → Code
  | .cond _ a _ => a
  | c => c
def elseOf : Code → Code
  | .cond _ _ b => b
  | c => c

theorem bdrew {B : Nat} {a w : World} (h : Below B a w) (q : Nat) : Below B a (w.drewN q) := ⟨h.os, h.tape, h.output, h.size, h.block⟩
theorem own_any {w w' : World} {base n c : Nat} {e : TypeId} {size : Nat} {a : Option Addr} {xs : List Value} (h : w.ownsRow base e size (.slice a n c) n xs) (hb : ∀ g, (Value.slice a n c).ownBlock = some g → w'.heap[g]? = w.heap[g]?) : w'.ownsRow base e size (.slice a n c) n xs := by
  refine ⟨h.1, ?_⟩
  rcases h.2 with h2 | ⟨g, cap, cur, e1, e2, e3, e4, e5, e6, e7⟩
  · exact .inl h2
  · exact .inr ⟨g, cap, cur, e1, e2, (hb g (by cases e1; rfl)).trans e3, e4, e5, e6, e7⟩
theorem step_append {P : Program} {w : World} {ops : Array Oper} {o : Oper} {a : Act} {K : Act → World → Prop} {Q : Exit → Act → World → Prop} {E : Prop} (hgd : o.guard = none) (s x : Operand) (t : TypeId)
    (ho : o.op = .call { callee := .builtin .append, args := #[s, x], argTypes := #[t, t] })
    (base : Nat) (e : TypeId) (i : TypeInfo) (z : Value) (size bytes : Nat) (ht : P.underlying t = some (.slice e)) (hi : P.info? e = some i) (hz : i.zero = some z)
    (hsize : i.size = size) (hby : i.bytes = bytes) (hzs : z.cells.size = size) (hsz : 0 < size)
    (v : Value) (n : Nat) (xs : List Value) (hs : a.eval s = v) (hown : w.ownsRow base e size v n xs)
    (ad : Addr) (m c : Nat) (news : List Value) (hx : a.eval x = .slice (some ad) m c) (hl : news.length = m * size) (hnews : ∀ j u, news[j]? = some u → w.cell? (ad.add j) = some u) (h1 : ∀ u ∈ news, u.oneCell' = true)
    (h63 : n + m ≤ maxLen) (hbytes : (n + m) * bytes ≤ 140737488355328) (hbase : base ≤ w.heap.size)
    (h : ∀ v' w', w'.ownsRow base e size v' (n + m) (xs ++ news) → w.grownBy w' v.ownBlock → K (a.put o.dst v') w') :
    if Region.wanted o (yielded ops a.tmps) = true then Oper.wp P o a w K Q else E := by
  have hw : Region.wanted o (yielded ops a.tmps) = true := by simp [Region.wanted, hgd]
  rw [if_pos hw]
  exact wp_append_own w s x t ho base e i z size bytes ht hi hz hsize hby hzs hsz v n xs hs hown ad m c news hx hl hnews h1 h63 hbytes hbase (fun v' w' h2 h3 _ => h v' w' h2 h3)
theorem Sg.cells_one (e : Sg) : ∀ u ∈ e.cells, u.oneCell' = true := by
  intro u hu
  simp [Sg.cells] at hu
  rcases hu with rfl | rfl <;> rfl
theorem flat2_append (A B : List Sg) : flat2 (A ++ B) = flat2 A ++ flat2 B := by simp [flat2]
theorem flat2_one (e : Sg) : flat2 [e] = e.cells := by simp [flat2]

set_option maxRecDepth 100000 in
set_option maxHeartbeats 4000000 in
theorem reg16 (base X b off ns cs k m c : Nat) (z : Int) (a : Option Addr) (E : List Sg) (wr : World) (hk : k < ns) (hns : ns ≤ 256) (hX : X < base) (hb : b < base) (hbase : base ≤ wr.heap.size) (hm : m ≤ 600)
    (c1 : wr.cell? ⟨X, 1, none⟩ = some (.slice (some ⟨b, off, none⟩) ns cs)) (cz : wr.cell? ⟨b, off + k, none⟩ = some (.int .i64 z)) (hown : wr.ownsRow base 31 2 (.slice a m c) m (flat2 E)) (u0 u2 u3 u4 u6 u7 u8 u10 u11 u12 u13 u14 u15 u16 u17 u18 u19 u20 u21 u22 u23 u24 u25 u26 u27 u28 u29 u30 u31 u32 u33 u34 u35 u36 u37 u38 u39 u40 u41 u42 u43 u44 u45 u46 u47 u48 u49 u50 u51 u52 u53 u54 u55 u56 u57 u58 u59 u60 u61 u62 u63 u64 u65 u66 u67 u68 u69 u70 u71 u72 u73 u74 u75 u76 u77 u78 u79 u80 u81 u82 u83 u84 u85 u86 u87 u88 u89 u90 u91 u92 u93 u94 u95 u96 u97 u98 u99 u100 u101 u102 u103 u104 u105 u106 u107 u108 u109 u110 u111 u112 u113 u114 u115 u116 u117 u118 u119 u120 u121 u122 u123 u124 u125 u126 u127 : Value) :
    Code.wp Ybaf.prog (secondOf (insideOf (firstOf (secondOf (onceOf (insideOf (secondOf (firstOf (secondOf (secondOf (thenOf (secondOf (firstOf (secondOf (secondOf (secondOf (secondOf (secondOf (secondOf (secondOf (Ybaf.f4.body.getD .skip))))))))))))))))))))) (fun e a' w' => e = .normal ∧ ∃ a2 c2 ad, (w'.ownsRow base 31 2 (.slice a2 (m + 1) c2) (m + 1) (flat2 (E ++ [⟨z, ad, 64, 64⟩])) ∧ Below base wr w') ∧ ∃ v59 v60 v61 v62 v63 v64 v65 v66 v67 v68 v69, a' = { tmps := #[u0, .pointer (some ⟨X, 0, none⟩), u2, u3, u4, .slice a2 (m + 1) c2, u6, u7, u8, .int .i64 k, u10, u11, u12, u13, u14, u15, u16, u17, u18, u19, u20, u21, u22, u23, u24, u25, u26, u27, u28, u29, u30, u31, u32, u33, u34, u35, u36, u37, u38, u39, u40, u41, u42, u43, u44, u45, u46, u47, u48, u49, u50, u51, u52, u53, u54, u55, u56, u57, u58, v59, v60, v61, v62, v63, v64, v65, v66, v67, v68, v69, u70, u71, u72, u73, u74, u75, u76, u77, u78, u79, u80, u81, u82, u83, u84, u85, u86, u87, u88, u89, u90, u91, u92, u93, u94, u95, u96, u97, u98, u99, u100, u101, u102, u103, u104, u105, u106, u107, u108, u109, u110, u111, u112, u113, u114, u115, u116, u117, u118, u119, u120, u121, u122, u123, u124, u125, u126, u127], defers := [] }) { tmps := #[u0, .pointer (some ⟨X, 0, none⟩), u2, u3, u4, .slice a m c, u6, u7, u8, .int .i64 k, u10, u11, u12, u13, u14, u15, u16, u17, u18, u19, u20, u21, u22, u23, u24, u25, u26, u27, u28, u29, u30, u31, u32, u33, u34, u35, u36, u37, u38, u39, u40, u41, u42, u43, u44, u45, u46, u47, u48, u49, u50, u51, u52, u53, u54, u55, u56, u57, u58, u59, u60, u61, u62, u63, u64, u65, u66, u67, u68, u69, u70, u71, u72, u73, u74, u75, u76, u77, u78, u79, u80, u81, u82, u83, u84, u85, u86, u87, u88, u89, u90, u91, u92, u93, u94, u95, u96, u97, u98, u99, u100, u101, u102, u103, u104, u105, u106, u107, u108, u109, u110, u111, u112, u113, u114, u115, u116, u117, u118, u119, u120, u121, u122, u123, u124, u125, u126, u127], defers := [] } wr := by
  have hk' : (k : Int) < (ns : Int) := by omega
  have HSIG : Hid _ := fun w => sig_calls 3 k w
  have HOWN : Hid _ := hown
  obtain ⟨i0, hi, hz0, hz1, hz2⟩ := parts info31
  have HKEEP : Hid (∀ (q : Nat) (w2 : World), Below wr.heap.size (wr.drewN q) w2 → Hid (Below base wr w2 ∧ wr.heap.size ≤ w2.heap.size ∧ (∀ o1, (w2.alloc o1).ownsRow base 31 2 (.slice a m c) m (flat2 E)) ∧ (∀ o1, (w2.alloc o1).cell? ⟨X, 1, none⟩ = some (.slice (some ⟨b, off, none⟩) ns cs) ∧ (w2.alloc o1).cell? ⟨b, off + k, none⟩ = some (.int .i64 z)) ∧ (∀ o1 w1, (w2.alloc o1).grownBy w1 (Value.slice a m c).ownBlock → Below base wr w1 ∧ w1.cell? ⟨X, 1, none⟩ = some (.slice (some ⟨b, off, none⟩) ns cs) ∧ w1.cell? ⟨b, off + k, none⟩ = some (.int .i64 z))) ∧ (w2.cell? ⟨X, 1, none⟩ = some (.slice (some ⟨b, off, none⟩) ns cs) ∧ w2.cell? ⟨b, off + k, none⟩ = some (.int .i64 z))) := by
    intro q w2 hb2
    have hbb : Below base wr w2 := ⟨hb2.os, hb2.tape, hb2.output, hb2.size, fun x hx => hb2.block x (by show x < wr.heap.size; omega)⟩
    have hba : ∀ o1, Below base wr (w2.alloc o1) := fun o1 => hbb.alloc (Nat.le_trans hbase hb2.size) o1
    have hsz : wr.heap.size ≤ w2.heap.size := hb2.size
    have hbg : ∀ o1 w1, (w2.alloc o1).grownBy w1 (Value.slice a m c).ownBlock → Below base wr w1 := fun o1 w1 hg => Below.grown (hba o1) hg (by simp; omega) (fun x hx => (World.ownsRow.lt hown x hx).1)
    refine ⟨⟨hbb, hb2.size, fun o1 => ?_, fun o1 => ⟨((hba o1).cell (p := ⟨X, 1, none⟩) hX).trans c1, ((hba o1).cell (p := ⟨b, off + k, none⟩) hb).trans cz⟩, fun o1 w1 hg => ⟨hbg o1 w1 hg, ((hbg o1 w1 hg).cell (p := ⟨X, 1, none⟩) hX).trans c1, ((hbg o1 w1 hg).cell (p := ⟨b, off + k, none⟩) hb).trans cz⟩⟩, (hbb.cell (p := ⟨X, 1, none⟩) hX).trans c1, (hbb.cell (p := ⟨b, off + k, none⟩) hb).trans cz⟩
    refine own_any hown (fun g hg => ?_)
    have hgl := (World.ownsRow.lt hown g hg).2
    rw [Below.heap_alloc w2 o1 g (Nat.lt_of_lt_of_le hgl hb2.size)]
    exact hb2.block g hgl
  clear hown
  obtain ⟨T, hT⟩ : ∃ T, T = (secondOf (insideOf (firstOf (secondOf (onceOf (insideOf (secondOf (firstOf (secondOf (secondOf (thenOf (secondOf (firstOf (secondOf (secondOf (secondOf (secondOf (secondOf (secondOf (secondOf (Ybaf.f4.body.getD .skip))))))))))))))))))))) := ⟨_, rfl⟩
  rw [← hT]
  dsimp only [Ybaf.f4, Option.getD, secondOf, firstOf, insideOf, onceOf, thenOf, elseOf] at hT
  subst hT
  dsimp only
  go_region_held3 (fun w' => w'.cell? ⟨X, 1, none⟩ = some (.slice (some ⟨b, off, none⟩) ns cs) ∧ w'.cell? ⟨b, off + k, none⟩ = some (.int .i64 z)) (first | exact ⟨c1, cz⟩ | assumption | exact HB3.out.2.2.2.1 _)
    (first
      | (go_at_call 5; refine Calls.mono (HSIG.out _) ?_; rintro e w2 ⟨rfl, hso, hb2⟩; clear hso; have hS2 := HKEEP.out 1 w2 hb2; clear hb2; have HB3 := hS2.1; have hS3 := hS2.2; clear hS2; try dsimp only)
      | (refine step_append rfl (.tmp 59) (.tmp 68) 28 rfl base 31 i0 _ 2 32 Ybaf.underlying28 hi hz0 hz1 hz2 rfl (by decide) _ m (flat2 E) rfl (HB3.out.2.2.1 _) ⟨w2.heap.size, 0, none⟩ 1 1 [.int .i64 z, .slice (some ⟨wr.heap.size, 0, none⟩) 64 64] rfl rfl (fun j u hj => by rw [Go.WideShapes.add_plain, Nat.zero_add]; exact (World.cell?_alloc_at _ _ _ _ rfl).trans (by simpa using hj)) (Sg.cells_one ⟨z, some ⟨wr.heap.size, 0, none⟩, 64, 64⟩) (by unfold maxLen; omega) (by omega) (by have := HB3.out.2.1; simp; omega) ?_; intro v' w1 ho hg; have hS4 := HB3.out.2.2.2.2 _ w1 hg; clear hg; have HB4 := hS4.1; have hS5 := hS4.2; clear hS4))
  all_goals
    obtain ⟨g2, cp, rfl⟩ : ∃ g2 cp, v' = .slice (some ⟨g2, 0, none⟩) (m + 1) cp := by
      rcases ho.2 with ⟨_, h0⟩ | ⟨g2, cp, cur, e1, _⟩
      · omega
      · exact ⟨g2, cp, e1⟩
    refine ⟨rfl, _, cp, some ⟨wr.heap.size, 0, none⟩, ⟨?_, HB4⟩, _, _, _, _, _, _, _, _, _, _, _, rfl⟩
    rw [flat2_append, flat2_one]
    exact ho

end Go.Proofs.YbulkawzkFmt
