import Derived.Test.YbulkawzkFmtRefB
namespace Go.Proofs.YbulkawzkFmt
open Go.RowKit Go.Extern.Stop Go.Stop Go.Extern
set_option linter.unusedVariables false

/-- A row of integers, as the walk reads it. -/
def IsI (w : World) (a : Option Addr) (n : Nat) : Prop := n = 0 ∨ ∃ b off, a = some ⟨b, off, none⟩ ∧ b < w.heap.size ∧ ∀ k, k < n → ∃ z : Int, w.cell? ⟨b, off + k, none⟩ = some (.int .i64 z)
theorem rowS_of_own {w : World} {base n c : Nat} {a : Option Addr} {E : List Sg} (h : w.ownsRow base 31 2 (.slice a n c) n (flat2 E)) (hn : E.length = n) : RowS w a n E := fun k e hk => by
  have hkl : k < E.length := by
    rcases Nat.lt_or_ge k E.length with h' | h'
    · exact h'
    · rw [List.getElem?_eq_none h'] at hk; cases hk
  have hfl := flat2_length E
  have hget : ∀ (E : List Sg) (k : Nat), E[k]? = some e → (flat2 E)[k * 2]? = some (.int .i64 e.who) ∧ (flat2 E)[k * 2 + 1]? = some (.slice e.ad e.len e.cap) := by
    intro E
    induction E with
    | nil => intro k h; simp at h
    | cons x E ih =>
      intro k h
      have e1 : flat2 (x :: E) = .int .i64 x.who :: .slice x.ad x.len x.cap :: flat2 E := by simp [flat2, Sg.cells]
      rcases k with _ | k
      · simp at h
        subst h
        rw [e1]
        exact ⟨rfl, rfl⟩
      · simp at h
        have := ih k h
        rw [e1, show (k + 1) * 2 = k * 2 + 1 + 1 by omega]
        exact this
  rcases h.2 with ⟨h2, h3⟩ | ⟨g, cp, cur, e1, _⟩
  · omega
  · cases e1
    obtain ⟨h1, h2⟩ := hget E k hk
    exact ⟨g, rfl, (World.ownsRow.lt h g rfl).2, by omega, (h.cellAt (k * 2) (by omega)).trans h1, (h.cellAt (k * 2 + 1) (by omega)).trans h2⟩

set_option maxRecDepth 100000 in
set_option maxHeartbeats 16000000 in
theorem rf8 (F : Interp) (w0 wx : World) (hF : F.answers wx.tape) (hbel : Below w0.heap.size w0 wx) (a a2 a3 : Option Addr) (n c n2 c2 n3 c3 : Nat) (E : List Sg) (hn : E.length = n) (hm : n ≤ 1000) (hr : RowS wx a n E) (hbad : (∃ e ∈ E, e.len ≠ 64) ∨ (0 < n2 ∧ n3 ≠ 64)) (u0 u1 u2 u3 u4 u8 u9 u10 u11 u12 u13 u14 u15 u16 u17 u18 u19 u20 u21 u22 u23 u24 u25 u26 u27 u28 u29 u30 u31 u32 u33 u34 u35 u36 u37 u38 u39 u40 u41 u42 u43 u44 u45 u46 u47 u48 u49 u50 u51 u52 u53 u54 u55 u56 u57 u58 u59 u60 u61 u62 u63 u64 u65 u66 u67 u68 u69 u70 u71 u72 u73 u74 u75 u76 u77 u78 u79 u80 u81 u82 u83 u84 u85 u86 u87 u88 u89 u90 u91 u92 u93 u94 u95 u96 u97 u98 u99 u100 u101 u102 u103 u104 u105 u106 u107 u108 u109 u110 u111 u112 u113 u114 u115 u116 u117 u118 u119 u120 u121 u122 u123 u124 u125 u126 u127 : Value) :
    Code.wp Ybaf.prog (secondOf (secondOf (secondOf (secondOf (secondOf (secondOf (secondOf (secondOf (Ybaf.f4.body.getD .skip))))))))) (bodyPost Ybaf.prog Ybaf.f4 fun e w' => e = .returned (.bool true) ∧ Below w0.heap.size w0 w') { tmps := #[u0, u1, u2, u3, u4, .slice a n c, .slice a2 n2 c2, .slice a3 n3 c3, u8, u9, u10, u11, u12, u13, u14, u15, u16, u17, u18, u19, u20, u21, u22, u23, u24, u25, u26, u27, u28, u29, u30, u31, u32, u33, u34, u35, u36, u37, u38, u39, u40, u41, u42, u43, u44, u45, u46, u47, u48, u49, u50, u51, u52, u53, u54, u55, u56, u57, u58, u59, u60, u61, u62, u63, u64, u65, u66, u67, u68, u69, u70, u71, u72, u73, u74, u75, u76, u77, u78, u79, u80, u81, u82, u83, u84, u85, u86, u87, u88, u89, u90, u91, u92, u93, u94, u95, u96, u97, u98, u99, u100, u101, u102, u103, u104, u105, u106, u107, u108, u109, u110, u111, u112, u113, u114, u115, u116, u117, u118, u119, u120, u121, u122, u123, u124, u125, u126, u127], defers := [] } wx := by
  obtain ⟨T, hT⟩ : ∃ T, T = (secondOf (secondOf (secondOf (secondOf (secondOf (secondOf (secondOf (secondOf (Ybaf.f4.body.getD .skip))))))))) := ⟨_, rfl⟩
  rw [← hT]
  dsimp only [Ybaf.f4, Option.getD, secondOf, firstOf, insideOf, onceOf, thenOf, elseOf] at hT
  subst hT
  dsimp only
  have hnil : ∀ w, (binOp .eql 25 (.slice none 0 0) (.slice none 0 0)).run Ybaf.prog w = .ok (.bool true) w := fun w => by kernel_rfl
  go_wp2_with fail
  generalize hO1 : Obj.cells #[Value.int IntKind.i64 2, _, _, _, _, _, _, _, _, _, _, _, _, _, _, _, _, _, _, _, _, _, _, _, _, _, _, _, _, _, _, _, _, _, _, Value.slice a n c, Value.slice a2 n2 c2, Value.slice a3 n3 c3] 35 = O1
  have hb1 : Below wx.heap.size wx (wx.alloc O1) := (Below.refl _ _).alloc (Nat.le_refl _) _
  have k4 : (wx.alloc O1).cell? ⟨wx.heap.size, 35, none⟩ = some (.slice a n c) := by rw [← hO1, World.cell?_alloc_new]; rfl
  have k5 : (wx.alloc O1).cell? ⟨wx.heap.size, 36, none⟩ = some (.slice a2 n2 c2) := by rw [← hO1, World.cell?_alloc_new]; rfl
  have k6 : (wx.alloc O1).cell? ⟨wx.heap.size, 37, none⟩ = some (.slice a3 n3 c3) := by rw [← hO1, World.cell?_alloc_new]; rfl
  have hs1 : wx.heap.size < (wx.alloc O1).heap.size := by simp
  have hb2 : Below wx.heap.size wx ((wx.alloc O1).alloc (.cells #[.int .u8 9, .int .u8 9] 5)) := hb1.alloc (by omega) _
  have hc2 := fun j => World.cell?_alloc_past (w := wx.alloc O1) (.cells #[.int .u8 9, .int .u8 9] 5) wx.heap.size j hs1
  refine Calls.mono (refuse_calls F _ wx.heap.size n c n2 c2 n3 c3 a a2 a3 E _ hF (by simp; omega) ((hc2 35).trans k4) ((hc2 36).trans k5) ((hc2 37).trans k6) hn hm (hr.below hb2) hbad) ?_
  rintro e w' ⟨⟨p, rfl⟩, hb⟩
  have HFIN : Hid (Below w0.heap.size w0 w') := hbel.trans ((hb2.trans (hb.mono hb2.size)).mono hbel.size)
  clear hb hb2 hc2 hb1 k4 k5 k6 hr hbad
  go_wp2
  go_ret
  exact ⟨rfl, HFIN.out⟩

end Go.Proofs.YbulkawzkFmt
