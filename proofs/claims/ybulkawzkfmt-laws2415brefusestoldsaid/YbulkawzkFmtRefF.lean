import Derived.Test.YbulkawzkFmtRefE
namespace Go.Proofs.YbulkawzkFmt
open Go.RowKit Go.Extern.Stop Go.Stop Go.Extern
set_option linter.unusedVariables false

set_option maxRecDepth 100000 in
set_option maxHeartbeats 16000000 in
theorem rf0 (F : Interp) (w0 wx : World) (hF : F.answers wx.tape) (hbel : Below w0.heap.size w0 wx) (ns cs nm cm : Nat) (sa am : Option Addr) (sel pos bad : Int) (hsel0 : 0 ≤ sel) (hsel1 : sel ≤ 255) (hpos0 : 0 ≤ pos) (hpos1 : pos < 18446744073709551616) (hbad0 : 0 ≤ bad) (hbad1 : bad ≤ 255) (zs zm : List Int) (hsi : IsRowI w0 sa ns cs zs) (hmi : IsRowI w0 am nm cm zm) (hw : wx = w0) (hns : ns ≤ 256) (hnm : nm ≤ 1024) (u1 u2 u3 u4 u5 u6 u7 u8 u9 u10 u11 u12 u13 u14 u15 u16 u17 u18 u19 u20 u21 u22 u23 u24 u25 u26 u27 u28 u29 u30 u31 u32 u33 u34 u35 u36 u37 u38 u39 u40 u41 u42 u43 u44 u45 u46 u47 u48 u49 u50 u51 u52 u53 u54 u55 u56 u57 u58 u59 u60 u61 u62 u63 u64 u65 u66 u67 u68 u69 u70 u71 u72 u73 u74 u75 u76 u77 u78 u79 u80 u81 u82 u83 u84 u85 u86 u87 u88 u89 u90 u91 u92 u93 u94 u95 u96 u97 u98 u99 u100 u101 u102 u103 u104 u105 u106 u107 u108 u109 u110 u111 u112 u113 u114 u115 u116 u117 u118 u119 u120 u121 u122 u123 u124 u125 u126 u127 : Value) :
    Code.wp Ybaf.prog (Ybaf.f4.body.getD .skip) (bodyPost Ybaf.prog Ybaf.f4 fun e w' => e = .returned (.bool true) ∧ Below w0.heap.size w0 w') { tmps := #[(.agg #[.int .u8 sel, .slice sa ns cs, .int .u64 pos, .int .u8 bad, .slice am nm cm]), u1, u2, u3, u4, u5, u6, u7, u8, u9, u10, u11, u12, u13, u14, u15, u16, u17, u18, u19, u20, u21, u22, u23, u24, u25, u26, u27, u28, u29, u30, u31, u32, u33, u34, u35, u36, u37, u38, u39, u40, u41, u42, u43, u44, u45, u46, u47, u48, u49, u50, u51, u52, u53, u54, u55, u56, u57, u58, u59, u60, u61, u62, u63, u64, u65, u66, u67, u68, u69, u70, u71, u72, u73, u74, u75, u76, u77, u78, u79, u80, u81, u82, u83, u84, u85, u86, u87, u88, u89, u90, u91, u92, u93, u94, u95, u96, u97, u98, u99, u100, u101, u102, u103, u104, u105, u106, u107, u108, u109, u110, u111, u112, u113, u114, u115, u116, u117, u118, u119, u120, u121, u122, u123, u124, u125, u126, u127], defers := [] } wx := by
  obtain ⟨RS, hRS⟩ : ∃ RS, RS = (secondOf (secondOf (secondOf (secondOf (secondOf (secondOf (secondOf (Ybaf.f4.body.getD .skip)))))))) := ⟨_, rfl⟩
  obtain ⟨T, hT⟩ : ∃ T, T = (Code.seq (firstOf (Ybaf.f4.body.getD .skip)) (Code.seq (firstOf (secondOf (Ybaf.f4.body.getD .skip))) (Code.seq (firstOf (secondOf (secondOf (Ybaf.f4.body.getD .skip)))) (Code.seq (firstOf (secondOf (secondOf (secondOf (Ybaf.f4.body.getD .skip))))) (Code.seq (firstOf (secondOf (secondOf (secondOf (secondOf (Ybaf.f4.body.getD .skip)))))) (Code.seq (firstOf (secondOf (secondOf (secondOf (secondOf (secondOf (Ybaf.f4.body.getD .skip))))))) (Code.seq (firstOf (secondOf (secondOf (secondOf (secondOf (secondOf (secondOf (Ybaf.f4.body.getD .skip)))))))) RS))))))) := ⟨_, rfl⟩
  have hE : (Ybaf.f4.body.getD .skip) = T := by rw [hT, hRS]; rfl
  rw [hE]
  have HRS : Hid _ := hRS
  clear hE hRS
  dsimp only [Ybaf.f4, Option.getD, secondOf, firstOf, insideOf, onceOf, thenOf, elseOf] at hT
  subst hT
  dsimp only
  subst hw
  obtain ⟨bl, hbl⟩ : ∃ bl : Nat, bad % 64 = (bl : Int) := ⟨(bad % 64).toNat, by omega⟩
  have hbl64 : bl < 64 := by omega
  have hmk := mk5 bl (by omega)
  have hd1 : decide ((256 : Int) < (ns : Int)) = false := by simp; omega
  have hd2 : decide ((1024 : Int) < (nm : Int)) = false := by simp; omega
  have hB1 : Below wx.heap.size wx (wx.alloc (.cells #[.int .u8 sel, .slice sa ns cs, .int .u64 pos, .int .u8 bad, .slice am nm cm] 47)) := (Below.refl _ wx).alloc (Nat.le_refl _) _
  have hB2 : Below wx.heap.size wx ((wx.alloc (.cells #[.int .u8 sel, .slice sa ns cs, .int .u64 pos, .int .u8 bad, .slice am nm cm] 47)).alloc (.cells (madeCells #[.int .u8 0] bl) 5)) := hB1.alloc (by simp) _
  have hcx : ∀ j u, (#[.int .u8 sel, .slice sa ns cs, .int .u64 pos, .int .u8 bad, .slice am nm cm] : Array Value)[j]? = some u → ((wx.alloc (.cells #[.int .u8 sel, .slice sa ns cs, .int .u64 pos, .int .u8 bad, .slice am nm cm] 47)).alloc (.cells (madeCells #[.int .u8 0] bl) 5)).cell? ⟨wx.heap.size, j, none⟩ = some u := fun j u hj => by
    rw [World.cell?_alloc_past _ _ _ (by simp), World.cell?_alloc_new]
    exact hj
  have HALL : Hid (∀ (u0 u2 u8 u9 u10 u11 u12 u13 u14 u15 u16 u17 u18 u19 u20 u21 u22 u23 u24 u25 u26 u27 u28 u29 u30 u31 u32 u33 u34 u35 u36 u37 u38 u39 u40 u41 u42 u43 u44 u45 u46 u47 u48 u49 u50 u51 u52 u53 u54 u55 u56 u57 u58 u59 u60 u61 u62 u63 u64 u65 u66 u67 u68 u69 u70 u71 u72 u73 u74 u75 u76 u77 u78 u79 u80 u81 u82 u83 u84 u85 u86 u87 u88 u89 u90 u91 u92 u93 u94 u95 u96 u97 u98 u99 u100 u101 u102 u103 u104 u105 u106 u107 u108 u109 u110 u111 u112 u113 u114 u115 u116 u117 u118 u119 u120 u121 u122 u123 u124 u125 u126 u127 : Value), Code.wp Ybaf.prog RS (bodyPost Ybaf.prog Ybaf.f4 fun e w' => e = .returned (.bool true) ∧ Below wx.heap.size wx w') { tmps := #[u0, .pointer (some ⟨wx.heap.size, 0, none⟩), u2, .int .i64 ns, .slice (some ⟨wx.heap.size + 1, 0, none⟩) bl bl, .slice none 0 0, .slice none 0 0, .slice none 0 0, u8, u9, u10, u11, u12, u13, u14, u15, u16, u17, u18, u19, u20, u21, u22, u23, u24, u25, u26, u27, u28, u29, u30, u31, u32, u33, u34, u35, u36, u37, u38, u39, u40, u41, u42, u43, u44, u45, u46, u47, u48, u49, u50, u51, u52, u53, u54, u55, u56, u57, u58, u59, u60, u61, u62, u63, u64, u65, u66, u67, u68, u69, u70, u71, u72, u73, u74, u75, u76, u77, u78, u79, u80, u81, u82, u83, u84, u85, u86, u87, u88, u89, u90, u91, u92, u93, u94, u95, u96, u97, u98, u99, u100, u101, u102, u103, u104, u105, u106, u107, u108, u109, u110, u111, u112, u113, u114, u115, u116, u117, u118, u119, u120, u121, u122, u123, u124, u125, u126, u127], defers := [] } ((wx.alloc (.cells #[.int .u8 sel, .slice sa ns cs, .int .u64 pos, .int .u8 bad, .slice am nm cm] 47)).alloc (.cells (madeCells #[.int .u8 0] bl) 5))) := by
    intro u0
    intros
    rw [HRS.out]
    have hsI : IsI ((wx.alloc (.cells #[.int .u8 sel, .slice sa ns cs, .int .u64 pos, .int .u8 bad, .slice am nm cm] 47)).alloc (.cells (madeCells #[.int .u8 0] bl) 5)) sa ns := by
      rcases IsRowI.below hsi hB2 with ⟨_, h, _⟩ | ⟨x, h1, h2, h3, h5, h4⟩
      · exact .inl h
      · by_cases hz : ns = 0
        · exact .inl hz
        · obtain ⟨xb, xo, xs⟩ := x
          have : xs = none := h5 (by omega)
          subst this
          refine .inr ⟨xb, xo, h1, h3 (by omega), fun k hk => ?_⟩
          have h6 := h4 k _ (List.getElem?_eq_getElem (by omega))
          rw [Go.WideShapes.add_plain] at h6
          exact ⟨_, h6⟩
    by_cases hev : sel % 2 = 0
    · exact rf7a F wx ((wx.alloc (.cells #[.int .u8 sel, .slice sa ns cs, .int .u64 pos, .int .u8 bad, .slice am nm cm] 47)).alloc (.cells (madeCells #[.int .u8 0] bl) 5)) hF hB2 wx.heap.size ns cs (wx.heap.size + 1) bl nm cm sa am sel pos bad (by simp; omega) hns hbl64 (hcx 0 _ rfl) (hcx 1 _ rfl) (hcx 2 _ rfl) hsel0 hsel1 hpos0 hpos1 hsI hev _ _ _ _ _ _ _ _ _ _ _ _ _ _ _ _ _ _ _ _ _ _ _ _ _ _ _ _ _ _ _ _ _ _ _ _ _ _ _ _ _ _ _ _ _ _ _ _ _ _ _ _ _ _ _ _ _ _ _ _ _ _ _ _ _ _ _ _ _ _ _ _ _ _ _ _ _ _ _ _ _ _ _ _ _ _ _ _ _ _ _ _ _ _ _ _ _ _ _ _ _ _ _ _ _ _ _ _ _ _ _ _ _ _ _ _ _ _ _ _ _ _
    · exact rf7b F wx ((wx.alloc (.cells #[.int .u8 sel, .slice sa ns cs, .int .u64 pos, .int .u8 bad, .slice am nm cm] 47)).alloc (.cells (madeCells #[.int .u8 0] bl) 5)) hF hB2 wx.heap.size ns cs (wx.heap.size + 1) bl nm cm sa am sel pos bad (by simp; omega) hns hbl64 (hcx 0 _ rfl) (hcx 1 _ rfl) (hcx 2 _ rfl) hsel0 hsel1 hpos0 hpos1 hsI (hcx 4 _ rfl) zm (IsRowI.below hmi hB2) hnm (by omega) _ _ _ _ _ _ _ _ _ _ _ _ _ _ _ _ _ _ _ _ _ _ _ _ _ _ _ _ _ _ _ _ _ _ _ _ _ _ _ _ _ _ _ _ _ _ _ _ _ _ _ _ _ _ _ _ _ _ _ _ _ _ _ _ _ _ _ _ _ _ _ _ _ _ _ _ _ _ _ _ _ _ _ _ _ _ _ _ _ _ _ _ _ _ _ _ _ _ _ _ _ _ _ _ _ _ _ _ _ _ _ _ _ _ _ _ _ _ _ _ _ _
  clear hF hsi hmi hbel hB1 hB2 hcx
  go_wp2
  exact HALL.out _ _ _ _ _ _ _ _ _ _ _ _ _ _ _ _ _ _ _ _ _ _ _ _ _ _ _ _ _ _ _ _ _ _ _ _ _ _ _ _ _ _ _ _ _ _ _ _ _ _ _ _ _ _ _ _ _ _ _ _ _ _ _ _ _ _ _ _ _ _ _ _ _ _ _ _ _ _ _ _ _ _ _ _ _ _ _ _ _ _ _ _ _ _ _ _ _ _ _ _ _ _ _ _ _ _ _ _ _ _ _ _ _ _ _ _ _ _ _ _ _ _


theorem law_long4 (ns cs nm cm : Nat) (sa am : Option Addr) (sel pos bad : Int) (w0 : World) (hl : 256 < ns ∨ 1024 < nm) :
    Calls Ybaf.prog 4 #[(.agg #[.int .u8 sel, .slice sa ns cs, .int .u64 pos, .int .u8 bad, .slice am nm cm])] w0 fun e w' => e = .returned (.bool true) ∧ Below w0.heap.size w0 w' := by
  by_cases h : 256 < ns
  · have h' : (256 : Int) < (ns : Int) := by omega
    go_enter Ybaf.func4, Ybaf.ntmps4
    go_wp2
    go_ret
    exact ⟨rfl, (Below.refl _ _).alloc (Nat.le_refl _) _⟩
  · have h1 : decide ((256 : Int) < (ns : Int)) = false := by simp; omega
    have h' : (1024 : Int) < (nm : Int) := by omega
    go_enter Ybaf.func4, Ybaf.ntmps4
    go_wp2
    go_ret
    exact ⟨rfl, (Below.refl _ _).alloc (Nat.le_refl _) _⟩

theorem refuses_walk (F : Interp) (w0 : World) (hF : F.answers w0.tape) (ns cs nm cm : Nat) (sa am : Option Addr) (sel pos bad : Int) (hsel0 : 0 ≤ sel) (hsel1 : sel ≤ 255) (hpos0 : 0 ≤ pos) (hpos1 : pos < 18446744073709551616) (hbad0 : 0 ≤ bad) (hbad1 : bad ≤ 255) (zs zm : List Int) (hsi : IsRowI w0 sa ns cs zs) (hmi : IsRowI w0 am nm cm zm) :
    Calls Ybaf.prog 4 #[(.agg #[.int .u8 sel, .slice sa ns cs, .int .u64 pos, .int .u8 bad, .slice am nm cm])] w0 fun e w' => e = .returned (.bool true) ∧ Below w0.heap.size w0 w' := by
  by_cases hl : 256 < ns ∨ 1024 < nm
  · exact law_long4 ns cs nm cm sa am sel pos bad w0 hl
  · go_enter Ybaf.func4, Ybaf.ntmps4
    exact rf0 F w0 w0 hF (Below.refl _ _) ns cs nm cm sa am sel pos bad hsel0 hsel1 hpos0 hpos1 hbad0 hbad1 zs zm hsi hmi rfl (by omega) (by omega) _ _ _ _ _ _ _ _ _ _ _ _ _ _ _ _ _ _ _ _ _ _ _ _ _ _ _ _ _ _ _ _ _ _ _ _ _ _ _ _ _ _ _ _ _ _ _ _ _ _ _ _ _ _ _ _ _ _ _ _ _ _ _ _ _ _ _ _ _ _ _ _ _ _ _ _ _ _ _ _ _ _ _ _ _ _ _ _ _ _ _ _ _ _ _ _ _ _ _ _ _ _ _ _ _ _ _ _ _ _ _ _ _ _ _ _ _ _ _ _ _ _ _ _ _ _ _
end Go.Proofs.YbulkawzkFmt
