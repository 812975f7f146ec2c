import Derived.Test.YbulkawzkFmtRefC
namespace Go.Proofs.YbulkawzkFmt
open Go.RowKit Go.Extern.Stop Go.Stop Go.Extern
set_option linter.unusedVariables false

set_option maxRecDepth 100000 in
set_option maxHeartbeats 16000000 in
theorem rf7a (F : Interp) (w0 wx : World) (hF : F.answers wx.tape) (hbel : Below w0.heap.size w0 wx) (X ns cs G bl nm cm : Nat) (sa am : Option Addr) (sel pos bad : Int) (hX : X < wx.heap.size) (hns : ns ≤ 256) (hbl : bl < 64) (x0 : wx.cell? ⟨X, 0, none⟩ = some (.int .u8 sel)) (x1 : wx.cell? ⟨X, 1, none⟩ = some (.slice sa ns cs)) (x2 : wx.cell? ⟨X, 2, none⟩ = some (.int .u64 pos)) (hsel0 : 0 ≤ sel) (hsel1 : sel ≤ 255) (hpos0 : 0 ≤ pos) (hpos1 : pos < 18446744073709551616) (hsg : IsI wx sa ns) (hev : sel % 2 = 0) (u0 u2 u8 u9 u10 u11 u12 u13 u14 u15 u16 u17 u18 u19 u20 u21 u22 u23 u24 u25 u26 u27 u28 u29 u30 u31 u32 u33 u34 u35 u36 u37 u38 u39 u40 u41 u42 u43 u44 u45 u46 u47 u48 u49 u50 u51 u52 u53 u54 u55 u56 u57 u58 u59 u60 u61 u62 u63 u64 u65 u66 u67 u68 u69 u70 u71 u72 u73 u74 u75 u76 u77 u78 u79 u80 u81 u82 u83 u84 u85 u86 u87 u88 u89 u90 u91 u92 u93 u94 u95 u96 u97 u98 u99 u100 u101 u102 u103 u104 u105 u106 u107 u108 u109 u110 u111 u112 u113 u114 u115 u116 u117 u118 u119 u120 u121 u122 u123 u124 u125 u126 u127 : Value) :
    Code.wp Ybaf.prog (secondOf (secondOf (secondOf (secondOf (secondOf (secondOf (secondOf (Ybaf.f4.body.getD .skip)))))))) (bodyPost Ybaf.prog Ybaf.f4 fun e w' => e = .returned (.bool true) ∧ Below w0.heap.size w0 w') { tmps := #[u0, .pointer (some ⟨X, 0, none⟩), u2, .int .i64 ns, .slice (some ⟨G, 0, none⟩) bl bl, .slice none 0 0, .slice none 0 0, .slice none 0 0, u8, u9, u10, u11, u12, u13, u14, u15, u16, u17, u18, u19, u20, u21, u22, u23, u24, u25, u26, u27, u28, u29, u30, u31, u32, u33, u34, u35, u36, u37, u38, u39, u40, u41, u42, u43, u44, u45, u46, u47, u48, u49, u50, u51, u52, u53, u54, u55, u56, u57, u58, u59, u60, u61, u62, u63, u64, u65, u66, u67, u68, u69, u70, u71, u72, u73, u74, u75, u76, u77, u78, u79, u80, u81, u82, u83, u84, u85, u86, u87, u88, u89, u90, u91, u92, u93, u94, u95, u96, u97, u98, u99, u100, u101, u102, u103, u104, u105, u106, u107, u108, u109, u110, u111, u112, u113, u114, u115, u116, u117, u118, u119, u120, u121, u122, u123, u124, u125, u126, u127], defers := [] } wx := by
  obtain ⟨RS, hRS⟩ : ∃ RS, RS = (secondOf (secondOf (secondOf (secondOf (secondOf (secondOf (secondOf (secondOf (Ybaf.f4.body.getD .skip))))))))) := ⟨_, rfl⟩
  obtain ⟨T, hT⟩ : ∃ T, T = (Code.seq (firstOf (secondOf (secondOf (secondOf (secondOf (secondOf (secondOf (secondOf (Ybaf.f4.body.getD .skip))))))))) RS) := ⟨_, rfl⟩
  have hE : (secondOf (secondOf (secondOf (secondOf (secondOf (secondOf (secondOf (Ybaf.f4.body.getD .skip)))))))) = T := by rw [hT, hRS]; rfl
  rw [hE]
  have HRS : Hid _ := hRS
  clear hE hRS
  dsimp only [Ybaf.f4, Option.getD, secondOf, firstOf, insideOf, onceOf, thenOf, elseOf] at hT
  subst hT
  dsimp only
  obtain ⟨p, hp⟩ : ∃ p : Nat, pos % ((ns : Int) + 1) = (p : Int) := ⟨(pos % ((ns : Int) + 1)).toNat, by have := Int.emod_nonneg pos (show ((ns : Int) + 1) ≠ 0 by omega); omega⟩
  have hpn : p ≤ ns := by have := Int.emod_lt_of_pos pos (show (0 : Int) < (ns : Int) + 1 by omega); omega
  have HALL : Hid (∀ w2, Below wx.heap.size wx w2 → ∀ a m c E, E.length = m → m ≤ 1000 → w2.ownsRow wx.heap.size 31 2 (.slice a m c) m (flat2 E) → (∃ e ∈ E, e.len ≠ 64) → ∀ (u0 u1 u2 u3 u4 u8 u9 u10 u11 u12 u13 u14 u15 u16 u17 u18 u19 u20 u21 u22 u23 u24 u25 u26 u27 u28 u29 u30 u31 u32 u33 u34 u35 u36 u37 u38 u39 u40 u41 u42 u43 u44 u45 u46 u47 u48 u49 u50 u51 u52 u53 u54 u55 u56 u57 u58 u59 u60 u61 u62 u63 u64 u65 u66 u67 u68 u69 u70 u71 u72 u73 u74 u75 u76 u77 u78 u79 u80 u81 u82 u83 u84 u85 u86 u87 u88 u89 u90 u91 u92 u93 u94 u95 u96 u97 u98 u99 u100 u101 u102 u103 u104 u105 u106 u107 u108 u109 u110 u111 u112 u113 u114 u115 u116 u117 u118 u119 u120 u121 u122 u123 u124 u125 u126 u127 : Value), Code.wp Ybaf.prog RS (bodyPost Ybaf.prog Ybaf.f4 fun e w' => e = .returned (.bool true) ∧ Below w0.heap.size w0 w') { tmps := #[u0, u1, u2, u3, u4, .slice a m c, .slice none 0 0, .slice none 0 0, u8, u9, u10, u11, u12, u13, u14, u15, u16, u17, u18, u19, u20, u21, u22, u23, u24, u25, u26, u27, u28, u29, u30, u31, u32, u33, u34, u35, u36, u37, u38, u39, u40, u41, u42, u43, u44, u45, u46, u47, u48, u49, u50, u51, u52, u53, u54, u55, u56, u57, u58, u59, u60, u61, u62, u63, u64, u65, u66, u67, u68, u69, u70, u71, u72, u73, u74, u75, u76, u77, u78, u79, u80, u81, u82, u83, u84, u85, u86, u87, u88, u89, u90, u91, u92, u93, u94, u95, u96, u97, u98, u99, u100, u101, u102, u103, u104, u105, u106, u107, u108, u109, u110, u111, u112, u113, u114, u115, u116, u117, u118, u119, u120, u121, u122, u123, u124, u125, u126, u127], defers := [] } w2) := by
    intro w2 hb2 a m c E hl hm ho hbad
    intros
    rw [HRS.out]
    exact rf8 F w0 w2 (by rw [hb2.tape]; exact hF) (hbel.trans (hb2.mono hbel.size)) a none none m c 0 0 0 0 E hl hm (rowS_of_own ho hl) (.inl hbad) _ _ _ _ _ _ _ _ _ _ _ _ _ _ _ _ _ _ _ _ _ _ _ _ _ _ _ _ _ _ _ _ _ _ _ _ _ _ _ _ _ _ _ _ _ _ _ _ _ _ _ _ _ _ _ _ _ _ _ _ _ _ _ _ _ _ _ _ _ _ _ _ _ _ _ _ _ _ _ _ _ _ _ _ _ _ _ _ _ _ _ _ _ _ _ _ _ _ _ _ _ _ _ _ _ _ _ _ _ _ _ _ _ _ _ _ _ _ _ _ _ _ _ _ _
  obtain ⟨i0, hi, hz0, hz1, hz2⟩ := parts info31
  obtain ⟨WA, hmk, hoA, hgA⟩ := run_makeSlice_owned (P := Ybaf.prog) wx wx.heap.size 28 31 i0 _ 2 Ybaf.underlying28 hi hz0 hz1 .i64 .i64 (ns + 1) (by omega) (by rw [hz2]; omega) (by unfold maxLen; omega) (Nat.le_refl _)
  rw [show (((ns + 1 : Nat) : Int)) = (ns : Int) + 1 by omega] at hmk
  have HOA : Hid (WA.ownsRow wx.heap.size 31 2 (.slice (some ⟨wx.heap.size, 0, none⟩) 0 (ns + 1)) 0 (flat2 [])) := hoA
  have HBA : Hid (Below wx.heap.size wx WA) := Below.grown (Below.refl _ wx) hgA (Nat.le_refl _) (fun x hx => by cases hx)
  have HF : Hid _ := hF
  have HBL : Hid _ := hbel
  have HSG : Hid _ := hsg
  clear hoA hgA hi hz0 hz1 hz2 hF hbel hsg
  go_wp2
  go_loopw [5, 9] (fun v i wr => ∃ (k m c : Nat) (a : Option Addr) (E : List Sg), k ≤ ns ∧ i = .int .i64 k ∧ v = .slice a m c ∧ E.length = m ∧ m ≤ 2 * k ∧ wr.ownsRow wx.heap.size 31 2 (.slice a m c) m (flat2 E) ∧ (p < k → ∃ e ∈ E, e.len ≠ 64) ∧ Below wx.heap.size wx wr) (fun _ i _ => ns - (intOf i).toNat)
  case atStart => exact ⟨0, 0, ns + 1, _, [], by omega, rfl, rfl, rfl, by omega, HOA.out, fun h => by omega, HBA.out⟩
  case round =>
    obtain ⟨k, m, c, a, E, hk, rfl, rfl, hE, hm2, hown, hex, hbr⟩ := hrel
    by_cases hkn : k < ns
    · have hkn' : (k : Int) < (ns : Int) := by omega
      obtain ⟨b, off, rfl, hbl', hcz⟩ : ∃ b off, sa = some ⟨b, off, none⟩ ∧ b < wx.heap.size ∧ ∀ k, k < ns → ∃ z : Int, wx.cell? ⟨b, off + k, none⟩ = some (.int .i64 z) := by
        rcases HSG.out with h | h
        · omega
        · exact h
      obtain ⟨z, hz⟩ := hcz k hkn
      clear hcz
      have HEX : Hid _ := hex
      clear hex
      by_cases hkp : k = p
      · have hd : ((k : Int) == (p : Int)) = true := by rw [hkp]; simp
        have HKP : Hid _ := hkp
        clear hkp
        obtain ⟨i0, hi, hz0, hz1, hz2⟩ := parts info31
        have hown1 : (wr.alloc (.cells #[.int .i64 1, .slice (some ⟨G, 0, none⟩) bl bl] 31)).ownsRow wx.heap.size 31 2 (.slice a m c) m (flat2 E) := own_any hown (fun g hg => Below.heap_alloc wr _ g (World.ownsRow.lt hown g hg).2)
        have hc1 : ∀ j u, ([.int .i64 1, .slice (some ⟨G, 0, none⟩) bl bl] : List Value)[j]? = some u → (wr.alloc (.cells #[.int .i64 1, .slice (some ⟨G, 0, none⟩) bl bl] 31)).cell? ((⟨wr.heap.size, 0, none⟩ : Addr).add j) = some u := fun j u hj => by
          rw [Go.WideShapes.add_plain, Nat.zero_add]
          exact (World.cell?_alloc_at _ _ _ _ rfl).trans (by simpa using hj)
        have hbs := hbr.size
        have HFIN : Hid (∀ v' w1, w1.ownsRow wx.heap.size 31 2 v' (m + 1) (flat2 E ++ [.int .i64 1, .slice (some ⟨G, 0, none⟩) bl bl]) → (wr.alloc (.cells #[.int .i64 1, .slice (some ⟨G, 0, none⟩) bl bl] 31)).grownBy w1 (Value.slice a m c).ownBlock → ∃ a' c', v' = .slice a' (m + 1) c' ∧ w1.ownsRow wx.heap.size 31 2 (.slice a' (m + 1) c') (m + 1) (flat2 (E ++ [⟨1, some ⟨G, 0, none⟩, bl, bl⟩])) ∧ Below wx.heap.size wx w1) := by
          intro v' w1 ho hg
          obtain ⟨g2, cp, rfl⟩ : ∃ g2 cp, v' = .slice (some ⟨g2, 0, none⟩) (m + 1) cp := by
            rcases ho.2 with ⟨_, h0⟩ | ⟨g2, cp, cur, e1, _⟩
            · omega
            · exact ⟨g2, cp, e1⟩
          refine ⟨_, cp, rfl, ?_, Below.grown (hbr.alloc hbr.size _) hg (by simp; omega) (fun x hx => (World.ownsRow.lt hown x hx).1)⟩
          rw [flat2_append, flat2_one]
          exact ho
        have HE : Hid _ := hE
        have HBR : Hid _ := hbr
        clear hbr hown
        go_wp2_with (at_builtin; refine wpList_append_own _ rfl (.tmp 54) (.tmp 57) 28 rfl wx.heap.size 31 i0 _ 2 32 Ybaf.underlying28 hi hz0 hz1 hz2 rfl (by decide) _ m (flat2 E) rfl hown1 ⟨wr.heap.size, 0, none⟩ 1 1 _ rfl rfl hc1 (Sg.cells_one ⟨1, some ⟨G, 0, none⟩, bl, bl⟩) (by unfold maxLen; omega) (by omega) (by simp; omega) ?_; intro v' w1 hown' hgrow _)
        obtain ⟨a', c', rfl, hoA, hbA⟩ := HFIN.out v' w1 hown' hgrow
        clear hown' hgrow HFIN hown1 hc1
        have q1 : w1.cell? ⟨X, 1, none⟩ = some (.slice (some ⟨b, off, none⟩) ns cs) := (Below.cell hbA (p := ⟨X, 1, none⟩) hX).trans x1
        have qz : w1.cell? ⟨b, off + k, none⟩ = some (.int .i64 z) := (Below.cell hbA (p := ⟨b, off + k, none⟩) hbl').trans hz
        refine wp_mono (reg16 wx.heap.size X b off ns cs k (m + 1) c' z a' (E ++ [⟨1, some ⟨G, 0, none⟩, bl, bl⟩]) w1 hkn hns hX hbl' (Below.size hbA) (by omega) q1 qz hoA _ _ _ _ _ _ _ _ _ _ _ _ _ _ _ _ _ _ _ _ _ _ _ _ _ _ _ _ _ _ _ _ _ _ _ _ _ _ _ _ _ _ _ _ _ _ _ _ _ _ _ _ _ _ _ _ _ _ _ _ _ _ _ _ _ _ _ _ _ _ _ _ _ _ _ _ _ _ _ _ _ _ _ _ _ _ _ _ _ _ _ _ _ _ _ _ _ _ _ _ _ _ _ _ _ _ _ _ _ _ _ _ _ _ _ _ _ _ _ _ _ _ _ _ _) ?_
        rintro e aa w9 ⟨rfl, a9, c9, ad9, ⟨ho9, hb9⟩, v59, v60, v61, v62, v63, v64, v65, v66, v67, v68, v69, rfl⟩
        have HO9 : Hid _ := ho9
        have HB9 : Hid _ := Below.trans hbA hb9
        clear ho9 hb9 q1 qz
        go_wp2
        go_roundw
        case rel => exact ⟨k + 1, m + 1 + 1, c9, a9, _, by omega, by go_num, rfl, by rw [List.length_append, List.length_append, HE.out]; rfl, by omega, HO9.out, fun _ => ⟨⟨1, some ⟨G, 0, none⟩, bl, bl⟩, by simp, by show bl ≠ 64; omega⟩, HB9.out⟩
        case measure => simp [intOf]; omega
      · have hd : ((k : Int) == (p : Int)) = false := by rw [beq_eq_false_iff_ne]; omega
        have HE : Hid _ := hE
        have HKP : Hid _ := hkp
        clear hkp
        go_wp2
        have q1 : wr.cell? ⟨X, 1, none⟩ = some (.slice (some ⟨b, off, none⟩) ns cs) := (Below.cell hbr (p := ⟨X, 1, none⟩) hX).trans x1
        have qz : wr.cell? ⟨b, off + k, none⟩ = some (.int .i64 z) := (Below.cell hbr (p := ⟨b, off + k, none⟩) hbl').trans hz
        refine wp_mono (reg16 wx.heap.size X b off ns cs k m c z a E wr hkn hns hX hbl' (Below.size hbr) (by omega) q1 qz hown _ _ _ _ _ _ _ _ _ _ _ _ _ _ _ _ _ _ _ _ _ _ _ _ _ _ _ _ _ _ _ _ _ _ _ _ _ _ _ _ _ _ _ _ _ _ _ _ _ _ _ _ _ _ _ _ _ _ _ _ _ _ _ _ _ _ _ _ _ _ _ _ _ _ _ _ _ _ _ _ _ _ _ _ _ _ _ _ _ _ _ _ _ _ _ _ _ _ _ _ _ _ _ _ _ _ _ _ _ _ _ _ _ _ _ _ _ _ _ _ _ _ _ _ _) ?_
        rintro e aa w9 ⟨rfl, a9, c9, ad9, ⟨ho9, hb9⟩, v59, v60, v61, v62, v63, v64, v65, v66, v67, v68, v69, rfl⟩
        have HO9 : Hid _ := ho9
        have HB9 : Hid _ := Below.trans hbr hb9
        clear ho9 hb9 q1 qz
        clear hown hbr
        go_wp2
        go_roundw
        case rel =>
          refine ⟨k + 1, m + 1, c9, a9, _, by omega, by go_num, rfl, by rw [List.length_append, HE.out]; rfl, by omega, HO9.out, fun h => ?_, HB9.out⟩
          obtain ⟨e, he, hl⟩ := HEX.out (by have h3 : ¬ k = p := HKP.out; have h4 : p < k + 1 := h; omega)
          exact ⟨e, List.mem_append_left _ he, hl⟩
        case measure => simp [intOf]; omega
    · have hkn' : k = ns := by omega
      subst hkn'
      have hd : decide ((k : Int) < (k : Int)) = false := by simp
      by_cases hkp : p = k
      · have hd2 : ((p : Int) == (k : Int)) = true := by rw [hkp]; simp
        have HKP : Hid _ := hkp
        clear hkp hex
        obtain ⟨i0, hi, hz0, hz1, hz2⟩ := parts info31
        have hown1 : (wr.alloc (.cells #[.int .i64 1, .slice (some ⟨G, 0, none⟩) bl bl] 31)).ownsRow wx.heap.size 31 2 (.slice a m c) m (flat2 E) := own_any hown (fun g hg => Below.heap_alloc wr _ g (World.ownsRow.lt hown g hg).2)
        have hc1 : ∀ j u, ([.int .i64 1, .slice (some ⟨G, 0, none⟩) bl bl] : List Value)[j]? = some u → (wr.alloc (.cells #[.int .i64 1, .slice (some ⟨G, 0, none⟩) bl bl] 31)).cell? ((⟨wr.heap.size, 0, none⟩ : Addr).add j) = some u := fun j u hj => by
          rw [Go.WideShapes.add_plain, Nat.zero_add]
          exact (World.cell?_alloc_at _ _ _ _ rfl).trans (by simpa using hj)
        have hbs := hbr.size
        have HFIN : Hid (∀ v' w1, w1.ownsRow wx.heap.size 31 2 v' (m + 1) (flat2 E ++ [.int .i64 1, .slice (some ⟨G, 0, none⟩) bl bl]) → (wr.alloc (.cells #[.int .i64 1, .slice (some ⟨G, 0, none⟩) bl bl] 31)).grownBy w1 (Value.slice a m c).ownBlock → ∃ a' c', v' = .slice a' (m + 1) c' ∧ w1.ownsRow wx.heap.size 31 2 (.slice a' (m + 1) c') (m + 1) (flat2 (E ++ [⟨1, some ⟨G, 0, none⟩, bl, bl⟩])) ∧ Below wx.heap.size wx w1) := by
          intro v' w1 ho hg
          obtain ⟨g2, cp, rfl⟩ : ∃ g2 cp, v' = .slice (some ⟨g2, 0, none⟩) (m + 1) cp := by
            rcases ho.2 with ⟨_, h0⟩ | ⟨g2, cp, cur, e1, _⟩
            · omega
            · exact ⟨g2, cp, e1⟩
          refine ⟨_, cp, rfl, ?_, Below.grown (hbr.alloc hbr.size _) hg (by simp; omega) (fun x hx => (World.ownsRow.lt hown x hx).1)⟩
          rw [flat2_append, flat2_one]
          exact ho
        have HE : Hid _ := hE
        have HBR : Hid _ := hbr
        clear hbr hown
        go_wp2_with (at_builtin; refine wpList_append_own _ rfl (.tmp 73) (.tmp 76) 28 rfl wx.heap.size 31 i0 _ 2 32 Ybaf.underlying28 hi hz0 hz1 hz2 rfl (by decide) _ m (flat2 E) rfl hown1 ⟨wr.heap.size, 0, none⟩ 1 1 _ rfl rfl hc1 (Sg.cells_one ⟨1, some ⟨G, 0, none⟩, bl, bl⟩) (by unfold maxLen; omega) (by omega) (by simp; omega) ?_; intro v' w1 hown' hgrow _)
        obtain ⟨a', c', rfl, hoA, hbA⟩ := HFIN.out v' w1 hown' hgrow
        clear hown' hgrow HFIN hown1 hc1
        exact HALL.out _ hbA a' (m + 1) c' (E ++ [⟨1, some ⟨G, 0, none⟩, bl, bl⟩]) (by rw [List.length_append, HE.out]; rfl) (by omega) hoA ⟨⟨1, some ⟨G, 0, none⟩, bl, bl⟩, by simp, by show bl ≠ 64; omega⟩ _ _ _ _ _ _ _ _ _ _ _ _ _ _ _ _ _ _ _ _ _ _ _ _ _ _ _ _ _ _ _ _ _ _ _ _ _ _ _ _ _ _ _ _ _ _ _ _ _ _ _ _ _ _ _ _ _ _ _ _ _ _ _ _ _ _ _ _ _ _ _ _ _ _ _ _ _ _ _ _ _ _ _ _ _ _ _ _ _ _ _ _ _ _ _ _ _ _ _ _ _ _ _ _ _ _ _ _ _ _ _ _ _ _ _ _ _ _ _ _ _ _ _ _ _
      · have hd2 : ((p : Int) == (k : Int)) = false := by rw [beq_eq_false_iff_ne]; omega
        have hex' := hex (by omega)
        have HX : Hid _ := hex'
        have HO : Hid _ := hown
        have HB : Hid _ := hbr
        have HE : Hid _ := hE
        clear hex hex' hown hbr hkp
        go_wp2
        exact HALL.out _ HB.out a m c E HE.out (by omega) HO.out HX.out _ _ _ _ _ _ _ _ _ _ _ _ _ _ _ _ _ _ _ _ _ _ _ _ _ _ _ _ _ _ _ _ _ _ _ _ _ _ _ _ _ _ _ _ _ _ _ _ _ _ _ _ _ _ _ _ _ _ _ _ _ _ _ _ _ _ _ _ _ _ _ _ _ _ _ _ _ _ _ _ _ _ _ _ _ _ _ _ _ _ _ _ _ _ _ _ _ _ _ _ _ _ _ _ _ _ _ _ _ _ _ _ _ _ _ _ _ _ _ _ _ _ _ _ _

end Go.Proofs.YbulkawzkFmt
