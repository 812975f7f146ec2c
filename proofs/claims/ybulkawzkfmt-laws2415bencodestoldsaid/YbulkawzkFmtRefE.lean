import Derived.Test.YbulkawzkFmtRow
namespace Go.Proofs.YbulkawzkFmt
open Go.RowKit Go.Extern.Stop Go.Stop Go.Extern
set_option linter.unusedVariables false

theorem zeroRow (ns : Nat) : (madeCells #[.int .i64 0, .slice none 0 0] (ns * 2)).toList = flat2 (List.replicate ns ⟨0, none, 0, 0⟩) := by
  refine List.ext_getElem? fun j => ?_
  have hl := flat2_length (List.replicate ns ⟨0, none, 0, 0⟩)
  rw [List.length_replicate] at hl
  by_cases hj : j < ns * 2
  · have hget : ∀ (n k : Nat), k < n → (flat2 (List.replicate n ⟨0, none, 0, 0⟩))[k * 2]? = some (.int .i64 0) ∧ (flat2 (List.replicate n ⟨0, none, 0, 0⟩))[k * 2 + 1]? = some (.slice none 0 0) := by
      intro n
      induction n with
      | zero => intro k h; omega
      | succ n ih =>
        intro k h
        have e1 : flat2 (List.replicate (n + 1) ⟨0, none, 0, 0⟩) = .int .i64 0 :: .slice none 0 0 :: flat2 (List.replicate n ⟨0, none, 0, 0⟩) := by simp [flat2, Sg.cells, List.replicate_succ]
        rcases k with _ | k
        · rw [e1]; exact ⟨rfl, rfl⟩
        · rw [e1, show (k + 1) * 2 = k * 2 + 1 + 1 by omega]
          exact ih k (by omega)
    obtain ⟨h0, h1⟩ := hget ns (j / 2) (by omega)
    have hm : (madeCells #[.int .i64 0, .slice none 0 0] (ns * 2)).toList[j]? = some ((#[.int .i64 0, .slice none 0 0] : Array Value)[j % 2]!) := by
      simp [madeCells, hj]
    rw [hm]
    rcases Nat.mod_two_eq_zero_or_one j with h | h
    · rw [show j / 2 * 2 = j by omega] at h0
      rw [h0, h]
      rfl
    · rw [show j / 2 * 2 + 1 = j by omega] at h1
      rw [h1, h]
      rfl
  · rw [List.getElem?_eq_none (by simp [size_madeCells]; omega), List.getElem?_eq_none (by omega)]
theorem mk31 (n : Nat) (hn : n ≤ 256) (w : World) : (Instr.makeSlice 28 (.int .i64 n) (.int .i64 n)).run Ybaf.prog w = .ok (.slice (some ⟨w.heap.size, 0, none⟩) n n) (w.alloc (.cells (madeCells #[.int .i64 0, .slice none 0 0] (n * 2)) 31)) := by
  obtain ⟨i0, hi, hz0, hz1, hz2⟩ := parts info31
  have h := run_makeSlice (P := Ybaf.prog) w 28 31 i0 _ Ybaf.underlying28 hi hz0 .i64 .i64 n n (by omega) (Int.le_refl _) (by rw [hz1]; simp; omega) (by rw [hz2]; omega) (by omega)
  rw [hz1] at h
  simpa [Value.cells] using h
theorem mk3 (n : Nat) (hn : n ≤ 1024) (w : World) : (Instr.makeSlice 24 (.int .i64 n) (.int .i64 n)).run Ybaf.prog w = .ok (.slice (some ⟨w.heap.size, 0, none⟩) n n) (w.alloc (.cells (madeCells #[.int .i64 0] n) 3)) := by
  obtain ⟨i0, hi, hz0, hz1, hz2⟩ := parts info3
  have h := run_makeSlice (P := Ybaf.prog) w 24 3 i0 _ Ybaf.underlying24 hi hz0 .i64 .i64 n n (by omega) (Int.le_refl _) (by rw [hz1]; simp; omega) (by rw [hz2]; omega) (by omega)
  rw [hz1] at h
  simpa [Value.cells] using h
theorem own31 (w : World) (n : Nat) (hn : n ≤ 256) : (w.alloc (.cells (madeCells #[.int .i64 0, .slice none 0 0] (n * 2)) 31)).ownsRow w.heap.size 31 2 (.slice (some ⟨w.heap.size, 0, none⟩) n n) n (flat2 (List.replicate n ⟨0, none, 0, 0⟩)) := by
  refine ⟨by rw [flat2_length, List.length_replicate], .inr ⟨w.heap.size, n, _, rfl, Nat.le_refl _, heap_alloc_new w _, Nat.le_refl _, by unfold maxLen; omega, size_madeCells _ _, ?_⟩⟩
  rw [zeroRow, List.take_of_length_le (by rw [flat2_length, List.length_replicate]; omega)]
theorem copy_nil24 (g : Nat) (w : World) : (Builtin.copy_ #[24, 24] 3 #[.slice (some ⟨g, 0, none⟩) 0 0, .slice none 0 0]).run Ybaf.prog w = .ok (goInt 0) w := by kernel_rfl
/-- A row of integers that came in: nil, or somewhere. -/
def IsRowI (w : World) (a : Option Addr) (n c : Nat) (zs : List Int) : Prop := (a = none ∧ n = 0 ∧ c = 0 ∧ zs = []) ∨ ∃ x : Addr, a = some x ∧ zs.length = n ∧ (0 < n → x.block < w.heap.size) ∧ (0 < n → x.spot = none) ∧ ∀ j z, zs[j]? = some z → w.cell? (x.add j) = some (.int .i64 z)
theorem IsRowI.below {w w' : World} {a : Option Addr} {n c : Nat} {zs : List Int} (h : IsRowI w a n c zs) (hb : Below w.heap.size w w') : IsRowI w' a n c zs := by
  rcases h with h | ⟨x, h1, h2, h3, h5, h4⟩
  · exact .inl h
  · refine .inr ⟨x, h1, h2, fun h => Nat.lt_of_lt_of_le (h3 h) hb.size, h5, fun j z hj => ?_⟩
    have hlt : j < zs.length := by
      rcases Nat.lt_or_ge j zs.length with h | h
      · exact h
      · rw [List.getElem?_eq_none h] at hj; cases hj
    rw [hb.cell (p := x.add j) (by rw [add_block]; exact h3 (by omega))]
    exact h4 j z hj
/-- make and copy. -/
theorem ints_copied {w : World} {a : Option Addr} {n c : Nat} {zs : List Int} (h : IsRowI w a n c zs) (hn : n ≤ 1024) :
    ∃ W2, (Builtin.copy_ #[24, 24] 3 #[.slice (some ⟨w.heap.size, 0, none⟩) n n, .slice a n c]).run Ybaf.prog (w.alloc (.cells (madeCells #[.int .i64 0] n) 3)) = .ok (goInt n) W2 ∧
      W2.ownsRow w.heap.size 3 1 (.slice (some ⟨w.heap.size, 0, none⟩) n n) n (zs.map (.int .i64)) ∧ Below w.heap.size w W2 := by
  obtain ⟨i0, hi, hz0, hz1, hz2⟩ := parts info3
  rcases h with ⟨rfl, rfl, rfl, rfl⟩ | ⟨x, rfl, h2, h3, h5, h4⟩
  · refine ⟨_, copy_nil24 _ _, ⟨rfl, .inr ⟨w.heap.size, 0, _, rfl, Nat.le_refl _, heap_alloc_new w _, Nat.le_refl _, by unfold maxLen; omega, size_madeCells _ _, rfl⟩⟩, (Below.refl _ w).alloc (Nat.le_refl _) _⟩
  · refine filled 24 3 i0 #[.int .i64 0] n x c (zs.map (.int .i64)) Ybaf.underlying24 hi hz1 (by rw [List.length_map, h2]) (by unfold maxLen; omega) (fun j v hj => ?_) h3 (fun v hv => ?_)
    · rw [List.getElem?_map] at hj
      obtain ⟨z, hz, rfl⟩ := Option.map_eq_some_iff.1 hj
      exact h4 j z hz
    · obtain ⟨z, _, rfl⟩ := List.mem_map.1 hv
      rfl

set_option maxRecDepth 100000 in
set_option maxHeartbeats 16000000 in
theorem rf7b (F : Interp) (w0 wx : World) (hF : F.answers wx.tape) (hbel : Below w0.heap.size w0 wx) (X ns cs G bl nm cm : Nat) (sa am : Option Addr) (sel pos bad : Int) (hX : X < wx.heap.size) (hns : ns ≤ 256) (hbl : bl < 64) (x0 : wx.cell? ⟨X, 0, none⟩ = some (.int .u8 sel)) (x1 : wx.cell? ⟨X, 1, none⟩ = some (.slice sa ns cs)) (x2 : wx.cell? ⟨X, 2, none⟩ = some (.int .u64 pos)) (hsel0 : 0 ≤ sel) (hsel1 : sel ≤ 255) (hpos0 : 0 ≤ pos) (hpos1 : pos < 18446744073709551616) (hsg : IsI wx sa ns) (x4 : wx.cell? ⟨X, 4, none⟩ = some (.slice am nm cm)) (zm : List Int) (hmi : IsRowI wx am nm cm zm) (hnm : nm ≤ 1024) (hod : sel % 2 = 1) (u0 u2 u8 u9 u10 u11 u12 u13 u14 u15 u16 u17 u18 u19 u20 u21 u22 u23 u24 u25 u26 u27 u28 u29 u30 u31 u32 u33 u34 u35 u36 u37 u38 u39 u40 u41 u42 u43 u44 u45 u46 u47 u48 u49 u50 u51 u52 u53 u54 u55 u56 u57 u58 u59 u60 u61 u62 u63 u64 u65 u66 u67 u68 u69 u70 u71 u72 u73 u74 u75 u76 u77 u78 u79 u80 u81 u82 u83 u84 u85 u86 u87 u88 u89 u90 u91 u92 u93 u94 u95 u96 u97 u98 u99 u100 u101 u102 u103 u104 u105 u106 u107 u108 u109 u110 u111 u112 u113 u114 u115 u116 u117 u118 u119 u120 u121 u122 u123 u124 u125 u126 u127 : Value) :
    Code.wp Ybaf.prog (secondOf (secondOf (secondOf (secondOf (secondOf (secondOf (secondOf (Ybaf.f4.body.getD .skip)))))))) (bodyPost Ybaf.prog Ybaf.f4 fun e w' => e = .returned (.bool true) ∧ Below w0.heap.size w0 w') { tmps := #[u0, .pointer (some ⟨X, 0, none⟩), u2, .int .i64 ns, .slice (some ⟨G, 0, none⟩) bl bl, .slice none 0 0, .slice none 0 0, .slice none 0 0, u8, u9, u10, u11, u12, u13, u14, u15, u16, u17, u18, u19, u20, u21, u22, u23, u24, u25, u26, u27, u28, u29, u30, u31, u32, u33, u34, u35, u36, u37, u38, u39, u40, u41, u42, u43, u44, u45, u46, u47, u48, u49, u50, u51, u52, u53, u54, u55, u56, u57, u58, u59, u60, u61, u62, u63, u64, u65, u66, u67, u68, u69, u70, u71, u72, u73, u74, u75, u76, u77, u78, u79, u80, u81, u82, u83, u84, u85, u86, u87, u88, u89, u90, u91, u92, u93, u94, u95, u96, u97, u98, u99, u100, u101, u102, u103, u104, u105, u106, u107, u108, u109, u110, u111, u112, u113, u114, u115, u116, u117, u118, u119, u120, u121, u122, u123, u124, u125, u126, u127], defers := [] } wx := by
  obtain ⟨RS, hRS⟩ : ∃ RS, RS = (secondOf (secondOf (secondOf (secondOf (secondOf (secondOf (secondOf (secondOf (Ybaf.f4.body.getD .skip))))))))) := ⟨_, rfl⟩
  obtain ⟨T, hT⟩ : ∃ T, T = (Code.seq (firstOf (secondOf (secondOf (secondOf (secondOf (secondOf (secondOf (secondOf (Ybaf.f4.body.getD .skip))))))))) RS) := ⟨_, rfl⟩
  have hE : (secondOf (secondOf (secondOf (secondOf (secondOf (secondOf (secondOf (Ybaf.f4.body.getD .skip)))))))) = T := by rw [hT, hRS]; rfl
  rw [hE]
  have HRS : Hid _ := hRS
  clear hE hRS
  dsimp only [Ybaf.f4, Option.getD, secondOf, firstOf, insideOf, onceOf, thenOf, elseOf] at hT
  subst hT
  dsimp only
  have HALL : Hid (∀ w2, Below wx.heap.size wx w2 → ∀ g a2 n2 c2 E, E.length = ns → w2.ownsRow wx.heap.size 31 2 (.slice (some ⟨g, 0, none⟩) ns ns) ns (flat2 E) → 0 < n2 → ∀ (u0 u1 u2 u3 u4 u8 u9 u10 u11 u12 u13 u14 u15 u16 u17 u18 u19 u20 u21 u22 u23 u24 u25 u26 u27 u28 u29 u30 u31 u32 u33 u34 u35 u36 u37 u38 u39 u40 u41 u42 u43 u44 u45 u46 u47 u48 u49 u50 u51 u52 u53 u54 u55 u56 u57 u58 u59 u60 u61 u62 u63 u64 u65 u66 u67 u68 u69 u70 u71 u72 u73 u74 u75 u76 u77 u78 u79 u80 u81 u82 u83 u84 u85 u86 u87 u88 u89 u90 u91 u92 u93 u94 u95 u96 u97 u98 u99 u100 u101 u102 u103 u104 u105 u106 u107 u108 u109 u110 u111 u112 u113 u114 u115 u116 u117 u118 u119 u120 u121 u122 u123 u124 u125 u126 u127 : Value), Code.wp Ybaf.prog RS (bodyPost Ybaf.prog Ybaf.f4 fun e w' => e = .returned (.bool true) ∧ Below w0.heap.size w0 w') { tmps := #[u0, u1, u2, u3, u4, .slice (some ⟨g, 0, none⟩) ns ns, .slice a2 n2 c2, .slice (some ⟨G, 0, none⟩) bl bl, u8, u9, u10, u11, u12, u13, u14, u15, u16, u17, u18, u19, u20, u21, u22, u23, u24, u25, u26, u27, u28, u29, u30, u31, u32, u33, u34, u35, u36, u37, u38, u39, u40, u41, u42, u43, u44, u45, u46, u47, u48, u49, u50, u51, u52, u53, u54, u55, u56, u57, u58, u59, u60, u61, u62, u63, u64, u65, u66, u67, u68, u69, u70, u71, u72, u73, u74, u75, u76, u77, u78, u79, u80, u81, u82, u83, u84, u85, u86, u87, u88, u89, u90, u91, u92, u93, u94, u95, u96, u97, u98, u99, u100, u101, u102, u103, u104, u105, u106, u107, u108, u109, u110, u111, u112, u113, u114, u115, u116, u117, u118, u119, u120, u121, u122, u123, u124, u125, u126, u127], defers := [] } w2) := by
    intro w2 hb2 g a2 n2 c2 E hl ho h2
    intros
    rw [HRS.out]
    exact rf8 F w0 w2 (by rw [hb2.tape]; exact hF) (hbel.trans (hb2.mono hbel.size)) (some ⟨g, 0, none⟩) a2 (some ⟨G, 0, none⟩) ns ns n2 c2 bl bl E hl (by omega) (rowS_of_own ho hl) (.inr ⟨h2, by omega⟩) _ _ _ _ _ _ _ _ _ _ _ _ _ _ _ _ _ _ _ _ _ _ _ _ _ _ _ _ _ _ _ _ _ _ _ _ _ _ _ _ _ _ _ _ _ _ _ _ _ _ _ _ _ _ _ _ _ _ _ _ _ _ _ _ _ _ _ _ _ _ _ _ _ _ _ _ _ _ _ _ _ _ _ _ _ _ _ _ _ _ _ _ _ _ _ _ _ _ _ _ _ _ _ _ _ _ _ _ _ _ _ _ _ _ _ _ _ _ _ _ _ _ _ _ _
  have hmk := mk31 ns hns
  have hmk3 := mk3 nm hnm
  have HOA : Hid _ := own31 wx ns hns
  have HBA : Hid (Below wx.heap.size wx (wx.alloc (.cells (madeCells #[.int .i64 0, .slice none 0 0] (ns * 2)) 31))) := (Below.refl _ _).alloc (Nat.le_refl _) _
  have HSG : Hid _ := hsg
  have HMI : Hid _ := hmi
  clear hF hbel hsg hmi
  go_wp2
  obtain ⟨g, hg⟩ : ∃ g, g = wx.heap.size := ⟨_, rfl⟩
  have HG : Hid _ := hg
  generalize wx.alloc (.cells (madeCells #[.int .i64 0, .slice none 0 0] (ns * 2)) 31) = WA at *
  rw [← hg] at HOA ⊢
  rw [hg] at HOA
  have HOA2 : Hid (WA.ownsRow wx.heap.size 31 2 (.slice (some ⟨g, 0, none⟩) ns ns) ns (flat2 (List.replicate ns ⟨0, none, 0, 0⟩))) := by show World.ownsRow _ _ _ _ _ _ _; rw [hg]; exact HOA.out
  clear HOA hg
  go_loopw [10] (fun i wr => ∃ (k : Nat) (E : List Sg), k ≤ ns ∧ i = .int .i64 k ∧ E.length = ns ∧ wr.ownsRow wx.heap.size 31 2 (.slice (some ⟨g, 0, none⟩) ns ns) ns (flat2 E) ∧ Below wx.heap.size wx wr) (fun i _ => ns - (intOf i).toNat)
  case atStart => exact ⟨0, _, by omega, rfl, List.length_replicate, HOA2.out, HBA.out⟩
  case round =>
    obtain ⟨k, E, hk, rfl, hE, hown, hbr⟩ := hrel
    by_cases hkn : k < ns
    · have hkn' : (k : Int) < (ns : Int) := by omega
      obtain ⟨b, off, rfl, hbl', hcz⟩ : ∃ b off, sa = some ⟨b, off, none⟩ ∧ b < wx.heap.size ∧ ∀ k, k < ns → ∃ z : Int, wx.cell? ⟨b, off + k, none⟩ = some (.int .i64 z) := by
        rcases HSG.out with h | h
        · omega
        · exact h
      obtain ⟨z, hz⟩ := hcz k hkn
      clear hcz
      have q1 : wr.cell? ⟨X, 1, none⟩ = some (.slice (some ⟨b, off, none⟩) ns cs) := (Below.cell hbr (p := ⟨X, 1, none⟩) hX).trans x1
      have qz : wr.cell? ⟨b, off + k, none⟩ = some (.int .i64 z) := (Below.cell hbr (p := ⟨b, off + k, none⟩) hbl').trans hz
      have HW : Hid _ := fun (u : Array Value) => And.intro hown (And.intro hbr hE)
      go_wp2
      refine wp_mono (reg23 wx.heap.size X b off ns cs k g z E wr hkn hns hX hbl' (Below.size hbr) hE q1 qz hown _ _ _ _ _ _ _ _ _ _ _ _ _ _ _ _ _ _ _ _ _ _ _ _ _ _ _ _ _ _ _ _ _ _ _ _ _ _ _ _ _ _ _ _ _ _ _ _ _ _ _ _ _ _ _ _ _ _ _ _ _ _ _ _ _ _ _ _ _ _ _ _ _ _ _ _ _ _ _ _ _ _ _ _ _ _ _ _ _ _ _ _ _ _ _ _ _ _ _ _ _ _ _ _ _ _ _ _ _ _ _ _ _ _ _ _ _ _ _ _ _ _ _ _ _) ?_
      rintro e aa w9 ⟨rfl, E9, ⟨hE9, ho9, hb9⟩, v85, v86, v87, v88, v89, v90, v91, v92, v93, v94, v95, rfl⟩
      have HO9 : Hid _ := ho9
      have HE9 : Hid _ := hE9
      have HB9 : Hid _ := Below.trans hbr hb9
      clear ho9 hb9 q1 qz hown hbr hE9 HW
      go_wp2
      go_roundw
      case rel => exact ⟨k + 1, E9, by omega, by go_num, HE9.out, HO9.out, HB9.out⟩
      case measure => simp [intOf]; omega
    · have hkn' : k = ns := by omega
      subst hkn'
      have hd : decide ((k : Int) < (k : Int)) = false := by simp
      have q4 : wr.cell? ⟨X, 4, none⟩ = some (.slice am nm cm) := (Below.cell hbr (p := ⟨X, 4, none⟩) hX).trans x4
      obtain ⟨W2, hcp, ho2, hb2⟩ := ints_copied (IsRowI.below HMI.out hbr) hnm
      have hbs := hbr.size
      have q42 : (wr.alloc (.cells (madeCells #[.int .i64 0] nm) 3)).cell? ⟨X, 4, none⟩ = some (.slice am nm cm) := (World.cell?_alloc_past _ _ _ (by omega)).trans q4
      have hbx2 : Below wx.heap.size wx W2 := hbr.trans (hb2.mono hbr.size)
      have how2 : W2.ownsRow wx.heap.size 31 2 (.slice (some ⟨g, 0, none⟩) k k) k (flat2 E) := own_any hown (fun g' hg' => hb2.block g' (World.ownsRow.lt hown g' hg').2)
      by_cases hm0 : nm = 0
      · have hd2 : ((nm : Int) == 0) = true := by rw [hm0]; rfl
        obtain ⟨i0, hi, hz0, hz1, hz2⟩ := parts info3
        have hown1 : (W2.alloc (.cells #[.int .i64 0] 3)).ownsRow wr.heap.size 3 1 (.slice (some ⟨wr.heap.size, 0, none⟩) nm nm) nm (zm.map (.int .i64)) := own_any ho2 (fun g' hg' => Below.heap_alloc W2 _ g' (World.ownsRow.lt ho2 g' hg').2)
        have hc1 : ∀ j u, ([.int .i64 0] : List Value)[j]? = some u → (W2.alloc (.cells #[.int .i64 0] 3)).cell? ((⟨W2.heap.size, 0, none⟩ : Addr).add j) = some u := fun j u hj => by
          rw [Go.WideShapes.add_plain, Nat.zero_add]
          exact (World.cell?_alloc_at _ _ _ _ rfl).trans (by simpa using hj)
        have hs2 := hb2.size
        have HFIN : Hid (∀ v' w1, w1.ownsRow wr.heap.size 3 1 v' (nm + 1) (zm.map (.int .i64) ++ [.int .i64 0]) → (W2.alloc (.cells #[.int .i64 0] 3)).grownBy w1 (Value.slice (some ⟨wr.heap.size, 0, none⟩) nm nm).ownBlock → ∃ a' c', v' = .slice a' (nm + 1) c' ∧ w1.ownsRow wx.heap.size 31 2 (.slice (some ⟨g, 0, none⟩) k k) k (flat2 E) ∧ Below wx.heap.size wx w1) := by
          intro v' w1 ho hg
          obtain ⟨g2, cp, rfl⟩ : ∃ g2 cp, v' = .slice (some ⟨g2, 0, none⟩) (nm + 1) cp := by
            rcases ho.2 with ⟨_, h0⟩ | ⟨g2, cp, cur, e1, _⟩
            · omega
            · exact ⟨g2, cp, e1⟩
          refine ⟨_, cp, rfl, ?_, Below.grown (hbx2.alloc hbx2.size _) hg (by simp; omega) (fun x hx => by cases hx; omega)⟩
          refine own_any how2 (fun g' hg' => ?_)
          have hl := (World.ownsRow.lt hown g' hg').2
          have hne : some g' ≠ (Value.slice (some ⟨wr.heap.size, 0, none⟩) nm nm).ownBlock := by
            intro e
            have h9 : g' = wr.heap.size := by simpa [Value.ownBlock] using e
            omega
          rw [hg.block g' (by simp; omega) hne, Below.heap_alloc W2 _ g' (by omega)]
        have HE : Hid _ := hE
        have HM0 : Hid _ := hm0
        clear hown how2 ho2 hb2 hbx2 hm0 hbr
        go_wp2_with (at_builtin; refine wpList_append_own _ rfl (.tmp 107) (.tmp 108) 24 rfl wr.heap.size 3 i0 _ 1 8 Ybaf.underlying24 hi hz0 hz1 hz2 rfl (by decide) _ nm (zm.map (.int .i64)) rfl hown1 ⟨W2.heap.size, 0, none⟩ 1 1 _ rfl rfl hc1 (fun u hu => by simp at hu; subst hu; rfl) (by unfold maxLen; omega) (by omega) (by simp; omega) ?_; intro v' w1 hown' hgrow _)
        obtain ⟨a', c', rfl, hoA, hbA⟩ := HFIN.out v' w1 hown' hgrow
        exact HALL.out _ hbA g a' (nm + 1) c' E HE.out hoA (by omega) _ _ _ _ _ _ _ _ _ _ _ _ _ _ _ _ _ _ _ _ _ _ _ _ _ _ _ _ _ _ _ _ _ _ _ _ _ _ _ _ _ _ _ _ _ _ _ _ _ _ _ _ _ _ _ _ _ _ _ _ _ _ _ _ _ _ _ _ _ _ _ _ _ _ _ _ _ _ _ _ _ _ _ _ _ _ _ _ _ _ _ _ _ _ _ _ _ _ _ _ _ _ _ _ _ _ _ _ _ _ _ _ _ _ _ _ _ _ _ _ _ _ _ _ _
      · have hd2 : ((nm : Int) == 0) = false := by rw [beq_eq_false_iff_ne]; omega
        have HE : Hid _ := hE
        have HO : Hid _ := how2
        have HB : Hid _ := hbx2
        clear hown how2 ho2 hb2 hbx2 hbr
        go_wp2
        exact HALL.out _ HB.out g _ nm nm E HE.out HO.out (by omega) _ _ _ _ _ _ _ _ _ _ _ _ _ _ _ _ _ _ _ _ _ _ _ _ _ _ _ _ _ _ _ _ _ _ _ _ _ _ _ _ _ _ _ _ _ _ _ _ _ _ _ _ _ _ _ _ _ _ _ _ _ _ _ _ _ _ _ _ _ _ _ _ _ _ _ _ _ _ _ _ _ _ _ _ _ _ _ _ _ _ _ _ _ _ _ _ _ _ _ _ _ _ _ _ _ _ _ _ _ _ _ _ _ _ _ _ _ _ _ _ _ _ _ _ _

end Go.Proofs.YbulkawzkFmt
