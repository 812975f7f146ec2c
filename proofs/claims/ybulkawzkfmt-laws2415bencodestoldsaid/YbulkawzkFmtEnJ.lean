import Derived.Test.YbulkawzkFmtEnI
namespace Go.Proofs.YbulkawzkFmt
open Go.RowKit Go.Extern.Stop Go.Stop Go.Extern
set_option linter.unusedVariables false

theorem set_end (A : List Sg) (m : Nat) (z e : Sg) : (A ++ List.replicate (m + 1) z).set A.length e = (A ++ [e]) ++ List.replicate m z := by
  rw [List.set_append_right _ _ (Nat.le_refl _), Nat.sub_self, List.replicate_succ, List.set_cons_zero, List.append_assoc]
  rfl
def SigAt (w : World) (g : Nat) (p : Vt) : Prop := p.1.len = 64 ∧ ∃ gx, p.1.ad = some ⟨gx, 0, none⟩ ∧ p.1.cap = 64 ∧ g < gx ∧ gx < w.heap.size ∧ p.2.length = 64 ∧ AllB p.2 ∧ ∀ j u, p.2[j]? = some u → w.cell? ⟨gx, j, none⟩ = some u

set_option maxRecDepth 100000 in
set_option maxHeartbeats 16000000 in
theorem pr4 (w0 wx : World) (X B0 : Nat) (rep inst view seed : Int) (hs : Bool) (blk : List Value) (sa am pa : Option Addr) (ns cs nm cm np cp : Nat) (zs zm : List Int) (pre : List Value) (g1 : Nat) (hp : PreB wx X B0 rep inst view seed hs blk sa am pa ns cs nm cm np cp zs zm pre g1) (hbel : Below w0.heap.size w0 wx) (hB0 : w0.heap.size ≤ B0) (F : Interp) (hF : F.answers wx.tape) (hmi : IsRowI wx am nm cm zm) (u0 u2 u4 u5 u6 u7 u8 u9 u10 u11 u12 u13 u14 u15 u16 u17 u18 u19 u20 u21 u22 u23 u24 u25 u26 u27 u28 u29 u30 u31 u32 u33 u34 u35 u36 u37 u38 u39 u40 u41 u42 u43 u44 u45 u46 u47 u48 u49 u50 u51 u52 u53 u54 u55 u56 u57 u58 u59 u60 u61 u62 u63 u64 u65 u66 u67 u68 u69 u70 u71 u72 u73 u74 u75 u76 u77 u78 u79 u80 u81 u82 u83 u84 u85 u86 u87 u88 u89 u90 u91 u92 u93 u94 u95 u96 u97 u98 u99 u100 u101 u102 u103 u104 u105 u106 u107 u108 u109 u110 u111 u112 u113 u114 u115 u116 u117 u118 u119 u120 u121 u122 u123 u124 u125 u126 u127 u128 u129 u130 u131 u132 u133 u134 u135 u136 u137 u138 u139 u140 u141 u142 u143 u144 u145 u146 u147 u148 u149 u150 u151 u152 u153 u154 u155 u156 u157 u158 u159 u160 u161 u162 u163 u164 u165 u166 u167 u168 u169 u170 u171 u172 u173 u174 u175 u176 u177 u178 u179 u180 u181 u182 u183 u184 u185 u186 u187 u188 u189 u190 u191 u192 u193 u194 : Value) :
    Code.wp Ybaf.prog (secondOf (secondOf (secondOf (secondOf (Ybaf.f3.body.getD .skip))))) (bodyPost Ybaf.prog Ybaf.f3 fun e w' => e = .returned (.bool true) ∧ Below w0.heap.size w0 w') { tmps := #[u0, .pointer (some ⟨X, 0, none⟩), u2, .slice (some ⟨g1, 0, none⟩) np np, u4, u5, u6, u7, u8, u9, u10, u11, u12, u13, u14, u15, u16, u17, u18, u19, u20, u21, u22, u23, u24, u25, u26, u27, u28, u29, u30, u31, u32, u33, u34, u35, u36, u37, u38, u39, u40, u41, u42, u43, u44, u45, u46, u47, u48, u49, u50, u51, u52, u53, u54, u55, u56, u57, u58, u59, u60, u61, u62, u63, u64, u65, u66, u67, u68, u69, u70, u71, u72, u73, u74, u75, u76, u77, u78, u79, u80, u81, u82, u83, u84, u85, u86, u87, u88, u89, u90, u91, u92, u93, u94, u95, u96, u97, u98, u99, u100, u101, u102, u103, u104, u105, u106, u107, u108, u109, u110, u111, u112, u113, u114, u115, u116, u117, u118, u119, u120, u121, u122, u123, u124, u125, u126, u127, u128, u129, u130, u131, u132, u133, u134, u135, u136, u137, u138, u139, u140, u141, u142, u143, u144, u145, u146, u147, u148, u149, u150, u151, u152, u153, u154, u155, u156, u157, u158, u159, u160, u161, u162, u163, u164, u165, u166, u167, u168, u169, u170, u171, u172, u173, u174, u175, u176, u177, u178, u179, u180, u181, u182, u183, u184, u185, u186, u187, u188, u189, u190, u191, u192, u193, u194], defers := [] } wx := by
  obtain ⟨RS, hRS⟩ : ∃ RS, RS = (secondOf (secondOf (secondOf (secondOf (secondOf (secondOf (Ybaf.f3.body.getD .skip))))))) := ⟨_, rfl⟩
  obtain ⟨T, hT⟩ : ∃ T, T = (Code.seq (firstOf (secondOf (secondOf (secondOf (secondOf (Ybaf.f3.body.getD .skip)))))) (Code.seq (firstOf (secondOf (secondOf (secondOf (secondOf (secondOf (Ybaf.f3.body.getD .skip))))))) RS)) := ⟨_, rfl⟩
  have hE : (secondOf (secondOf (secondOf (secondOf (Ybaf.f3.body.getD .skip))))) = T := by rw [hT, hRS]; rfl
  rw [hE]
  have HRS : Hid _ := hRS
  clear hE hRS
  dsimp only [Ybaf.f3, Option.getD, secondOf, firstOf] at hT
  subst hT
  dsimp only
  have hns := hp.inp.le.1
  have hmk := mk31 ns hns
  obtain ⟨g, hg⟩ : ∃ g, g = wx.heap.size := ⟨_, rfl⟩
  have HG : Hid _ := hg
  have HOA : Hid ((wx.alloc (.cells (madeCells #[.int .i64 0, .slice none 0 0] (ns * 2)) 31)).ownsRow wx.heap.size 31 2 (.slice (some ⟨g, 0, none⟩) ns ns) ns (flat2 (List.replicate ns ⟨0, none, 0, 0⟩))) := by show World.ownsRow _ _ _ _ _ _ _; rw [hg]; exact own31 wx ns hns
  have HBA : Hid (Below wx.heap.size wx (wx.alloc (.cells (madeCells #[.int .i64 0, .slice none 0 0] (ns * 2)) 31))) := (Below.refl _ _).alloc (Nat.le_refl _) _
  have hX : X < wx.heap.size := by have := hp.inp.lt; have := hp.b0; have := hp.g1l; omega
  have x4 := hp.inp.x4
  have HALL : Hid (∀ (w2 : World) (V : List Vt), Below wx.heap.size wx w2 → V.length = ns → w2.ownsRow wx.heap.size 31 2 (.slice (some ⟨g, 0, none⟩) ns ns) ns (flat2 (V.map Prod.fst)) → (∀ p ∈ V, SigAt w2 g p) → (∀ (x : Nat) (z : Int), x < ns → zs[x]? = some z → ∃ ad, V[x]? = some (⟨z, ad, 64, 64⟩, sigL seed x)) → ∀ (u0 u2 u5 u6 u7 u8 u9 u10 u11 u12 u13 u14 u15 u16 u17 u18 u19 u20 u21 u22 u23 u24 u25 u26 u27 u28 u29 u30 u31 u32 u33 u34 u35 u36 u37 u38 u39 u40 u41 u42 u43 u44 u45 u46 u47 u48 u49 u50 u51 u52 u53 u54 u55 u56 u57 u58 u59 u60 u61 u62 u63 u64 u65 u66 u67 u68 u69 u70 u71 u72 u73 u74 u75 u76 u77 u78 u79 u80 u81 u82 u83 u84 u85 u86 u87 u88 u89 u90 u91 u92 u93 u94 u95 u96 u97 u98 u99 u100 u101 u102 u103 u104 u105 u106 u107 u108 u109 u110 u111 u112 u113 u114 u115 u116 u117 u118 u119 u120 u121 u122 u123 u124 u125 u126 u127 u128 u129 u130 u131 u132 u133 u134 u135 u136 u137 u138 u139 u140 u141 u142 u143 u144 u145 u146 u147 u148 u149 u150 u151 u152 u153 u154 u155 u156 u157 u158 u159 u160 u161 u162 u163 u164 u165 u166 u167 u168 u169 u170 u171 u172 u173 u174 u175 u176 u177 u178 u179 u180 u181 u182 u183 u184 u185 u186 u187 u188 u189 u190 u191 u192 u193 u194 : Value), Code.wp Ybaf.prog RS (bodyPost Ybaf.prog Ybaf.f3 fun e w' => e = .returned (.bool true) ∧ Below w0.heap.size w0 w') { tmps := #[u0, .pointer (some ⟨X, 0, none⟩), u2, .slice (some ⟨g1, 0, none⟩) np np, .slice (some ⟨g, 0, none⟩) ns ns, u5, u6, u7, u8, u9, u10, u11, u12, u13, u14, u15, u16, u17, u18, u19, u20, u21, u22, u23, u24, u25, u26, u27, u28, u29, u30, u31, u32, u33, u34, u35, u36, u37, u38, u39, u40, u41, u42, u43, u44, u45, u46, u47, u48, u49, u50, u51, u52, u53, u54, u55, u56, u57, u58, u59, u60, u61, u62, u63, u64, u65, u66, u67, u68, u69, u70, u71, u72, u73, u74, u75, u76, u77, u78, u79, u80, u81, u82, u83, u84, u85, u86, u87, u88, u89, u90, u91, u92, u93, u94, u95, u96, u97, u98, u99, u100, u101, u102, u103, u104, u105, u106, u107, u108, u109, u110, u111, u112, u113, u114, u115, u116, u117, u118, u119, u120, u121, u122, u123, u124, u125, u126, u127, u128, u129, u130, u131, u132, u133, u134, u135, u136, u137, u138, u139, u140, u141, u142, u143, u144, u145, u146, u147, u148, u149, u150, u151, u152, u153, u154, u155, u156, u157, u158, u159, u160, u161, u162, u163, u164, u165, u166, u167, u168, u169, u170, u171, u172, u173, u174, u175, u176, u177, u178, u179, u180, u181, u182, u183, u184, u185, u186, u187, u188, u189, u190, u191, u192, u193, u194], defers := [] } w2) := by
    intro w2 V hb2 hV ho hsg hvt
    intros
    rw [HRS.out]
    have hg1 := hp.g1l
    have hgl := (World.ownsRow.lt ho g rfl).2
    refine pr6 w0 w2 X B0 rep inst view seed hs blk sa am pa ns cs nm cm np cp zs zm pre g1 g V ⟨hp.below hb2, rowS_of_own ho (by rw [List.length_map, hV]), ⟨hgl, by omega⟩, fun p hpV => ?_, hV, fun k z hz => hvt k z (by have := lt_of_get hz; rw [hp.inp.sgn.1] at this; exact this) hz⟩ (hbel.trans (hb2.mono hbel.size)) hB0 F (by rw [hb2.tape]; exact hF) (IsRowI.below hmi hb2) _ _ _ _ _ _ _ _ _ _ _ _ _ _ _ _ _ _ _ _ _ _ _ _ _ _ _ _ _ _ _ _ _ _ _ _ _ _ _ _ _ _ _ _ _ _ _ _ _ _ _ _ _ _ _ _ _ _ _ _ _ _ _ _ _ _ _ _ _ _ _ _ _ _ _ _ _ _ _ _ _ _ _ _ _ _ _ _ _ _ _ _ _ _ _ _ _ _ _ _ _ _ _ _ _ _ _ _ _ _ _ _ _ _ _ _ _ _ _ _ _ _ _ _ _ _ _ _ _ _ _ _ _ _ _ _ _ _ _ _ _ _ _ _ _ _ _ _ _ _ _ _ _ _ _ _ _ _ _ _ _ _ _ _ _ _ _ _ _ _ _ _ _ _ _ _ _ _ _ _ _ _ _ _ _ _ _ _ _ _ _ _
    obtain ⟨h1, gx, h2, h3, h4, h5, h6, h7, h8⟩ := hsg p hpV
    refine ⟨h1, .inr ⟨⟨gx, 0, none⟩, p.1.cap, by rw [h2], h6, fun _ => ⟨h5, by simp; omega⟩, fun j u hj => ?_, h7.one⟩⟩
    rw [Go.WideShapes.add_plain, Nat.zero_add]
    exact h8 j u hj
  have HP : Hid _ := hp
  clear hp hF hbel hmi
  go_wp2
  rw [← hg]
  clear hg
  generalize wx.alloc (.cells (madeCells #[.int .i64 0, .slice none 0 0] (ns * 2)) 31) = WA at *
  go_loopw [5] (fun i wr => ∃ (k : Nat) (V : List Vt), k ≤ ns ∧ i = .int .i64 k ∧ V.length = k ∧ wr.ownsRow wx.heap.size 31 2 (.slice (some ⟨g, 0, none⟩) ns ns) ns (flat2 (V.map Prod.fst ++ List.replicate (ns - k) ⟨0, none, 0, 0⟩)) ∧ (∀ p ∈ V, SigAt wr g p) ∧ (∀ (x : Nat) (z : Int), x < k → zs[x]? = some z → ∃ ad, V[x]? = some (⟨z, ad, 64, 64⟩, sigL seed x)) ∧ Below wx.heap.size wx wr) (fun i _ => ns - (intOf i).toNat)
  case atStart => exact ⟨0, [], by omega, rfl, rfl, by simpa using HOA.out, fun p hp => (by cases hp), fun x z hx => by omega, HBA.out⟩
  case round =>
    obtain ⟨k, V, hk, rfl, hV, hown, hsg, hvt, hbr⟩ := hrel
    have q1 : wr.cell? ⟨X, 35, none⟩ = some (.slice sa ns cs) := (Below.cell hbr (p := ⟨X, 35, none⟩) hX).trans x4
    by_cases hkn : k < ns
    · have hkn' : (k : Int) < (ns : Int) := by omega
      obtain ⟨z, hz⟩ : ∃ z, zs[k]? = some z := ⟨_, List.getElem?_eq_getElem (by rw [HP.out.inp.sgn.1]; exact hkn)⟩
      have hb0 := HP.out.b0
      have hg1 := HP.out.g1l
      have hin := HP.out.inp.kept (Kept.of_below hbr (by omega))
      obtain ⟨b, off, rfl, hbB, hbl, qz⟩ := hin.sgn.2 k z hz
      have q2 := hin.x5
      have hE : (V.map Prod.fst ++ List.replicate (ns - k) (⟨0, none, 0, 0⟩ : Sg)).length = ns := by simp; omega
      have hset : (V.map Prod.fst ++ List.replicate (ns - k) (⟨0, none, 0, 0⟩ : Sg)).set k ⟨z, some ⟨wr.heap.size, 0, none⟩, 64, 64⟩ = (V ++ [((⟨z, some ⟨wr.heap.size, 0, none⟩, 64, 64⟩ : Sg), sigL seed k)] : List Vt).map Prod.fst ++ List.replicate (ns - (k + 1)) ⟨0, none, 0, 0⟩ := by
        have := set_end (V.map Prod.fst) (ns - (k + 1)) ⟨0, none, 0, 0⟩ ⟨z, some ⟨wr.heap.size, 0, none⟩, 64, 64⟩
        rw [List.length_map, hV, show ns - (k + 1) + 1 = ns - k by omega] at this
        rw [this, List.map_append]
        rfl
      have HFIN : Hid (∀ w9, w9.ownsRow wx.heap.size 31 2 (.slice (some ⟨g, 0, none⟩) ns ns) ns (flat2 ((V.map Prod.fst ++ List.replicate (ns - k) (⟨0, none, 0, 0⟩ : Sg)).set k ⟨z, some ⟨wr.heap.size, 0, none⟩, 64, 64⟩)) → Kept wr.heap.size (some g) wr w9 → wr.heap.size < w9.heap.size → (∀ j u, (sigL seed k)[j]? = some u → w9.cell? ⟨wr.heap.size, j, none⟩ = some u) →
          ∃ V' : List Vt, V'.length = k + 1 ∧ w9.ownsRow wx.heap.size 31 2 (.slice (some ⟨g, 0, none⟩) ns ns) ns (flat2 (V'.map Prod.fst ++ List.replicate (ns - (k + 1)) ⟨0, none, 0, 0⟩)) ∧ (∀ p ∈ V', SigAt w9 g p) ∧ (∀ (x : Nat) (z : Int), x < k + 1 → zs[x]? = some z → ∃ ad, V'[x]? = some (⟨z, ad, 64, 64⟩, sigL seed x)) ∧ Below wx.heap.size wx w9) := by
        intro w9 ho9 hk9 hl9 hs9
        have hgw := HG.out
        have hgl := (World.ownsRow.lt hown g rfl).2
        rw [hset] at ho9
        refine ⟨V ++ [((⟨z, some ⟨wr.heap.size, 0, none⟩, 64, 64⟩ : Sg), sigL seed k)], by rw [List.length_append, hV]; rfl, ho9, fun p hp => ?_, fun x z' hx hz' => ?_, ?_⟩
        · rcases List.mem_append.1 hp with h | h
          · obtain ⟨h1, gx, h2, h3, h4, h5, h6, h7, h8⟩ := hsg p h
            exact ⟨h1, gx, h2, h3, h4, by omega, h6, h7, fun j u hj => (hk9.cell (p := ⟨gx, j, none⟩) h5 (by simp; omega)).trans (h8 j u hj)⟩
          · rw [List.mem_singleton.1 h]
            exact ⟨rfl, wr.heap.size, rfl, rfl, hgl, hl9, sigL_length _ _, allBsig _ _, hs9⟩
        · by_cases hxk : x = k
          · subst hxk
            rw [hz] at hz'
            cases hz'
            exact ⟨_, by rw [List.getElem?_append_right (by omega), hV, Nat.sub_self]; rfl⟩
          · obtain ⟨ad, had⟩ := hvt x z' (by omega) hz'
            exact ⟨ad, by rw [List.getElem?_append_left (by omega)]; exact had⟩
        · have hbs := hbr.size
          exact hbr.trans ⟨hk9.os, hk9.tape, hk9.output, hk9.size, fun y hy => hk9.block y (by omega) (by simp; omega)⟩
      have HGB : Hid (wx.heap.size ≤ g) := by have := HG.out; show _ ≤ _; omega
      clear hin hvt hsg hz hset
      go_wp2
      refine wp_mono (reg9 wx.heap.size X b off ns cs k g z seed _ wr hkn hns hX (by omega) HGB.out hE q1 q2 qz hown _ _ _ _ _ _ _ _ _ _ _ _ _ _ _ _ _ _ _ _ _ _ _ _ _ _ _ _ _ _ _ _ _ _ _ _ _ _ _ _ _ _ _ _ _ _ _ _ _ _ _ _ _ _ _ _ _ _ _ _ _ _ _ _ _ _ _ _ _ _ _ _ _ _ _ _ _ _ _ _ _ _ _ _ _ _ _ _ _ _ _ _ _ _ _ _ _ _ _ _ _ _ _ _ _ _ _ _ _ _ _ _ _ _ _ _ _ _ _ _ _ _ _ _ _ _ _ _ _ _ _ _ _ _ _ _ _ _ _ _ _ _ _ _ _ _ _ _ _ _ _ _ _ _ _ _ _ _ _ _ _ _ _ _ _ _ _ _ _ _ _ _ _ _ _ _ _ _ _ _ _ _ _ _ _ _ _ _ _ _ _ _) ?_
      rintro e aa w9 ⟨rfl, ⟨ho9, hk9, hl9, hs9⟩, v50, v51, v52, v53, v54, v55, v56, v57, v58, v59, v60, v61, v62, rfl⟩
      obtain ⟨V', h1, h2, h3, h4, h5⟩ := HFIN.out w9 ho9 hk9 hl9 hs9
      have HR : Hid _ := And.intro h1 (And.intro h2 (And.intro h3 (And.intro h4 h5)))
      clear h1 h2 h3 h4 h5 ho9 hk9 hl9 hs9 HFIN hown hE q1 q2 qz hbr hV
      go_wp2
      go_roundw
      case rel => exact ⟨k + 1, V', by omega, by go_num, HR.out.1, HR.out.2.1, HR.out.2.2.1, HR.out.2.2.2.1, HR.out.2.2.2.2⟩
      case measure => simp [intOf]; omega
    · have hkn' : k = ns := by omega
      subst hkn'
      have hd : decide ((k : Int) < (k : Int)) = false := by simp
      rw [Nat.sub_self, List.replicate_zero, List.append_nil] at hown
      have HR : Hid _ := And.intro hV (And.intro hown (And.intro hsg (And.intro hvt hbr)))
      clear hV hown hsg hvt hbr
      go_wp2
      exact HALL.out _ V HR.out.2.2.2.2 HR.out.1 HR.out.2.1 HR.out.2.2.1 HR.out.2.2.2.1 _ _ _ _ _ _ _ _ _ _ _ _ _ _ _ _ _ _ _ _ _ _ _ _ _ _ _ _ _ _ _ _ _ _ _ _ _ _ _ _ _ _ _ _ _ _ _ _ _ _ _ _ _ _ _ _ _ _ _ _ _ _ _ _ _ _ _ _ _ _ _ _ _ _ _ _ _ _ _ _ _ _ _ _ _ _ _ _ _ _ _ _ _ _ _ _ _ _ _ _ _ _ _ _ _ _ _ _ _ _ _ _ _ _ _ _ _ _ _ _ _ _ _ _ _ _ _ _ _ _ _ _ _ _ _ _ _ _ _ _ _ _ _ _ _ _ _ _ _ _ _ _ _ _ _ _ _ _ _ _ _ _ _ _ _ _ _ _ _ _ _ _ _ _ _ _ _ _ _ _ _ _ _ _ _ _ _ _ _ _ _ _

end Go.Proofs.YbulkawzkFmt
