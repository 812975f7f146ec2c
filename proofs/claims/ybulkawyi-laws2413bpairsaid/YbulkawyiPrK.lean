import Derived.Test.YbulkawyiPrJ
namespace Go.Proofs.Ybulkawyi
open Go.RowKit
attribute [local go_sem] run_store_float
set_option linter.unusedVariables false

set_option maxRecDepth 100000 in
set_option maxHeartbeats 16000000 in
theorem plook (T nb xb lb ta x0 y0 vx vy x1 y1 ux uy r2 base c dx dy xa ya xb' yb : Nat) (A : Int) (was wi : Bool) (w : World) (R : World → Prop) (ht : Trk w T nb xb lb ta x0 y0 vx vy x1 y1 ux uy r2) (he : Ent w T lb was) (hbase : base ≤ lb) (hA : N ta A)
    (ha : AtIs ta ta x0 y0 vx vy xa ya) (hb : AtIs ta ta x1 y1 ux uy xb' yb) (hg : GapIs xa ya xb' yb r2 dx dy c)
    (oc : (FloatKind.f64.format.order c 0 = some .lt ∧ wi = true) ∨ (FloatKind.f64.format.order c 0 = some .eq ∧ wi = true) ∨ (FloatKind.f64.format.order c 0 = some .gt ∧ wi = false))
    (hgo : ∀ w1, Trk w1 T nb xb lb ta x0 y0 vx vy x1 y1 ux uy r2 → Look base w w1 T lb ta was wi → ∀ (u4 u5 u6 u7 u15 u16 u17 u18 u19 u20 u21 u22 u23 u24 u25 u26 u27 u28 u29 u30 u31 u32 u33 u34 u35 u36 u37 u38 u39 u40 u41 u42 u43 u44 u45 u46 u47 u48 u49 u50 u51 u52 u53 u54 u55 u56 u57 u58 u59 u60 u61 u62 u63 u64 u65 u66 u67 u68 u69 u70 u71 u72 u73 u74 u75 u76 u77 u78 u79 u80 u81 u82 u83 u84 u85 u86 u87 u88 u89 u90 u91 u92 u93 u94 u95 u96 u97 u98 u99 u100 u101 u102 u103 u104 u105 u106 u107 u108 u109 u110 u111 u112 u113 u114 u115 u116 u117 u118 u119 u120 u121 u122 u123 u124 u125 u126 u127 u128 u129 u130 u131 u132 u133 u134 u135 u136 u137 u138 u139 u140 u141 u142 u143 u144 u145 u146 u147 u148 u149 u150 u151 u152 u153 u154 u155 u156 u157 u158 u159 u160 u161 u162 u163 u164 u165 u166 u167 u168 u169 u170 u171 u172 u173 u174 u175 u176 u177 u178 u179 u180 u181 u182 u183 u184 u185 u186 u187 u188 u189 u190 u191 u192 u193 u194 u195 u196 u197 u198 u199 u200 u201 u202 u203 u204 u205 u206 u207 u208 u209 u210 u211 u212 u213 u214 u215 u216 u217 u218 u219 u220 u221 u222 u223 u224 u225 u226 u227 u228 u229 u230 u231 u232 u233 u234 u235 u236 u237 u238 u239 u240 u241 u242 u243 u244 u245 u246 u247 u248 u249 u250 u251 u252 u253 u254 u255 u256 u257 u258 u259 u260 u261 u262 u263 u264 u265 u266 u267 u268 u269 u270 u271 u272 u273 u274 u275 u276 u277 u278 u279 u280 : Value),
      Code.wp Yba.prog (secondOf (secondOf (secondOf (secondOf (secondOf (Yba.f14.body.getD .skip)))))) (bodyPost Yba.prog Yba.f14 fun e w' => e = .returned (.tuple #[]) ∧ R w') { tmps := #[.pointer (some ⟨T, 0, none⟩), .int .i64 0, .int .i64 1, .float .f64 ta, u4, u5, u6, u7, .pointer (some ⟨nb, 0, none⟩), .pointer (some ⟨nb, 8, none⟩), .float .f64 dx, .float .f64 dy, .float .f64 c, .bool wi, .int .i64 1, u15, u16, u17, u18, u19, u20, u21, u22, u23, u24, u25, u26, u27, u28, u29, u30, u31, u32, u33, u34, u35, u36, u37, u38, u39, u40, u41, u42, u43, u44, u45, u46, u47, u48, u49, u50, u51, u52, u53, u54, u55, u56, u57, u58, u59, u60, u61, u62, u63, u64, u65, u66, u67, u68, u69, u70, u71, u72, u73, u74, u75, u76, u77, u78, u79, u80, u81, u82, u83, u84, u85, u86, u87, u88, u89, u90, u91, u92, u93, u94, u95, u96, u97, u98, u99, u100, u101, u102, u103, u104, u105, u106, u107, u108, u109, u110, u111, u112, u113, u114, u115, u116, u117, u118, u119, u120, u121, u122, u123, u124, u125, u126, u127, u128, u129, u130, u131, u132, u133, u134, u135, u136, u137, u138, u139, u140, u141, u142, u143, u144, u145, u146, u147, u148, u149, u150, u151, u152, u153, u154, u155, u156, u157, u158, u159, u160, u161, u162, u163, u164, u165, u166, u167, u168, u169, u170, u171, u172, u173, u174, u175, u176, u177, u178, u179, u180, u181, u182, u183, u184, u185, u186, u187, u188, u189, u190, u191, u192, u193, u194, u195, u196, u197, u198, u199, u200, u201, u202, u203, u204, u205, u206, u207, u208, u209, u210, u211, u212, u213, u214, u215, u216, u217, u218, u219, u220, u221, u222, u223, u224, u225, u226, u227, u228, u229, u230, u231, u232, u233, u234, u235, u236, u237, u238, u239, u240, u241, u242, u243, u244, u245, u246, u247, u248, u249, u250, u251, u252, u253, u254, u255, u256, u257, u258, u259, u260, u261, u262, u263, u264, u265, u266, u267, u268, u269, u270, u271, u272, u273, u274, u275, u276, u277, u278, u279, u280], defers := [] } w1) (u4 u5 u6 u7 u8 u9 u10 u11 u12 u13 u14 u15 u16 u17 u18 u19 u20 u21 u22 u23 u24 u25 u26 u27 u28 u29 u30 u31 u32 u33 u34 u35 u36 u37 u38 u39 u40 u41 u42 u43 u44 u45 u46 u47 u48 u49 u50 u51 u52 u53 u54 u55 u56 u57 u58 u59 u60 u61 u62 u63 u64 u65 u66 u67 u68 u69 u70 u71 u72 u73 u74 u75 u76 u77 u78 u79 u80 u81 u82 u83 u84 u85 u86 u87 u88 u89 u90 u91 u92 u93 u94 u95 u96 u97 u98 u99 u100 u101 u102 u103 u104 u105 u106 u107 u108 u109 u110 u111 u112 u113 u114 u115 u116 u117 u118 u119 u120 u121 u122 u123 u124 u125 u126 u127 u128 u129 u130 u131 u132 u133 u134 u135 u136 u137 u138 u139 u140 u141 u142 u143 u144 u145 u146 u147 u148 u149 u150 u151 u152 u153 u154 u155 u156 u157 u158 u159 u160 u161 u162 u163 u164 u165 u166 u167 u168 u169 u170 u171 u172 u173 u174 u175 u176 u177 u178 u179 u180 u181 u182 u183 u184 u185 u186 u187 u188 u189 u190 u191 u192 u193 u194 u195 u196 u197 u198 u199 u200 u201 u202 u203 u204 u205 u206 u207 u208 u209 u210 u211 u212 u213 u214 u215 u216 u217 u218 u219 u220 u221 u222 u223 u224 u225 u226 u227 u228 u229 u230 u231 u232 u233 u234 u235 u236 u237 u238 u239 u240 u241 u242 u243 u244 u245 u246 u247 u248 u249 u250 u251 u252 u253 u254 u255 u256 u257 u258 u259 u260 u261 u262 u263 u264 u265 u266 u267 u268 u269 u270 u271 u272 u273 u274 u275 u276 u277 u278 u279 u280 : Value) :
    Code.wp Yba.prog (Yba.f14.body.getD .skip) (bodyPost Yba.prog Yba.f14 fun e w' => e = .returned (.tuple #[]) ∧ R w') { tmps := #[.pointer (some ⟨T, 0, none⟩), .int .i64 0, .int .i64 1, .float .f64 ta, u4, u5, u6, u7, u8, u9, u10, u11, u12, u13, u14, u15, u16, u17, u18, u19, u20, u21, u22, u23, u24, u25, u26, u27, u28, u29, u30, u31, u32, u33, u34, u35, u36, u37, u38, u39, u40, u41, u42, u43, u44, u45, u46, u47, u48, u49, u50, u51, u52, u53, u54, u55, u56, u57, u58, u59, u60, u61, u62, u63, u64, u65, u66, u67, u68, u69, u70, u71, u72, u73, u74, u75, u76, u77, u78, u79, u80, u81, u82, u83, u84, u85, u86, u87, u88, u89, u90, u91, u92, u93, u94, u95, u96, u97, u98, u99, u100, u101, u102, u103, u104, u105, u106, u107, u108, u109, u110, u111, u112, u113, u114, u115, u116, u117, u118, u119, u120, u121, u122, u123, u124, u125, u126, u127, u128, u129, u130, u131, u132, u133, u134, u135, u136, u137, u138, u139, u140, u141, u142, u143, u144, u145, u146, u147, u148, u149, u150, u151, u152, u153, u154, u155, u156, u157, u158, u159, u160, u161, u162, u163, u164, u165, u166, u167, u168, u169, u170, u171, u172, u173, u174, u175, u176, u177, u178, u179, u180, u181, u182, u183, u184, u185, u186, u187, u188, u189, u190, u191, u192, u193, u194, u195, u196, u197, u198, u199, u200, u201, u202, u203, u204, u205, u206, u207, u208, u209, u210, u211, u212, u213, u214, u215, u216, u217, u218, u219, u220, u221, u222, u223, u224, u225, u226, u227, u228, u229, u230, u231, u232, u233, u234, u235, u236, u237, u238, u239, u240, u241, u242, u243, u244, u245, u246, u247, u248, u249, u250, u251, u252, u253, u254, u255, u256, u257, u258, u259, u260, u261, u262, u263, u264, u265, u266, u267, u268, u269, u270, u271, u272, u273, u274, u275, u276, u277, u278, u279, u280], defers := [] } w := by
  obtain ⟨RS, hRS⟩ : ∃ RS, RS = (secondOf (secondOf (secondOf (secondOf (secondOf (Yba.f14.body.getD .skip)))))) := ⟨_, rfl⟩
  obtain ⟨TT, hTT⟩ : ∃ TT, TT = (Code.seq (firstOf (Yba.f14.body.getD .skip)) (Code.seq (firstOf (secondOf (Yba.f14.body.getD .skip))) (Code.seq (firstOf (secondOf (secondOf (Yba.f14.body.getD .skip)))) (Code.seq (firstOf (secondOf (secondOf (secondOf (Yba.f14.body.getD .skip))))) (Code.seq (firstOf (secondOf (secondOf (secondOf (secondOf (Yba.f14.body.getD .skip)))))) RS))))) := ⟨_, rfl⟩
  have hE : (Yba.f14.body.getD .skip) = TT := by rw [hTT, hRS]; rfl
  rw [hE]
  have HRS : Hid _ := hRS
  clear hE hRS
  dsimp only [Yba.f14, Option.getD, secondOf, firstOf] at hTT
  subst hTT
  dsimp only
  obtain ⟨i0, hi, hz0, hz1, hz2⟩ := info_parts info74
  have HG : Hid _ := fun q => gap_calls T nb 0 8 ta ta x0 y0 vx vy ta x1 y1 ux uy xa ya xb' yb r2 dx dy c _ (w.drewN q) hA (ht.ma.drew q) (ht.mb.drew q) ht.r2 ha hb hg
  have HT : Hid _ := ht
  have HE : Hid _ := he
  have HB : Hid _ := hbase
  have HGO : Hid _ := hgo
  have HI : Hid _ := And.intro hi (And.intro hz0 (And.intro hz1 hz2))
  have nodes := ht.nodes
  clear hi hz0 hz1 hz2 ht he hbase hgo ha hb hg hA
  go_wp2_with fail
  go_quiet (fail)
  all_goals
    go_wp2_with fail
    refine Calls.mono (HG.out _) ?_
    rintro e w1 ⟨rfl, q2, rfl⟩
    dsimp only
    generalize hz : World.drewN (World.drewN w _) q2 = wz
    have htz : Trk wz T nb xb lb ta x0 y0 vx vy x1 y1 ux uy r2 := by rw [← hz]; exact (HT.out.drew _).drew _
    have hez : Ent wz T lb was := by rw [← hz]; exact (HE.out.drew _).drew _
    have HL : Hid (∀ w1, Look base wz w1 T lb ta was wi → Look base w w1 T lb ta was wi) := by rw [← hz]; exact fun w1 h => h.undrew.undrew
    clear hz nodes HG
    rcases oc with ⟨o, rfl⟩ | ⟨o, rfl⟩ | ⟨o, rfl⟩
    · cases was
      · have HLK : Hid _ := fun w1 g cap hown hbel => look_of (w1 := w1) (g := g) (cap := cap) htz hez HB.out (was := false) (wi := true) (by decide) hown hbel
        have k1 := hez.l1
        have k9 := htz.ln
        have k0 := htz.n
        have kr := hez.rd
        have fl := hez.fl 1
        have HTZ : Hid _ := htz
        have HEZ : Hid _ := hez
        have hlT : lb ≠ T := Nat.ne_of_lt htz.ltl
        have hlt := htz.lt
        clear htz hez HT HE HB
        have kr' : (wz.setCell ⟨lb, 1, none⟩ (.bool true)).cell? ⟨T, 19, none⟩ = some (.slice none 0 0) := by rw [cset_block hlT]; exact kr
        obtain ⟨hi, hz0, hz1, hz2⟩ := HI.out
        have HNEW : Hid (∀ j u, (chg ta true)[j]? = some u → ((wz.setCell ⟨lb, 1, none⟩ (.bool true)).alloc (.cells #[.float .f64 ta, .int .i64 0, .int .i64 1, .bool true] 74)).cell? ((⟨wz.heap.size, 0, none⟩ : Addr).add j) = some u) := fun j u h => cells_laid _ _ (by simp) _ (chg ta true) j u h
        have fT := HTZ.out.fT 19
        go_wp2_with (at_builtin; refine wpList_append_own _ rfl _ _ 69 rfl wz.heap.size 74 i0 _ 4 32 Yba.underlying69 hi hz0 hz1 hz2 rfl (by decide) _ 0 [] rfl (World.ownsRow_nil _ _ _ _) ⟨wz.heap.size, 0, none⟩ 1 1 (chg ta true) rfl rfl HNEW.out (by simp [chg, Value.oneCell']) (by decide) (by decide) (by simp) ?_)
        intro v' w1 hown hgrow _
        have ho : w1.ownsRow wz.heap.size 74 4 v' 1 (chg ta true) := by simpa using hown
        have hbel : Below wz.heap.size (wz.setCell ⟨lb, 1, none⟩ (.bool true)) w1 := by
          refine ((Below.refl _ _).alloc (by simp) _).grown hgrow ?_ ?_
          · simp
          · intro k hk; cases hk
        clear hown hgrow HNEW
        rcases ho.2 with ⟨_, h0⟩ | ⟨g, cap, cur, hv, _⟩
        · cases h0
        · subst hv
          have q1 : w1.cell? ⟨T, 19, none⟩ = some (.slice none 0 0) := (hbel.cell (p := ⟨T, 19, none⟩) hlt).trans kr'
          have q2 : w1.frozen? ⟨T, 19, none⟩ = false := by rw [hbel.frozen (p := ⟨T, 19, none⟩) hlt, fset]; exact fT
          have hlk := HLK.out w1 g cap ho hbel
          have HALL : Hid _ := HGO.out _ hlk.1 (HL.out _ hlk.2)
          clear ho hbel hlk HGO HL HLK HTZ HEZ hi hz0 hz1 hz2 HI
          go_wp2_with fail
          (try simp only [Exit.inBlock, Exit.then])
          rw [HRS.out]
          exact HALL.out _ _ _ _ _ _ _ _ _ _ _ _ _ _ _ _ _ _ _ _ _ _ _ _ _ _ _ _ _ _ _ _ _ _ _ _ _ _ _ _ _ _ _ _ _ _ _ _ _ _ _ _ _ _ _ _ _ _ _ _ _ _ _ _ _ _ _ _ _ _ _ _ _ _ _ _ _ _ _ _ _ _ _ _ _ _ _ _ _ _ _ _ _ _ _ _ _ _ _ _ _ _ _ _ _ _ _ _ _ _ _ _ _ _ _ _ _ _ _ _ _ _ _ _ _ _ _ _ _ _ _ _ _ _ _ _ _ _ _ _ _ _ _ _ _ _ _ _ _ _ _ _ _ _ _ _ _ _ _ _ _ _ _ _ _ _ _ _ _ _ _ _ _ _ _ _ _ _ _ _ _ _ _ _ _ _ _ _ _ _ _ _ _ _ _ _ _ _ _ _ _ _ _ _ _ _ _ _ _ _ _ _ _ _ _ _ _ _ _ _ _ _ _ _ _ _ _ _ _ _ _ _ _ _ _ _ _ _ _ _ _ _ _ _ _ _ _ _ _ _ _ _ _ _ _ _ _ _ _ _ _ _ _ _ _ _ _ _ _ _
      · have HALL : Hid _ := HGO.out _ htz (HL.out _ hez.same)
        have k1 := hez.l1
        have k9 := htz.ln
        have k0 := htz.n
        clear htz hez HT HE HGO HL HB
        go_wp2_with fail
        (try simp only [Exit.inBlock, Exit.then])
        rw [HRS.out]
        exact HALL.out _ _ _ _ _ _ _ _ _ _ _ _ _ _ _ _ _ _ _ _ _ _ _ _ _ _ _ _ _ _ _ _ _ _ _ _ _ _ _ _ _ _ _ _ _ _ _ _ _ _ _ _ _ _ _ _ _ _ _ _ _ _ _ _ _ _ _ _ _ _ _ _ _ _ _ _ _ _ _ _ _ _ _ _ _ _ _ _ _ _ _ _ _ _ _ _ _ _ _ _ _ _ _ _ _ _ _ _ _ _ _ _ _ _ _ _ _ _ _ _ _ _ _ _ _ _ _ _ _ _ _ _ _ _ _ _ _ _ _ _ _ _ _ _ _ _ _ _ _ _ _ _ _ _ _ _ _ _ _ _ _ _ _ _ _ _ _ _ _ _ _ _ _ _ _ _ _ _ _ _ _ _ _ _ _ _ _ _ _ _ _ _ _ _ _ _ _ _ _ _ _ _ _ _ _ _ _ _ _ _ _ _ _ _ _ _ _ _ _ _ _ _ _ _ _ _ _ _ _ _ _ _ _ _ _ _ _ _ _ _ _ _ _ _ _ _ _ _ _ _ _ _ _ _ _ _ _ _ _ _ _ _ _ _ _ _ _ _ _ _
    · cases was
      · have HLK : Hid _ := fun w1 g cap hown hbel => look_of (w1 := w1) (g := g) (cap := cap) htz hez HB.out (was := false) (wi := true) (by decide) hown hbel
        have k1 := hez.l1
        have k9 := htz.ln
        have k0 := htz.n
        have kr := hez.rd
        have fl := hez.fl 1
        have HTZ : Hid _ := htz
        have HEZ : Hid _ := hez
        have hlT : lb ≠ T := Nat.ne_of_lt htz.ltl
        have hlt := htz.lt
        clear htz hez HT HE HB
        have kr' : (wz.setCell ⟨lb, 1, none⟩ (.bool true)).cell? ⟨T, 19, none⟩ = some (.slice none 0 0) := by rw [cset_block hlT]; exact kr
        obtain ⟨hi, hz0, hz1, hz2⟩ := HI.out
        have HNEW : Hid (∀ j u, (chg ta true)[j]? = some u → ((wz.setCell ⟨lb, 1, none⟩ (.bool true)).alloc (.cells #[.float .f64 ta, .int .i64 0, .int .i64 1, .bool true] 74)).cell? ((⟨wz.heap.size, 0, none⟩ : Addr).add j) = some u) := fun j u h => cells_laid _ _ (by simp) _ (chg ta true) j u h
        have fT := HTZ.out.fT 19
        go_wp2_with (at_builtin; refine wpList_append_own _ rfl _ _ 69 rfl wz.heap.size 74 i0 _ 4 32 Yba.underlying69 hi hz0 hz1 hz2 rfl (by decide) _ 0 [] rfl (World.ownsRow_nil _ _ _ _) ⟨wz.heap.size, 0, none⟩ 1 1 (chg ta true) rfl rfl HNEW.out (by simp [chg, Value.oneCell']) (by decide) (by decide) (by simp) ?_)
        intro v' w1 hown hgrow _
        have ho : w1.ownsRow wz.heap.size 74 4 v' 1 (chg ta true) := by simpa using hown
        have hbel : Below wz.heap.size (wz.setCell ⟨lb, 1, none⟩ (.bool true)) w1 := by
          refine ((Below.refl _ _).alloc (by simp) _).grown hgrow ?_ ?_
          · simp
          · intro k hk; cases hk
        clear hown hgrow HNEW
        rcases ho.2 with ⟨_, h0⟩ | ⟨g, cap, cur, hv, _⟩
        · cases h0
        · subst hv
          have q1 : w1.cell? ⟨T, 19, none⟩ = some (.slice none 0 0) := (hbel.cell (p := ⟨T, 19, none⟩) hlt).trans kr'
          have q2 : w1.frozen? ⟨T, 19, none⟩ = false := by rw [hbel.frozen (p := ⟨T, 19, none⟩) hlt, fset]; exact fT
          have hlk := HLK.out w1 g cap ho hbel
          have HALL : Hid _ := HGO.out _ hlk.1 (HL.out _ hlk.2)
          clear ho hbel hlk HGO HL HLK HTZ HEZ hi hz0 hz1 hz2 HI
          go_wp2_with fail
          (try simp only [Exit.inBlock, Exit.then])
          rw [HRS.out]
          exact HALL.out _ _ _ _ _ _ _ _ _ _ _ _ _ _ _ _ _ _ _ _ _ _ _ _ _ _ _ _ _ _ _ _ _ _ _ _ _ _ _ _ _ _ _ _ _ _ _ _ _ _ _ _ _ _ _ _ _ _ _ _ _ _ _ _ _ _ _ _ _ _ _ _ _ _ _ _ _ _ _ _ _ _ _ _ _ _ _ _ _ _ _ _ _ _ _ _ _ _ _ _ _ _ _ _ _ _ _ _ _ _ _ _ _ _ _ _ _ _ _ _ _ _ _ _ _ _ _ _ _ _ _ _ _ _ _ _ _ _ _ _ _ _ _ _ _ _ _ _ _ _ _ _ _ _ _ _ _ _ _ _ _ _ _ _ _ _ _ _ _ _ _ _ _ _ _ _ _ _ _ _ _ _ _ _ _ _ _ _ _ _ _ _ _ _ _ _ _ _ _ _ _ _ _ _ _ _ _ _ _ _ _ _ _ _ _ _ _ _ _ _ _ _ _ _ _ _ _ _ _ _ _ _ _ _ _ _ _ _ _ _ _ _ _ _ _ _ _ _ _ _ _ _ _ _ _ _ _ _ _ _ _ _ _ _ _ _ _ _ _ _
      · have HALL : Hid _ := HGO.out _ htz (HL.out _ hez.same)
        have k1 := hez.l1
        have k9 := htz.ln
        have k0 := htz.n
        clear htz hez HT HE HGO HL HB
        go_wp2_with fail
        (try simp only [Exit.inBlock, Exit.then])
        rw [HRS.out]
        exact HALL.out _ _ _ _ _ _ _ _ _ _ _ _ _ _ _ _ _ _ _ _ _ _ _ _ _ _ _ _ _ _ _ _ _ _ _ _ _ _ _ _ _ _ _ _ _ _ _ _ _ _ _ _ _ _ _ _ _ _ _ _ _ _ _ _ _ _ _ _ _ _ _ _ _ _ _ _ _ _ _ _ _ _ _ _ _ _ _ _ _ _ _ _ _ _ _ _ _ _ _ _ _ _ _ _ _ _ _ _ _ _ _ _ _ _ _ _ _ _ _ _ _ _ _ _ _ _ _ _ _ _ _ _ _ _ _ _ _ _ _ _ _ _ _ _ _ _ _ _ _ _ _ _ _ _ _ _ _ _ _ _ _ _ _ _ _ _ _ _ _ _ _ _ _ _ _ _ _ _ _ _ _ _ _ _ _ _ _ _ _ _ _ _ _ _ _ _ _ _ _ _ _ _ _ _ _ _ _ _ _ _ _ _ _ _ _ _ _ _ _ _ _ _ _ _ _ _ _ _ _ _ _ _ _ _ _ _ _ _ _ _ _ _ _ _ _ _ _ _ _ _ _ _ _ _ _ _ _ _ _ _ _ _ _ _ _ _ _ _ _ _
    · cases was
      · have HALL : Hid _ := HGO.out _ htz (HL.out _ hez.same)
        have k1 := hez.l1
        have k9 := htz.ln
        have k0 := htz.n
        clear htz hez HT HE HGO HL HB
        go_wp2_with fail
        (try simp only [Exit.inBlock, Exit.then])
        rw [HRS.out]
        exact HALL.out _ _ _ _ _ _ _ _ _ _ _ _ _ _ _ _ _ _ _ _ _ _ _ _ _ _ _ _ _ _ _ _ _ _ _ _ _ _ _ _ _ _ _ _ _ _ _ _ _ _ _ _ _ _ _ _ _ _ _ _ _ _ _ _ _ _ _ _ _ _ _ _ _ _ _ _ _ _ _ _ _ _ _ _ _ _ _ _ _ _ _ _ _ _ _ _ _ _ _ _ _ _ _ _ _ _ _ _ _ _ _ _ _ _ _ _ _ _ _ _ _ _ _ _ _ _ _ _ _ _ _ _ _ _ _ _ _ _ _ _ _ _ _ _ _ _ _ _ _ _ _ _ _ _ _ _ _ _ _ _ _ _ _ _ _ _ _ _ _ _ _ _ _ _ _ _ _ _ _ _ _ _ _ _ _ _ _ _ _ _ _ _ _ _ _ _ _ _ _ _ _ _ _ _ _ _ _ _ _ _ _ _ _ _ _ _ _ _ _ _ _ _ _ _ _ _ _ _ _ _ _ _ _ _ _ _ _ _ _ _ _ _ _ _ _ _ _ _ _ _ _ _ _ _ _ _ _ _ _ _ _ _ _ _ _ _ _ _ _ _
      · have HLK : Hid _ := fun w1 g cap hown hbel => look_of (w1 := w1) (g := g) (cap := cap) htz hez HB.out (was := true) (wi := false) (by decide) hown hbel
        have k1 := hez.l1
        have k9 := htz.ln
        have k0 := htz.n
        have kr := hez.rd
        have fl := hez.fl 1
        have HTZ : Hid _ := htz
        have HEZ : Hid _ := hez
        have hlT : lb ≠ T := Nat.ne_of_lt htz.ltl
        have hlt := htz.lt
        clear htz hez HT HE HB
        have kr' : (wz.setCell ⟨lb, 1, none⟩ (.bool false)).cell? ⟨T, 19, none⟩ = some (.slice none 0 0) := by rw [cset_block hlT]; exact kr
        obtain ⟨hi, hz0, hz1, hz2⟩ := HI.out
        have HNEW : Hid (∀ j u, (chg ta false)[j]? = some u → ((wz.setCell ⟨lb, 1, none⟩ (.bool false)).alloc (.cells #[.float .f64 ta, .int .i64 0, .int .i64 1, .bool false] 74)).cell? ((⟨wz.heap.size, 0, none⟩ : Addr).add j) = some u) := fun j u h => cells_laid _ _ (by simp) _ (chg ta false) j u h
        have fT := HTZ.out.fT 19
        go_wp2_with (at_builtin; refine wpList_append_own _ rfl _ _ 69 rfl wz.heap.size 74 i0 _ 4 32 Yba.underlying69 hi hz0 hz1 hz2 rfl (by decide) _ 0 [] rfl (World.ownsRow_nil _ _ _ _) ⟨wz.heap.size, 0, none⟩ 1 1 (chg ta false) rfl rfl HNEW.out (by simp [chg, Value.oneCell']) (by decide) (by decide) (by simp) ?_)
        intro v' w1 hown hgrow _
        have ho : w1.ownsRow wz.heap.size 74 4 v' 1 (chg ta false) := by simpa using hown
        have hbel : Below wz.heap.size (wz.setCell ⟨lb, 1, none⟩ (.bool false)) w1 := by
          refine ((Below.refl _ _).alloc (by simp) _).grown hgrow ?_ ?_
          · simp
          · intro k hk; cases hk
        clear hown hgrow HNEW
        rcases ho.2 with ⟨_, h0⟩ | ⟨g, cap, cur, hv, _⟩
        · cases h0
        · subst hv
          have q1 : w1.cell? ⟨T, 19, none⟩ = some (.slice none 0 0) := (hbel.cell (p := ⟨T, 19, none⟩) hlt).trans kr'
          have q2 : w1.frozen? ⟨T, 19, none⟩ = false := by rw [hbel.frozen (p := ⟨T, 19, none⟩) hlt, fset]; exact fT
          have hlk := HLK.out w1 g cap ho hbel
          have HALL : Hid _ := HGO.out _ hlk.1 (HL.out _ hlk.2)
          clear ho hbel hlk HGO HL HLK HTZ HEZ hi hz0 hz1 hz2 HI
          go_wp2_with fail
          (try simp only [Exit.inBlock, Exit.then])
          rw [HRS.out]
          exact HALL.out _ _ _ _ _ _ _ _ _ _ _ _ _ _ _ _ _ _ _ _ _ _ _ _ _ _ _ _ _ _ _ _ _ _ _ _ _ _ _ _ _ _ _ _ _ _ _ _ _ _ _ _ _ _ _ _ _ _ _ _ _ _ _ _ _ _ _ _ _ _ _ _ _ _ _ _ _ _ _ _ _ _ _ _ _ _ _ _ _ _ _ _ _ _ _ _ _ _ _ _ _ _ _ _ _ _ _ _ _ _ _ _ _ _ _ _ _ _ _ _ _ _ _ _ _ _ _ _ _ _ _ _ _ _ _ _ _ _ _ _ _ _ _ _ _ _ _ _ _ _ _ _ _ _ _ _ _ _ _ _ _ _ _ _ _ _ _ _ _ _ _ _ _ _ _ _ _ _ _ _ _ _ _ _ _ _ _ _ _ _ _ _ _ _ _ _ _ _ _ _ _ _ _ _ _ _ _ _ _ _ _ _ _ _ _ _ _ _ _ _ _ _ _ _ _ _ _ _ _ _ _ _ _ _ _ _ _ _ _ _ _ _ _ _ _ _ _ _ _ _ _ _ _ _ _ _ _ _ _ _ _ _ _ _ _ _ _ _ _ _
end Go.Proofs.Ybulkawyi
