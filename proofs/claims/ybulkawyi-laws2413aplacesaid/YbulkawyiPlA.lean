import Derived.Test.YbulkawyiPlP
namespace Go.Proofs.Ybulkawyi
open Go.RowKit
set_option linter.unusedVariables false
attribute [local go_sem] run_store_float

set_option maxRecDepth 100000 in
set_option maxHeartbeats 16000000 in
theorem pl25 (w0 wx : World) (N B : Nat) (ao an : Option Addr) (nO nN cN : Nat) (L L' : List Nb) (o : Nb) (hctx : Ctx w0 wx N B ao an nO nN cN L L' o) (K : List Nb) (ak : Option Addr) (nK cK j : Nat) (hK : RowAt wx ak nK K) (hlK : K.length = nK) (hn5 : nK ≤ 5) (hj : j ≤ nK) (hlo : ∀ k b, k < j → K[k]? = some b → L'[k]? = some b) (hhi : ∀ k b, j ≤ k → K[k]? = some b → L'[k + 1]? = some b) (u0 u1 u2 u3 u4 u5 u6 u7 u8 u9 u11 u12 u13 u14 u16 u18 u20 u21 u22 u23 u24 u25 u26 u27 u28 u29 u30 u31 u32 u33 u34 u35 u36 u37 u38 u39 u40 u41 u42 u43 u44 u45 u46 u47 u48 u49 u50 u51 u52 u53 u54 u55 u56 u57 u58 u59 u60 u61 u62 u63 u64 u65 u66 u67 u68 u69 u70 u71 u72 u73 u74 u75 u76 u77 u78 u79 u80 u81 u82 u83 u84 u85 u86 u87 u88 u89 u90 u91 u92 u93 u94 u95 u96 u97 u98 u99 u100 u101 u102 u103 u104 u105 u106 u107 u108 u109 u110 u111 u112 u113 u114 u115 u116 u117 u118 u119 u120 u121 u122 u123 u124 u125 u126 u127 u128 u129 u130 u131 u132 u133 u134 u135 u136 u137 u138 u139 u140 u141 u142 u143 u144 u145 u146 u147 u148 u149 u150 u151 u152 u153 u154 u155 u156 u157 u158 u159 u160 u161 u162 u163 u164 u165 u166 u167 u168 u169 u170 u171 u172 u173 u174 u175 u176 u177 u178 u179 u180 u181 u182 u183 u184 u185 u186 u187 u188 u189 u190 u191 u192 u193 u194 u195 u196 u197 u198 u199 u200 u201 u202 u203 u204 u205 u206 u207 u208 u209 u210 u211 u212 u213 u214 u215 u216 u217 u218 u219 u220 u221 u222 u223 u224 u225 u226 u227 u228 u229 u230 u231 u232 u233 u234 u235 u236 u237 u238 u239 u240 u241 u242 u243 u244 u245 u246 u247 u248 u249 u250 u251 u252 u253 u254 u255 u256 u257 u258 u259 u260 u261 u262 u263 u264 u265 u266 u267 u268 u269 u270 u271 u272 u273 u274 u275 u276 u277 u278 u279 u280 u281 u282 : Value) :
    Code.wp Yba.prog (secondOf (secondOf (secondOf (secondOf (secondOf (secondOf (secondOf (secondOf (secondOf (secondOf (secondOf (secondOf (secondOf (secondOf (secondOf (secondOf (secondOf (secondOf (secondOf (secondOf (secondOf (secondOf (secondOf (secondOf (secondOf (Yba.f3.body.getD .skip)))))))))))))))))))))))))) (bodyPost Yba.prog Yba.f3 fun e w' => e = .returned (.bool true) ∧ Below w0.heap.size w0 w') { tmps := #[u0, u1, u2, u3, u4, u5, u6, u7, u8, u9, .pointer (some ⟨B, 0, none⟩), u11, u12, u13, u14, .slice ak nK cK, u16, .slice an nN cN, u18, .int .i64 j, u20, u21, u22, u23, u24, u25, u26, u27, u28, u29, u30, u31, u32, u33, u34, u35, u36, u37, u38, u39, u40, u41, u42, u43, u44, u45, u46, u47, u48, u49, u50, u51, u52, u53, u54, u55, u56, u57, u58, u59, u60, u61, u62, u63, u64, u65, u66, u67, u68, u69, u70, u71, u72, u73, u74, u75, u76, u77, u78, u79, u80, u81, u82, u83, u84, u85, u86, u87, u88, u89, u90, u91, u92, u93, u94, u95, u96, u97, u98, u99, u100, u101, u102, u103, u104, u105, u106, u107, u108, u109, u110, u111, u112, u113, u114, u115, u116, u117, u118, u119, u120, u121, u122, u123, u124, u125, u126, u127, u128, u129, u130, u131, u132, u133, u134, u135, u136, u137, u138, u139, u140, u141, u142, u143, u144, u145, u146, u147, u148, u149, u150, u151, u152, u153, u154, u155, u156, u157, u158, u159, u160, u161, u162, u163, u164, u165, u166, u167, u168, u169, u170, u171, u172, u173, u174, u175, u176, u177, u178, u179, u180, u181, u182, u183, u184, u185, u186, u187, u188, u189, u190, u191, u192, u193, u194, u195, u196, u197, u198, u199, u200, u201, u202, u203, u204, u205, u206, u207, u208, u209, u210, u211, u212, u213, u214, u215, u216, u217, u218, u219, u220, u221, u222, u223, u224, u225, u226, u227, u228, u229, u230, u231, u232, u233, u234, u235, u236, u237, u238, u239, u240, u241, u242, u243, u244, u245, u246, u247, u248, u249, u250, u251, u252, u253, u254, u255, u256, u257, u258, u259, u260, u261, u262, u263, u264, u265, u266, u267, u268, u269, u270, u271, u272, u273, u274, u275, u276, u277, u278, u279, u280, u281, u282], defers := [] } wx := by
  obtain ⟨T, hT⟩ : ∃ T, T = (secondOf (secondOf (secondOf (secondOf (secondOf (secondOf (secondOf (secondOf (secondOf (secondOf (secondOf (secondOf (secondOf (secondOf (secondOf (secondOf (secondOf (secondOf (secondOf (secondOf (secondOf (secondOf (secondOf (secondOf (secondOf (Yba.f3.body.getD .skip)))))))))))))))))))))))))) := ⟨_, rfl⟩
  rw [← hT]
  dsimp only [Yba.f3, Option.getD, secondOf, firstOf] at hT
  subst hT
  dsimp only
  go_wp2
  go_loopw [263] (fun i wr => ∃ k : Nat, k ≤ nK ∧ i = .int .i64 k ∧ Below wx.heap.size wx wr) (fun i _ => nK - (intOf i).toNat)
  case atStart => exact ⟨0, by omega, rfl, Below.refl _ _⟩
  case round =>
    obtain ⟨k, hk, rfl, hbr⟩ := hrel
    by_cases hkn : k < nK
    · have hkn' : (k : Int) < (nK : Int) := by omega
      obtain ⟨b, hKb⟩ : ∃ b, K[k]? = some b := ⟨_, List.getElem?_eq_getElem (by omega)⟩
      by_cases hjk : j ≤ k
      · have hjk' : (j : Int) ≤ (k : Int) := by omega
        obtain ⟨k1, hk1⟩ : ∃ k1 : Nat, k1 = k + 1 := ⟨_, rfl⟩
        have hk1' : (k : Int) + 1 = (k1 : Int) := by omega
        have hL := (by rw [hk1]; exact hhi k b hjk hKb : L'[k1]? = some b)
        obtain ⟨g1, rfl, hg1, hb1, hN1⟩ := RowAt.nb (RowAt.below hctx.row hbr) hL
        obtain ⟨g2, rfl, hg2, _, hN2⟩ := RowAt.nb (RowAt.below hK hbr) hKb
        obtain ⟨c0, c1, c2, c3, c4, c5⟩ := hN1
        have d0 : wr.cell? ⟨g2, k * 6, none⟩ = some (.int .u64 b.id) := hN2.c0
        have d1 : wr.cell? ⟨g2, k * 6 + 1, none⟩ = some (.float .f64 (pb b.pr)) := hN2.c1
        have d2 : wr.cell? ⟨g2, k * 6 + 2, none⟩ = some (.bool b.st) := hN2.c2
        have d3 : wr.cell? ⟨g2, k * 6 + 3, none⟩ = some (.int .i64 b.hops) := hN2.c3
        have d4 : wr.cell? ⟨g2, k * 6 + 4, none⟩ = some (.int .u64 b.seq) := hN2.c4
        have d5 : wr.cell? ⟨g2, k * 6 + 5, none⟩ = some (.int .u64 b.named) := hN2.c5
        have HKEEP : Hid (∀ (q : Nat) (w2 : World), Below wr.heap.size (wr.drewN q) w2 → Hid (Below wx.heap.size wx w2) ∧ (w2.cell? ⟨g1, k1 * 6, none⟩ = some (.int .u64 b.id) ∧ w2.cell? ⟨g1, k1 * 6 + 1, none⟩ = some (.float .f64 (pb b.pr)) ∧ w2.cell? ⟨g1, k1 * 6 + 2, none⟩ = some (.bool b.st) ∧ w2.cell? ⟨g1, k1 * 6 + 3, none⟩ = some (.int .i64 b.hops) ∧ w2.cell? ⟨g1, k1 * 6 + 4, none⟩ = some (.int .u64 b.seq) ∧ w2.cell? ⟨g1, k1 * 6 + 5, none⟩ = some (.int .u64 b.named) ∧ w2.cell? ⟨g2, k * 6, none⟩ = some (.int .u64 b.id) ∧ w2.cell? ⟨g2, k * 6 + 1, none⟩ = some (.float .f64 (pb b.pr)) ∧ w2.cell? ⟨g2, k * 6 + 2, none⟩ = some (.bool b.st) ∧ w2.cell? ⟨g2, k * 6 + 3, none⟩ = some (.int .i64 b.hops) ∧ w2.cell? ⟨g2, k * 6 + 4, none⟩ = some (.int .u64 b.seq) ∧ w2.cell? ⟨g2, k * 6 + 5, none⟩ = some (.int .u64 b.named))) := by
          intro q w2 hb2
          have k2 : ∀ g o', g < wr.heap.size → w2.cell? ⟨g, o', none⟩ = wr.cell? ⟨g, o', none⟩ := fun g o' hg => hb2.cell (p := ⟨g, o', none⟩) hg
          exact ⟨(bdrew hbr q).trans (hb2.mono (Below.size hbr)), (k2 _ _ hg1).trans c0, (k2 _ _ hg1).trans c1, (k2 _ _ hg1).trans c2, (k2 _ _ hg1).trans c3, (k2 _ _ hg1).trans c4, (k2 _ _ hg1).trans c5, (k2 _ _ hg2).trans d0, (k2 _ _ hg2).trans d1, (k2 _ _ hg2).trans d2, (k2 _ _ hg2).trans d3, (k2 _ _ hg2).trans d4, (k2 _ _ hg2).trans d5⟩
        have HC : Hid _ := aeq_calls b
        have HCT : Hid _ := hctx
        have HKK : Hid _ := hK
        have HBR : Hid _ := hbr
        have HLH : Hid _ := And.intro hlo hhi
        have hb1' : (k1 : Int) < (nN : Int) := by omega
        have HK1 : Hid _ := hk1
        clear hk1
        clear hctx hK hlo hhi hKb hL hbr
        go_wp2
        go_region_held3 (fun w' => w'.cell? ⟨g1, k1 * 6, none⟩ = some (.int .u64 b.id) ∧ w'.cell? ⟨g1, k1 * 6 + 1, none⟩ = some (.float .f64 (pb b.pr)) ∧ w'.cell? ⟨g1, k1 * 6 + 2, none⟩ = some (.bool b.st) ∧ w'.cell? ⟨g1, k1 * 6 + 3, none⟩ = some (.int .i64 b.hops) ∧ w'.cell? ⟨g1, k1 * 6 + 4, none⟩ = some (.int .u64 b.seq) ∧ w'.cell? ⟨g1, k1 * 6 + 5, none⟩ = some (.int .u64 b.named) ∧ w'.cell? ⟨g2, k * 6, none⟩ = some (.int .u64 b.id) ∧ w'.cell? ⟨g2, k * 6 + 1, none⟩ = some (.float .f64 (pb b.pr)) ∧ w'.cell? ⟨g2, k * 6 + 2, none⟩ = some (.bool b.st) ∧ w'.cell? ⟨g2, k * 6 + 3, none⟩ = some (.int .i64 b.hops) ∧ w'.cell? ⟨g2, k * 6 + 4, none⟩ = some (.int .u64 b.seq) ∧ w'.cell? ⟨g2, k * 6 + 5, none⟩ = some (.int .u64 b.named))
          (first | exact ⟨c0, c1, c2, c3, c4, c5, d0, d1, d2, d3, d4, d5⟩ | assumption) ((go_at_call 12; refine Calls.mono (HC.out _) ?_; rintro e w2 ⟨rfl, hb2⟩; have hS2 := HKEEP.out 1 w2 hb2; clear hb2; have HB3 := hS2.1; have hS3 := hS2.2; clear hS2; try dsimp only))
        go_wp2
        go_roundw
        case rel => exact ⟨k + 1, by omega, by go_num, HB3.out⟩
        case measure => simp [intOf]; omega
      · have hjk' : decide ((j : Int) ≤ (k : Int)) = false := by simp; omega
        have hL := hlo k b (by omega) hKb
        obtain ⟨g1, rfl, hg1, hb1, hN1⟩ := RowAt.nb (RowAt.below hctx.row hbr) hL
        obtain ⟨g2, rfl, hg2, _, hN2⟩ := RowAt.nb (RowAt.below hK hbr) hKb
        obtain ⟨c0, c1, c2, c3, c4, c5⟩ := hN1
        have d0 : wr.cell? ⟨g2, k * 6, none⟩ = some (.int .u64 b.id) := hN2.c0
        have d1 : wr.cell? ⟨g2, k * 6 + 1, none⟩ = some (.float .f64 (pb b.pr)) := hN2.c1
        have d2 : wr.cell? ⟨g2, k * 6 + 2, none⟩ = some (.bool b.st) := hN2.c2
        have d3 : wr.cell? ⟨g2, k * 6 + 3, none⟩ = some (.int .i64 b.hops) := hN2.c3
        have d4 : wr.cell? ⟨g2, k * 6 + 4, none⟩ = some (.int .u64 b.seq) := hN2.c4
        have d5 : wr.cell? ⟨g2, k * 6 + 5, none⟩ = some (.int .u64 b.named) := hN2.c5
        have HKEEP : Hid (∀ (q : Nat) (w2 : World), Below wr.heap.size (wr.drewN q) w2 → Hid (Below wx.heap.size wx w2) ∧ (w2.cell? ⟨g1, k * 6, none⟩ = some (.int .u64 b.id) ∧ w2.cell? ⟨g1, k * 6 + 1, none⟩ = some (.float .f64 (pb b.pr)) ∧ w2.cell? ⟨g1, k * 6 + 2, none⟩ = some (.bool b.st) ∧ w2.cell? ⟨g1, k * 6 + 3, none⟩ = some (.int .i64 b.hops) ∧ w2.cell? ⟨g1, k * 6 + 4, none⟩ = some (.int .u64 b.seq) ∧ w2.cell? ⟨g1, k * 6 + 5, none⟩ = some (.int .u64 b.named) ∧ w2.cell? ⟨g2, k * 6, none⟩ = some (.int .u64 b.id) ∧ w2.cell? ⟨g2, k * 6 + 1, none⟩ = some (.float .f64 (pb b.pr)) ∧ w2.cell? ⟨g2, k * 6 + 2, none⟩ = some (.bool b.st) ∧ w2.cell? ⟨g2, k * 6 + 3, none⟩ = some (.int .i64 b.hops) ∧ w2.cell? ⟨g2, k * 6 + 4, none⟩ = some (.int .u64 b.seq) ∧ w2.cell? ⟨g2, k * 6 + 5, none⟩ = some (.int .u64 b.named))) := by
          intro q w2 hb2
          have k2 : ∀ g o', g < wr.heap.size → w2.cell? ⟨g, o', none⟩ = wr.cell? ⟨g, o', none⟩ := fun g o' hg => hb2.cell (p := ⟨g, o', none⟩) hg
          exact ⟨(bdrew hbr q).trans (hb2.mono (Below.size hbr)), (k2 _ _ hg1).trans c0, (k2 _ _ hg1).trans c1, (k2 _ _ hg1).trans c2, (k2 _ _ hg1).trans c3, (k2 _ _ hg1).trans c4, (k2 _ _ hg1).trans c5, (k2 _ _ hg2).trans d0, (k2 _ _ hg2).trans d1, (k2 _ _ hg2).trans d2, (k2 _ _ hg2).trans d3, (k2 _ _ hg2).trans d4, (k2 _ _ hg2).trans d5⟩
        have HC : Hid _ := aeq_calls b
        have HCT : Hid _ := hctx
        have HKK : Hid _ := hK
        have HBR : Hid _ := hbr
        have HLH : Hid _ := And.intro hlo hhi
        have hb1' : (k : Int) < (nN : Int) := by omega
        clear hctx hK hlo hhi hKb hL hbr
        go_wp2
        go_region_held3 (fun w' => w'.cell? ⟨g1, k * 6, none⟩ = some (.int .u64 b.id) ∧ w'.cell? ⟨g1, k * 6 + 1, none⟩ = some (.float .f64 (pb b.pr)) ∧ w'.cell? ⟨g1, k * 6 + 2, none⟩ = some (.bool b.st) ∧ w'.cell? ⟨g1, k * 6 + 3, none⟩ = some (.int .i64 b.hops) ∧ w'.cell? ⟨g1, k * 6 + 4, none⟩ = some (.int .u64 b.seq) ∧ w'.cell? ⟨g1, k * 6 + 5, none⟩ = some (.int .u64 b.named) ∧ w'.cell? ⟨g2, k * 6, none⟩ = some (.int .u64 b.id) ∧ w'.cell? ⟨g2, k * 6 + 1, none⟩ = some (.float .f64 (pb b.pr)) ∧ w'.cell? ⟨g2, k * 6 + 2, none⟩ = some (.bool b.st) ∧ w'.cell? ⟨g2, k * 6 + 3, none⟩ = some (.int .i64 b.hops) ∧ w'.cell? ⟨g2, k * 6 + 4, none⟩ = some (.int .u64 b.seq) ∧ w'.cell? ⟨g2, k * 6 + 5, none⟩ = some (.int .u64 b.named))
          (first | exact ⟨c0, c1, c2, c3, c4, c5, d0, d1, d2, d3, d4, d5⟩ | assumption) ((go_at_call 12; refine Calls.mono (HC.out _) ?_; rintro e w2 ⟨rfl, hb2⟩; have hS2 := HKEEP.out 1 w2 hb2; clear hb2; have HB3 := hS2.1; have hS3 := hS2.2; clear hS2; try dsimp only))
        go_wp2
        go_roundw
        case rel => exact ⟨k + 1, by omega, by go_num, HB3.out⟩
        case measure => simp [intOf]; omega
    · have hkn' : decide ((k : Int) < (nK : Int)) = false := by simp; omega
      have hfin := hctx.bel.trans (hbr.mono hctx.bel.size)
      have HF : Hid _ := hfin
      clear hfin hctx hK hlo hhi hbr
      go_wp2
      go_ret
      exact ⟨rfl, HF.out⟩

end Go.Proofs.Ybulkawyi
