import Derived.Test.YbulkawyiPrF
import Derived.Test.YbulkawyiPrO
namespace Go.Proofs.Ybulkawyi
open Go.RowKit
set_option linter.unusedVariables false

theorem zero_N : N 0 0 := N.const 0 (by decide) _ (by kernel_rfl)
theorem N.lt0 {x : Nat} {a : Int} (h : N x a) (k : a < 0) : FloatKind.f64.format.order x 0 = some .lt := by rw [h.order zero_N, Int.compare_eq_lt.2 k]
theorem N.eq0 {x : Nat} {a : Int} (h : N x a) (k : a = 0) : FloatKind.f64.format.order x 0 = some .eq := by rw [h.order zero_N, Int.compare_eq_eq.2 k]
theorem N.gt0 {x : Nat} {a : Int} (h : N x a) (k : 0 < a) : FloatKind.f64.format.order x 0 = some .gt := by rw [h.order zero_N, Int.compare_eq_gt.2 k]

set_option maxRecDepth 100000 in
set_option maxHeartbeats 16000000 in
theorem pcoef (T nb xb lb ta x0 y0 vx vy x1 y1 ux uy r2 c dx dy : Nat) (VX VY UX UY DX DY C : Int) (wi : Bool) (w : World) (R : World → Prop) (ht : Trk w T nb xb lb ta x0 y0 vx vy x1 y1 ux uy r2) (h1 : N vx VX) (h2 : N vy VY) (h3 : N ux UX) (h4 : N uy UY) (h5 : N dx DX) (h6 : N dy DY) (h7 : N c C)
    (b1 : (UX - VX).natAbs ≤ 255) (b2 : (UY - VY).natAbs ≤ 255) (b3 : DX.natAbs ≤ 255) (b4 : DY.natAbs ≤ 255) (b5 : C.natAbs ≤ 130050)
    (hno : (UX - VX) * (UX - VX) + (UY - VY) * (UY - VY) = 0 → ∀ q, R (w.drewN q))
    (hgo : (UX - VX) * (UX - VX) + (UY - VY) * (UY - VY) ≠ 0 → ∀ q qa qb disc, N qa ((UX - VX) * (UX - VX) + (UY - VY) * (UY - VY)) → N qb (2 * (DX * (UX - VX) + DY * (UY - VY))) → N disc (2 * (DX * (UX - VX) + DY * (UY - VY)) * (2 * (DX * (UX - VX) + DY * (UY - VY))) - 4 * ((UX - VX) * (UX - VX) + (UY - VY) * (UY - VY)) * C) → (2 * (DX * (UX - VX) + DY * (UY - VY))).natAbs ≤ 260100 → ((UX - VX) * (UX - VX) + (UY - VY) * (UY - VY)) ≤ 130050 → 0 ≤ ((UX - VX) * (UX - VX) + (UY - VY) * (UY - VY)) → ∀ (u4 u5 u6 u7 u10 u11 u15 u16 u20 u21 u22 u23 u24 u25 u26 u27 u28 u29 u30 u31 u32 u33 u34 u35 u36 u37 u38 u39 u40 u41 u42 u43 u44 u45 u46 u47 u48 u49 u50 u51 u52 u53 u54 u55 u56 u57 u58 u59 u60 u61 u62 u63 u64 u65 u66 u67 u68 u69 u70 u71 u72 u73 u74 u75 u76 u77 u78 u79 u80 u81 u82 u83 u84 u85 u86 u87 u88 u89 u90 u91 u92 u93 u94 u95 u96 u97 u98 u99 u100 u101 u102 u103 u104 u105 u106 u107 u108 u109 u110 u111 u112 u113 u114 u115 u116 u117 u118 u119 u120 u121 u122 u123 u124 u125 u126 u127 u128 u129 u130 u131 u132 u133 u134 u135 u136 u137 u138 u139 u140 u141 u142 u143 u144 u145 u146 u147 u148 u149 u150 u151 u152 u153 u154 u155 u156 u157 u158 u159 u160 u161 u162 u163 u164 u165 u166 u167 u168 u169 u170 u171 u172 u173 u174 u175 u176 u177 u178 u179 u180 u181 u182 u183 u184 u185 u186 u187 u188 u189 u190 u191 u192 u193 u194 u195 u196 u197 u198 u199 u200 u201 u202 u203 u204 u205 u206 u207 u208 u209 u210 u211 u212 u213 u214 u215 u216 u217 u218 u219 u220 u221 u222 u223 u224 u225 u226 u227 u228 u229 u230 u231 u232 u233 u234 u235 u236 u237 u238 u239 u240 u241 u242 u243 u244 u245 u246 u247 u248 u249 u250 u251 u252 u253 u254 u255 u256 u257 u258 u259 u260 u261 u262 u263 u264 u265 u266 u267 u268 u269 u270 u271 u272 u273 u274 u275 u276 u277 u278 u279 u280 : Value),
      Code.wp Yba.prog (secondOf (secondOf (secondOf (secondOf (secondOf (secondOf (secondOf (secondOf (secondOf (secondOf (secondOf (Yba.f14.body.getD .skip)))))))))))) (bodyPost Yba.prog Yba.f14 fun e w' => e = .returned (.tuple #[]) ∧ R w') { tmps := #[.pointer (some ⟨T, 0, none⟩), .int .i64 0, .int .i64 1, .float .f64 ta, u4, u5, u6, u7, .pointer (some ⟨nb, 0, none⟩), .pointer (some ⟨nb, 8, none⟩), u10, u11, .float .f64 c, .bool wi, .int .i64 1, u15, u16, .float .f64 qa, .float .f64 qb, .float .f64 disc, u20, u21, u22, u23, u24, u25, u26, u27, u28, u29, u30, u31, u32, u33, u34, u35, u36, u37, u38, u39, u40, u41, u42, u43, u44, u45, u46, u47, u48, u49, u50, u51, u52, u53, u54, u55, u56, u57, u58, u59, u60, u61, u62, u63, u64, u65, u66, u67, u68, u69, u70, u71, u72, u73, u74, u75, u76, u77, u78, u79, u80, u81, u82, u83, u84, u85, u86, u87, u88, u89, u90, u91, u92, u93, u94, u95, u96, u97, u98, u99, u100, u101, u102, u103, u104, u105, u106, u107, u108, u109, u110, u111, u112, u113, u114, u115, u116, u117, u118, u119, u120, u121, u122, u123, u124, u125, u126, u127, u128, u129, u130, u131, u132, u133, u134, u135, u136, u137, u138, u139, u140, u141, u142, u143, u144, u145, u146, u147, u148, u149, u150, u151, u152, u153, u154, u155, u156, u157, u158, u159, u160, u161, u162, u163, u164, u165, u166, u167, u168, u169, u170, u171, u172, u173, u174, u175, u176, u177, u178, u179, u180, u181, u182, u183, u184, u185, u186, u187, u188, u189, u190, u191, u192, u193, u194, u195, u196, u197, u198, u199, u200, u201, u202, u203, u204, u205, u206, u207, u208, u209, u210, u211, u212, u213, u214, u215, u216, u217, u218, u219, u220, u221, u222, u223, u224, u225, u226, u227, u228, u229, u230, u231, u232, u233, u234, u235, u236, u237, u238, u239, u240, u241, u242, u243, u244, u245, u246, u247, u248, u249, u250, u251, u252, u253, u254, u255, u256, u257, u258, u259, u260, u261, u262, u263, u264, u265, u266, u267, u268, u269, u270, u271, u272, u273, u274, u275, u276, u277, u278, u279, u280], defers := [] } (w.drewN q)) (u4 u5 u6 u7 u15 u16 u17 u18 u19 u20 u21 u22 u23 u24 u25 u26 u27 u28 u29 u30 u31 u32 u33 u34 u35 u36 u37 u38 u39 u40 u41 u42 u43 u44 u45 u46 u47 u48 u49 u50 u51 u52 u53 u54 u55 u56 u57 u58 u59 u60 u61 u62 u63 u64 u65 u66 u67 u68 u69 u70 u71 u72 u73 u74 u75 u76 u77 u78 u79 u80 u81 u82 u83 u84 u85 u86 u87 u88 u89 u90 u91 u92 u93 u94 u95 u96 u97 u98 u99 u100 u101 u102 u103 u104 u105 u106 u107 u108 u109 u110 u111 u112 u113 u114 u115 u116 u117 u118 u119 u120 u121 u122 u123 u124 u125 u126 u127 u128 u129 u130 u131 u132 u133 u134 u135 u136 u137 u138 u139 u140 u141 u142 u143 u144 u145 u146 u147 u148 u149 u150 u151 u152 u153 u154 u155 u156 u157 u158 u159 u160 u161 u162 u163 u164 u165 u166 u167 u168 u169 u170 u171 u172 u173 u174 u175 u176 u177 u178 u179 u180 u181 u182 u183 u184 u185 u186 u187 u188 u189 u190 u191 u192 u193 u194 u195 u196 u197 u198 u199 u200 u201 u202 u203 u204 u205 u206 u207 u208 u209 u210 u211 u212 u213 u214 u215 u216 u217 u218 u219 u220 u221 u222 u223 u224 u225 u226 u227 u228 u229 u230 u231 u232 u233 u234 u235 u236 u237 u238 u239 u240 u241 u242 u243 u244 u245 u246 u247 u248 u249 u250 u251 u252 u253 u254 u255 u256 u257 u258 u259 u260 u261 u262 u263 u264 u265 u266 u267 u268 u269 u270 u271 u272 u273 u274 u275 u276 u277 u278 u279 u280 : Value) :
    Code.wp Yba.prog (secondOf (secondOf (secondOf (secondOf (secondOf (Yba.f14.body.getD .skip)))))) (bodyPost Yba.prog Yba.f14 fun e w' => e = .returned (.tuple #[]) ∧ R w') { tmps := #[.pointer (some ⟨T, 0, none⟩), .int .i64 0, .int .i64 1, .float .f64 ta, u4, u5, u6, u7, .pointer (some ⟨nb, 0, none⟩), .pointer (some ⟨nb, 8, none⟩), .float .f64 dx, .float .f64 dy, .float .f64 c, .bool wi, .int .i64 1, u15, u16, u17, u18, u19, u20, u21, u22, u23, u24, u25, u26, u27, u28, u29, u30, u31, u32, u33, u34, u35, u36, u37, u38, u39, u40, u41, u42, u43, u44, u45, u46, u47, u48, u49, u50, u51, u52, u53, u54, u55, u56, u57, u58, u59, u60, u61, u62, u63, u64, u65, u66, u67, u68, u69, u70, u71, u72, u73, u74, u75, u76, u77, u78, u79, u80, u81, u82, u83, u84, u85, u86, u87, u88, u89, u90, u91, u92, u93, u94, u95, u96, u97, u98, u99, u100, u101, u102, u103, u104, u105, u106, u107, u108, u109, u110, u111, u112, u113, u114, u115, u116, u117, u118, u119, u120, u121, u122, u123, u124, u125, u126, u127, u128, u129, u130, u131, u132, u133, u134, u135, u136, u137, u138, u139, u140, u141, u142, u143, u144, u145, u146, u147, u148, u149, u150, u151, u152, u153, u154, u155, u156, u157, u158, u159, u160, u161, u162, u163, u164, u165, u166, u167, u168, u169, u170, u171, u172, u173, u174, u175, u176, u177, u178, u179, u180, u181, u182, u183, u184, u185, u186, u187, u188, u189, u190, u191, u192, u193, u194, u195, u196, u197, u198, u199, u200, u201, u202, u203, u204, u205, u206, u207, u208, u209, u210, u211, u212, u213, u214, u215, u216, u217, u218, u219, u220, u221, u222, u223, u224, u225, u226, u227, u228, u229, u230, u231, u232, u233, u234, u235, u236, u237, u238, u239, u240, u241, u242, u243, u244, u245, u246, u247, u248, u249, u250, u251, u252, u253, u254, u255, u256, u257, u258, u259, u260, u261, u262, u263, u264, u265, u266, u267, u268, u269, u270, u271, u272, u273, u274, u275, u276, u277, u278, u279, u280], defers := [] } w := by
  obtain ⟨RS, hRS⟩ : ∃ RS, RS = (secondOf (secondOf (secondOf (secondOf (secondOf (secondOf (secondOf (secondOf (secondOf (secondOf (secondOf (Yba.f14.body.getD .skip)))))))))))) := ⟨_, rfl⟩
  obtain ⟨TT, hTT⟩ : ∃ TT, TT = (Code.seq (firstOf (secondOf (secondOf (secondOf (secondOf (secondOf (Yba.f14.body.getD .skip))))))) (Code.seq (firstOf (secondOf (secondOf (secondOf (secondOf (secondOf (secondOf (Yba.f14.body.getD .skip)))))))) (Code.seq (firstOf (secondOf (secondOf (secondOf (secondOf (secondOf (secondOf (secondOf (Yba.f14.body.getD .skip))))))))) (Code.seq (firstOf (secondOf (secondOf (secondOf (secondOf (secondOf (secondOf (secondOf (secondOf (Yba.f14.body.getD .skip)))))))))) (Code.seq (firstOf (secondOf (secondOf (secondOf (secondOf (secondOf (secondOf (secondOf (secondOf (secondOf (Yba.f14.body.getD .skip))))))))))) (Code.seq (firstOf (secondOf (secondOf (secondOf (secondOf (secondOf (secondOf (secondOf (secondOf (secondOf (secondOf (Yba.f14.body.getD .skip)))))))))))) RS)))))) := ⟨_, rfl⟩
  have hE : (secondOf (secondOf (secondOf (secondOf (secondOf (Yba.f14.body.getD .skip)))))) = TT := by rw [hTT, hRS]; rfl
  rw [hE]
  have HRS : Hid _ := hRS
  clear hE hRS
  dsimp only [Yba.f14, Option.getD, secondOf, firstOf] at hTT
  subst hTT
  dsimp only
  obtain ⟨wx, wy, sx, sy, qa, p1, p2, s, qb, bb, a4, ac, disc, e1, e2, e3, e4, e5, e6, e7, e8, e9, e10, e11, e12, e13, k1, k2, k3, k4, k5, k6⟩ := coefs h1 h2 h3 h4 h5 h6 h7 b1 b2 b3 b4 b5
  have g1 := fl_run e1
  have g2 := fl_run e2
  have g3 := fl_run e3
  have g4 := fl_run e4
  have g5 := fl_run e5
  have c3 := ht.ma.c3
  have c4 := ht.ma.c4
  have d3 := ht.mb.c3
  have d4 := ht.mb.c4
  clear e1 e2 e3 e4 e5 h1 h2 h3 h4 h5 h6 h7 ht
  have key : (FloatKind.f64.format.order qa 0 = some .eq ∧ (UX - VX) * (UX - VX) + (UY - VY) * (UY - VY) = 0) ∨ (FloatKind.f64.format.order qa 0 = some .gt ∧ (UX - VX) * (UX - VX) + (UY - VY) * (UY - VY) ≠ 0) := by
    rcases Int.lt_trichotomy ((UX - VX) * (UX - VX) + (UY - VY) * (UY - VY)) 0 with h | h | h
    · omega
    · exact .inl ⟨k1.eq0 h, h⟩
    · exact .inr ⟨k1.gt0 h, by omega⟩
  rcases key with ⟨oq, hq⟩ | ⟨oq, hq⟩
  · have hend : ∀ ts q, bodyPost Yba.prog Yba.f14 (fun e w' => e = .returned (.tuple #[]) ∧ R w') .ret { tmps := ts, defers := [] } (w.drewN q) := fun t q => bodyPost_ret (results_none rfl _ _ _) rfl ⟨rfl, hno hq q⟩
    have HE : Hid _ := hend
    clear hend hno hgo e6 e7 e8 e9 e10 e11 e12 e13 k1 k2 k3 k4 k5 k6 hq b1 b2 b3 b4 b5
    go_wp2_with fail
    go_quiet (fail)
    all_goals
      go_wp2_with fail
      (try simp only [Exit.inBlock, Exit.then])
      exact HE.out _ _
  · have g6 := fl_run e6
    have g7 := fl_run e7
    have g8 := fl_run e8
    have g9 := fl_run e9
    have g10 := fl_run e10
    have g11 := fl_run e11
    have g12 := fl_run e12
    have g13 := fl_run e13
    have HALL : Hid _ := fun q => hgo hq q qa qb disc k1 k2 k3 k4 k5 k6
    clear hno hgo e6 e7 e8 e9 e10 e11 e12 e13 k1 k2 k3 k4 k5 k6 hq b1 b2 b3 b4 b5
    go_wp2_with fail
    go_quiet (fail)
    all_goals
      go_wp2_with fail
      (try simp only [Exit.inBlock, Exit.then])
      rw [HRS.out]
      exact HALL.out _ _ _ _ _ _ _ _ _ _ _ _ _ _ _ _ _ _ _ _ _ _ _ _ _ _ _ _ _ _ _ _ _ _ _ _ _ _ _ _ _ _ _ _ _ _ _ _ _ _ _ _ _ _ _ _ _ _ _ _ _ _ _ _ _ _ _ _ _ _ _ _ _ _ _ _ _ _ _ _ _ _ _ _ _ _ _ _ _ _ _ _ _ _ _ _ _ _ _ _ _ _ _ _ _ _ _ _ _ _ _ _ _ _ _ _ _ _ _ _ _ _ _ _ _ _ _ _ _ _ _ _ _ _ _ _ _ _ _ _ _ _ _ _ _ _ _ _ _ _ _ _ _ _ _ _ _ _ _ _ _ _ _ _ _ _ _ _ _ _ _ _ _ _ _ _ _ _ _ _ _ _ _ _ _ _ _ _ _ _ _ _ _ _ _ _ _ _ _ _ _ _ _ _ _ _ _ _ _ _ _ _ _ _ _ _ _ _ _ _ _ _ _ _ _ _ _ _ _ _ _ _ _ _ _ _ _ _ _ _ _ _ _ _ _ _ _ _ _ _ _ _ _ _ _ _ _ _ _ _ _ _ _ _ _ _ _ _ _ _
end Go.Proofs.Ybulkawyi
