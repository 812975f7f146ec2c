import Derived.Test.YbulkawyiLaF
namespace Go.Proofs.Ybulkawyi
open Go.RowKit
attribute [local go_sem] run_store_float
set_option linter.unusedVariables false

set_option maxRecDepth 100000 in
set_option maxHeartbeats 16000000 in
theorem lstart (base ta : Nat) (X0 Y0 VX VY X1 Y1 UX UY R A : Int) (was : Bool) (w0 w : World) (k : floatOfInt .f64 A = ta)
    (hgo : ∀ (u11 u12 u13 u14 u15 u16 u17 u18 u19 u20 u21 u22 u25 u26 u27 u28 u29 u30 u31 u32 u33 u34 u35 u36 u37 u38 u39 u40 u41 u42 u43 u44 u45 u46 u47 u48 u49 u50 u51 u52 u53 u54 u55 u56 u57 u58 u59 u60 u61 u62 u63 u64 u65 u66 u67 u68 u69 u70 u71 u72 u73 u74 u75 u76 u77 u78 u79 u80 u81 u82 u83 u84 u85 u86 u87 u88 u89 u90 u91 u92 u93 u94 u95 u96 u97 u98 u99 u100 u101 u102 u103 u104 u105 u106 u107 u108 u109 u110 u111 u112 u113 u114 u115 u116 u117 u118 u119 u120 u121 u122 u123 u124 u125 u126 u127 u128 u129 u130 u131 u132 u133 u134 u135 u136 u137 u138 u139 u140 u141 u142 u143 u144 u145 u146 u147 u148 u149 u150 u151 u152 u153 u154 u155 u156 u157 u158 u159 u160 u161 u162 u163 u164 u165 u166 u167 u168 u169 u170 u171 u172 u173 u174 u175 u176 u177 u178 u179 u180 u181 u182 u183 u184 u185 u186 u187 u188 u189 u190 u191 u192 u193 u194 u195 u196 u197 u198 u199 u200 u201 u202 u203 u204 u205 u206 u207 u208 u209 u210 u211 u212 u213 u214 u215 u216 u217 u218 u219 u220 u221 u222 u223 u224 u225 u226 u227 u228 u229 u230 u231 u232 u233 u234 u235 u236 u237 u238 u239 u240 u241 u242 u243 u244 u245 u246 u247 u248 u249 u250 u251 u252 u253 u254 u255 u256 u257 u258 u259 u260 u261 u262 u263 u264 u265 u266 u267 u268 u269 u270 u271 u272 u273 u274 u275 u276 u277 u278 u279 u280 u281 u282 u283 u284 u285 u286 u287 u288 u289 u290 u291 u292 u293 u294 u295 u296 u297 u298 u299 u300 u301 u302 u303 u304 : Value), Code.wp Yba.prog (secondOf (secondOf (secondOf (Yba.f5.body.getD .skip)))) (bodyPost Yba.prog Yba.f5 fun e w' => e = .returned (.bool true) ∧ Below base w0 w') { tmps := #[.int .i8 X0, .int .i8 Y0, .int .i8 VX, .int .i8 VY, .int .i8 X1, .int .i8 Y1, .int .i8 UX, .int .i8 UY, .int .u8 R, .int .i8 A, .bool was, u11, u12, u13, u14, u15, u16, u17, u18, u19, u20, u21, u22, .float .f64 ta, .float .f64 9218868437227405312, u25, u26, u27, u28, u29, u30, u31, u32, u33, u34, u35, u36, u37, u38, u39, u40, u41, u42, u43, u44, u45, u46, u47, u48, u49, u50, u51, u52, u53, u54, u55, u56, u57, u58, u59, u60, u61, u62, u63, u64, u65, u66, u67, u68, u69, u70, u71, u72, u73, u74, u75, u76, u77, u78, u79, u80, u81, u82, u83, u84, u85, u86, u87, u88, u89, u90, u91, u92, u93, u94, u95, u96, u97, u98, u99, u100, u101, u102, u103, u104, u105, u106, u107, u108, u109, u110, u111, u112, u113, u114, u115, u116, u117, u118, u119, u120, u121, u122, u123, u124, u125, u126, u127, u128, u129, u130, u131, u132, u133, u134, u135, u136, u137, u138, u139, u140, u141, u142, u143, u144, u145, u146, u147, u148, u149, u150, u151, u152, u153, u154, u155, u156, u157, u158, u159, u160, u161, u162, u163, u164, u165, u166, u167, u168, u169, u170, u171, u172, u173, u174, u175, u176, u177, u178, u179, u180, u181, u182, u183, u184, u185, u186, u187, u188, u189, u190, u191, u192, u193, u194, u195, u196, u197, u198, u199, u200, u201, u202, u203, u204, u205, u206, u207, u208, u209, u210, u211, u212, u213, u214, u215, u216, u217, u218, u219, u220, u221, u222, u223, u224, u225, u226, u227, u228, u229, u230, u231, u232, u233, u234, u235, u236, u237, u238, u239, u240, u241, u242, u243, u244, u245, u246, u247, u248, u249, u250, u251, u252, u253, u254, u255, u256, u257, u258, u259, u260, u261, u262, u263, u264, u265, u266, u267, u268, u269, u270, u271, u272, u273, u274, u275, u276, u277, u278, u279, u280, u281, u282, u283, u284, u285, u286, u287, u288, u289, u290, u291, u292, u293, u294, u295, u296, u297, u298, u299, u300, u301, u302, u303, u304], defers := [] } w) (u11 u12 u13 u14 u15 u16 u17 u18 u19 u20 u21 u22 u23 u24 u25 u26 u27 u28 u29 u30 u31 u32 u33 u34 u35 u36 u37 u38 u39 u40 u41 u42 u43 u44 u45 u46 u47 u48 u49 u50 u51 u52 u53 u54 u55 u56 u57 u58 u59 u60 u61 u62 u63 u64 u65 u66 u67 u68 u69 u70 u71 u72 u73 u74 u75 u76 u77 u78 u79 u80 u81 u82 u83 u84 u85 u86 u87 u88 u89 u90 u91 u92 u93 u94 u95 u96 u97 u98 u99 u100 u101 u102 u103 u104 u105 u106 u107 u108 u109 u110 u111 u112 u113 u114 u115 u116 u117 u118 u119 u120 u121 u122 u123 u124 u125 u126 u127 u128 u129 u130 u131 u132 u133 u134 u135 u136 u137 u138 u139 u140 u141 u142 u143 u144 u145 u146 u147 u148 u149 u150 u151 u152 u153 u154 u155 u156 u157 u158 u159 u160 u161 u162 u163 u164 u165 u166 u167 u168 u169 u170 u171 u172 u173 u174 u175 u176 u177 u178 u179 u180 u181 u182 u183 u184 u185 u186 u187 u188 u189 u190 u191 u192 u193 u194 u195 u196 u197 u198 u199 u200 u201 u202 u203 u204 u205 u206 u207 u208 u209 u210 u211 u212 u213 u214 u215 u216 u217 u218 u219 u220 u221 u222 u223 u224 u225 u226 u227 u228 u229 u230 u231 u232 u233 u234 u235 u236 u237 u238 u239 u240 u241 u242 u243 u244 u245 u246 u247 u248 u249 u250 u251 u252 u253 u254 u255 u256 u257 u258 u259 u260 u261 u262 u263 u264 u265 u266 u267 u268 u269 u270 u271 u272 u273 u274 u275 u276 u277 u278 u279 u280 u281 u282 u283 u284 u285 u286 u287 u288 u289 u290 u291 u292 u293 u294 u295 u296 u297 u298 u299 u300 u301 u302 u303 u304 : Value) :
    Code.wp Yba.prog (Yba.f5.body.getD .skip) (bodyPost Yba.prog Yba.f5 fun e w' => e = .returned (.bool true) ∧ Below base w0 w') { tmps := #[.int .i8 X0, .int .i8 Y0, .int .i8 VX, .int .i8 VY, .int .i8 X1, .int .i8 Y1, .int .i8 UX, .int .i8 UY, .int .u8 R, .int .i8 A, .bool was, u11, u12, u13, u14, u15, u16, u17, u18, u19, u20, u21, u22, u23, u24, u25, u26, u27, u28, u29, u30, u31, u32, u33, u34, u35, u36, u37, u38, u39, u40, u41, u42, u43, u44, u45, u46, u47, u48, u49, u50, u51, u52, u53, u54, u55, u56, u57, u58, u59, u60, u61, u62, u63, u64, u65, u66, u67, u68, u69, u70, u71, u72, u73, u74, u75, u76, u77, u78, u79, u80, u81, u82, u83, u84, u85, u86, u87, u88, u89, u90, u91, u92, u93, u94, u95, u96, u97, u98, u99, u100, u101, u102, u103, u104, u105, u106, u107, u108, u109, u110, u111, u112, u113, u114, u115, u116, u117, u118, u119, u120, u121, u122, u123, u124, u125, u126, u127, u128, u129, u130, u131, u132, u133, u134, u135, u136, u137, u138, u139, u140, u141, u142, u143, u144, u145, u146, u147, u148, u149, u150, u151, u152, u153, u154, u155, u156, u157, u158, u159, u160, u161, u162, u163, u164, u165, u166, u167, u168, u169, u170, u171, u172, u173, u174, u175, u176, u177, u178, u179, u180, u181, u182, u183, u184, u185, u186, u187, u188, u189, u190, u191, u192, u193, u194, u195, u196, u197, u198, u199, u200, u201, u202, u203, u204, u205, u206, u207, u208, u209, u210, u211, u212, u213, u214, u215, u216, u217, u218, u219, u220, u221, u222, u223, u224, u225, u226, u227, u228, u229, u230, u231, u232, u233, u234, u235, u236, u237, u238, u239, u240, u241, u242, u243, u244, u245, u246, u247, u248, u249, u250, u251, u252, u253, u254, u255, u256, u257, u258, u259, u260, u261, u262, u263, u264, u265, u266, u267, u268, u269, u270, u271, u272, u273, u274, u275, u276, u277, u278, u279, u280, u281, u282, u283, u284, u285, u286, u287, u288, u289, u290, u291, u292, u293, u294, u295, u296, u297, u298, u299, u300, u301, u302, u303, u304], defers := [] } w := by
  obtain ⟨RS, hRS⟩ : ∃ RS, RS = (secondOf (secondOf (secondOf (Yba.f5.body.getD .skip)))) := ⟨_, rfl⟩
  obtain ⟨TT, hTT⟩ : ∃ TT, TT = (Code.seq (firstOf (Yba.f5.body.getD .skip)) (Code.seq (firstOf (secondOf (Yba.f5.body.getD .skip))) (Code.seq (firstOf (secondOf (secondOf (Yba.f5.body.getD .skip)))) RS))) := ⟨_, rfl⟩
  have hE : (Yba.f5.body.getD .skip) = TT := by rw [hTT, hRS]; rfl
  rw [hE]
  have HRS : Hid _ := hRS
  clear hE hRS
  dsimp only [Yba.f5, Option.getD, secondOf, firstOf] at hTT
  subst hTT
  dsimp only
  have HALL : Hid _ := hgo
  clear hgo
  go_wp2_with fail
  refine Calls.mono (inf_calls _) ?_
  rintro e w1 ⟨rfl, rfl⟩
  dsimp only
  go_wp2_with fail
  rw [HRS.out]
  exact HALL.out _ _ _ _ _ _ _ _ _ _ _ _ _ _ _ _ _ _ _ _ _ _ _ _ _ _ _ _ _ _ _ _ _ _ _ _ _ _ _ _ _ _ _ _ _ _ _ _ _ _ _ _ _ _ _ _ _ _ _ _ _ _ _ _ _ _ _ _ _ _ _ _ _ _ _ _ _ _ _ _ _ _ _ _ _ _ _ _ _ _ _ _ _ _ _ _ _ _ _ _ _ _ _ _ _ _ _ _ _ _ _ _ _ _ _ _ _ _ _ _ _ _ _ _ _ _ _ _ _ _ _ _ _ _ _ _ _ _ _ _ _ _ _ _ _ _ _ _ _ _ _ _ _ _ _ _ _ _ _ _ _ _ _ _ _ _ _ _ _ _ _ _ _ _ _ _ _ _ _ _ _ _ _ _ _ _ _ _ _ _ _ _ _ _ _ _ _ _ _ _ _ _ _ _ _ _ _ _ _ _ _ _ _ _ _ _ _ _ _ _ _ _ _ _ _ _ _ _ _ _ _ _ _ _ _ _ _ _ _ _ _ _ _ _ _ _ _ _ _ _ _ _ _ _ _ _ _ _ _ _ _ _ _ _ _ _ _ _ _ _ _ _ _ _ _ _ _ _ _ _ _ _ _ _ _ _ _ _ _ _ _ _

theorem Pu.alloc {w : World} {T : Nat} {wi : Bool} {A : Int} {P : Prop} (h : Pu w T wi A P) (hT : T < w.heap.size) (o : Obj) : Pu (w.alloc o) T wi A P := by
  rcases h with ⟨h1, h2, h3⟩ | ⟨h1, h2, g, cap, at_, down, h3, h4, h5⟩
  · exact .inl ⟨h1, (calloc hT).trans h2, (calloc hT).trans h3⟩
  · have hg : g < w.heap.size := World.block_lt_of_cell? w ⟨g, 0, none⟩ (h4 0 (by decide))
    exact .inr ⟨h1, (calloc hT).trans h2, g, cap, at_, down, (calloc hT).trans h3, fun j hj => (calloc hg).trans (h4 j hj), h5⟩

theorem wrap_small {n : Int} {m : Nat} (h : n.natAbs ≤ m) (hm : m ≤ 9223372036854775807) : IntKind.wrap .i64 n = n := wrap_i64 n (by omega) (by omega)

set_option maxRecDepth 100000 in
set_option maxHeartbeats 4000000 in
theorem lwalk (X0 Y0 VX VY X1 Y1 UX UY R A : Int) (was : Bool) (w : World) (bX0 : -128 ≤ X0 ∧ X0 ≤ 127) (bY0 : -128 ≤ Y0 ∧ Y0 ≤ 127) (bVX : -128 ≤ VX ∧ VX ≤ 127) (bVY : -128 ≤ VY ∧ VY ≤ 127) (bX1 : -128 ≤ X1 ∧ X1 ≤ 127) (bY1 : -128 ≤ Y1 ∧ Y1 ≤ 127) (bUX : -128 ≤ UX ∧ UX ≤ 127) (bUY : -128 ≤ UY ∧ UY ≤ 127) (bR : 0 ≤ R ∧ R ≤ 255) (bA : -128 ≤ A ∧ A ≤ 127) :
    Calls Yba.prog 5 #[.int .i8 X0, .int .i8 Y0, .int .i8 VX, .int .i8 VY, .int .i8 X1, .int .i8 Y1, .int .i8 UX, .int .i8 UY, .int .u8 R, .int .i8 A, .bool was] w fun e w' => e = .returned (.bool true) ∧ Below w.heap.size w w' := by
  have nR := N.ofInt R (by omega)
  have bRR := nabs (a := R) (b := R) (m := 255) (n := 255) (by omega) (by omega)
  obtain ⟨r2, k9, nr2⟩ := nR.mul nR (by omega)
  have hn : Nums (floatOfInt .f64 A) (floatOfInt .f64 X0) (floatOfInt .f64 Y0) (floatOfInt .f64 VX) (floatOfInt .f64 VY) (floatOfInt .f64 X1) (floatOfInt .f64 Y1) (floatOfInt .f64 UX) (floatOfInt .f64 UY) r2 A X0 Y0 VX VY X1 Y1 UX UY R :=
    ⟨N.ofInt _ (by omega), N.ofInt _ (by omega), N.ofInt _ (by omega), N.ofInt _ (by omega), N.ofInt _ (by omega), N.ofInt _ (by omega), N.ofInt _ (by omega), N.ofInt _ (by omega), N.ofInt _ (by omega), nr2, by omega, bX0, bY0, bVX, bVY, bX1, bY1, bUX, bUY, bR⟩
  have hDX : (X1 - X0).natAbs ≤ 255 := by omega
  have hDY : (Y1 - Y0).natAbs ≤ 255 := by omega
  have hWX : (UX - VX).natAbs ≤ 255 := by omega
  have hWY : (UY - VY).natAbs ≤ 255 := by omega
  have c1 := nabs hDX hDX
  have c2 := nabs hDY hDY
  have c3 := nabs hWX hWX
  have c4 := nabs hWY hWY
  have c5 := nabs hDX hWX
  have c6 := nabs hDY hWY
  have v0 := wrap_i64 X0 (by omega) (by omega)
  have v1 := wrap_i64 Y0 (by omega) (by omega)
  have v2 := wrap_i64 VX (by omega) (by omega)
  have v3 := wrap_i64 VY (by omega) (by omega)
  have v4 := wrap_i64 X1 (by omega) (by omega)
  have v5 := wrap_i64 Y1 (by omega) (by omega)
  have v6 := wrap_i64 UX (by omega) (by omega)
  have v7 := wrap_i64 UY (by omega) (by omega)
  have v8 := wrap_i64 R (by omega) (by omega)
  have m1 := wrap_small hDX (by decide)
  have m2 := wrap_small hDY (by decide)
  have m3 := wrap_small hWX (by decide)
  have m4 := wrap_small hWY (by decide)
  have m5 := wrap_small c1 (by decide)
  have m6 := wrap_small c2 (by decide)
  have m7 : IntKind.wrap .i64 ((X1 - X0) * (X1 - X0) + (Y1 - Y0) * (Y1 - Y0)) = (X1 - X0) * (X1 - X0) + (Y1 - Y0) * (Y1 - Y0) := wrap_i64 _ (by omega) (by omega)
  have m8 := wrap_small bRR (by decide)
  have bC : ((X1 - X0) * (X1 - X0) + (Y1 - Y0) * (Y1 - Y0) - R * R).natAbs ≤ 195075 := by omega
  have m9 := wrap_small bC (by decide)
  have e1 := wrap_small c3 (by decide)
  have e2 := wrap_small c4 (by decide)
  have bQA : ((UX - VX) * (UX - VX) + (UY - VY) * (UY - VY)).natAbs ≤ 130050 := by omega
  have e3 := wrap_small bQA (by decide)
  have e4 := wrap_small c5 (by decide)
  have e5 := wrap_small c6 (by decide)
  have b5 : ((X1 - X0) * (UX - VX) + (Y1 - Y0) * (UY - VY)).natAbs ≤ 130050 := by omega
  have e6 := wrap_small b5 (by decide)
  have bQB : (2 * ((X1 - X0) * (UX - VX) + (Y1 - Y0) * (UY - VY))).natAbs ≤ 260100 := by omega
  have e7 := wrap_small bQB (by decide)
  have b6 := nabs bQB bQB
  have e8 := wrap_small b6 (by decide)
  have b7 : (4 * ((UX - VX) * (UX - VX) + (UY - VY) * (UY - VY))).natAbs ≤ 520200 := by omega
  have e9 := wrap_small b7 (by decide)
  have b8 := nabs b7 bC
  have e10 := wrap_small b8 (by decide)
  have e11 : IntKind.wrap .i64 (2 * ((X1 - X0) * (UX - VX) + (Y1 - Y0) * (UY - VY)) * (2 * ((X1 - X0) * (UX - VX) + (Y1 - Y0) * (UY - VY))) - 4 * ((UX - VX) * (UX - VX) + (UY - VY) * (UY - VY)) * ((X1 - X0) * (X1 - X0) + (Y1 - Y0) * (Y1 - Y0) - R * R)) = 2 * ((X1 - X0) * (UX - VX) + (Y1 - Y0) * (UY - VY)) * (2 * ((X1 - X0) * (UX - VX) + (Y1 - Y0) * (UY - VY))) - 4 * ((UX - VX) * (UX - VX) + (UY - VY) * (UY - VY)) * ((X1 - X0) * (X1 - X0) + (Y1 - Y0) * (Y1 - Y0) - R * R) := wrap_i64 _ (by omega) (by omega)
  clear c1 c2 c3 c4 c5 c6 bC bQA b5 bQB b6 b7 b8 hDX hDY hWX hWY bRR bX0 bY0 bVX bVY bX1 bY1 bUX bUY bR bA nr2
  go_enter Yba.func5, Yba.ntmps5
  refine lstart w.heap.size _ X0 Y0 VX VY X1 Y1 UX UY R A was w w rfl ?_ _ _ _ _ _ _ _ _ _ _ _ _ _ _ _ _ _ _ _ _ _ _ _ _ _ _ _ _ _ _ _ _ _ _ _ _ _ _ _ _ _ _ _ _ _ _ _ _ _ _ _ _ _ _ _ _ _ _ _ _ _ _ _ _ _ _ _ _ _ _ _ _ _ _ _ _ _ _ _ _ _ _ _ _ _ _ _ _ _ _ _ _ _ _ _ _ _ _ _ _ _ _ _ _ _ _ _ _ _ _ _ _ _ _ _ _ _ _ _ _ _ _ _ _ _ _ _ _ _ _ _ _ _ _ _ _ _ _ _ _ _ _ _ _ _ _ _ _ _ _ _ _ _ _ _ _ _ _ _ _ _ _ _ _ _ _ _ _ _ _ _ _ _ _ _ _ _ _ _ _ _ _ _ _ _ _ _ _ _ _ _ _ _ _ _ _ _ _ _ _ _ _ _ _ _ _ _ _ _ _ _ _ _ _ _ _ _ _ _ _ _ _ _ _ _ _ _ _ _ _ _ _ _ _ _ _ _ _ _ _ _ _ _ _ _ _ _ _ _ _ _ _ _ _ _ _ _ _ _ _ _ _ _ _ _ _ _ _ _ _ _ _ _ _ _ _ _ _ _ _ _ _ _ _ _ _ _ _ _ _ _ _ _ _
  intros
  refine lbox w.heap.size _ _ _ _ _ _ _ _ _ _ r2 X0 Y0 VX VY X1 Y1 UX UY R A was w w (Below.refl _ _) (Nat.le_refl _) rfl rfl rfl rfl rfl rfl rfl rfl rfl k9 ?_ _ _ _ _ _ _ _ _ _ _ _ _ _ _ _ _ _ _ _ _ _ _ _ _ _ _ _ _ _ _ _ _ _ _ _ _ _ _ _ _ _ _ _ _ _ _ _ _ _ _ _ _ _ _ _ _ _ _ _ _ _ _ _ _ _ _ _ _ _ _ _ _ _ _ _ _ _ _ _ _ _ _ _ _ _ _ _ _ _ _ _ _ _ _ _ _ _ _ _ _ _ _ _ _ _ _ _ _ _ _ _ _ _ _ _ _ _ _ _ _ _ _ _ _ _ _ _ _ _ _ _ _ _ _ _ _ _ _ _ _ _ _ _ _ _ _ _ _ _ _ _ _ _ _ _ _ _ _ _ _ _ _ _ _ _ _ _ _ _ _ _ _ _ _ _ _ _ _ _ _ _ _ _ _ _ _ _ _ _ _ _ _ _ _ _ _ _ _ _ _ _ _ _ _ _ _ _ _ _ _ _ _ _ _ _ _ _ _ _ _ _ _ _ _ _ _ _ _ _ _ _ _ _ _ _ _ _ _ _ _ _ _ _ _ _ _ _ _ _ _ _ _ _ _ _ _ _ _ _ _ _ _ _ _ _ _ _ _ _ _ _ _ _ _ _ _ _ _ _ _ _ _ _ _ _ _ _ _ _ _ _ _
  intro T nb xb lb w1 hl
  intros
  refine lpair w.heap.size T nb xb lb _ _ _ _ _ _ _ _ _ r2 X0 Y0 VX VY X1 Y1 UX UY R _ _ _ _ _ _ _ _ _ A was _ (Pushes X0 Y0 VX VY X1 Y1 UX UY R) w w1 hl v0 v1 v2 v3 v4 v5 v6 v7 v8 m1 m2 m3 m4 m5 m6 m7 m8 m9 rfl (fun wz ht he => pair_calls T nb xb lb _ _ _ _ _ _ _ _ _ r2 w.heap.size A X0 Y0 VX VY X1 Y1 UX UY R was wz hn ht he hl.hbase) ?_ _ _ _ _ _ _ _ _ _ _ _ _ _ _ _ _ _ _ _ _ _ _ _ _ _ _ _ _ _ _ _ _ _ _ _ _ _ _ _ _ _ _ _ _ _ _ _ _ _ _ _ _ _ _ _ _ _ _ _ _ _ _ _ _ _ _ _ _ _ _ _ _ _ _ _ _ _ _ _ _ _ _ _ _ _ _ _ _ _ _ _ _ _ _ _ _ _ _ _ _ _ _ _ _ _ _ _ _ _ _ _ _ _ _ _ _ _ _ _ _ _ _ _ _ _ _ _ _ _ _ _ _ _ _ _ _ _ _ _ _ _ _ _ _ _ _ _ _ _ _ _ _ _ _ _ _ _ _ _ _ _ _ _ _ _ _ _ _ _ _ _ _ _ _ _ _ _ _ _ _ _ _ _ _ _ _ _ _ _ _ _ _ _ _ _ _ _ _ _ _ _ _ _ _ _ _ _ _ _ _ _ _ _ _ _ _ _ _ _ _ _ _ _ _ _ _ _ _ _ _ _ _ _ _ _ _ _ _ _ _ _ _ _ _ _ _ _ _ _ _ _ _ _ _ _ _ _ _ _ _ _ _ _ _ _ _ _ _ _ _ _ _ _ _ _ _ _ _ _ _ _ _ _ _ _ _ _ _ _ _ _ _ _
  intro wz w2 hbel hd
  intros
  refine lcall w.heap.size T lb _ _ _ _ _ _ was _ w w2 hd.ln hd.l0 hd.l1 hd.l2 hd.l3 (by rw [hn.ta.order hn.ta, Int.compare_eq_eq.2 rfl]) hd.rd ?_ _ _ _ _ _ _ _ _ _ _ _ _ _ _ _ _ _ _ _ _ _ _ _ _ _ _ _ _ _ _ _ _ _ _ _ _ _ _ _ _ _ _ _ _ _ _ _ _ _ _ _ _ _ _ _ _ _ _ _ _ _ _ _ _ _ _ _ _ _ _ _ _ _ _ _ _ _ _ _ _ _ _ _ _ _ _ _ _ _ _ _ _ _ _ _ _ _ _ _ _ _ _ _ _ _ _ _ _ _ _ _ _ _ _ _ _ _ _ _ _ _ _ _ _ _ _ _ _ _ _ _ _ _ _ _ _ _ _ _ _ _ _ _ _ _ _ _ _ _ _ _ _ _ _ _ _ _ _ _ _ _ _ _ _ _ _ _ _ _ _ _ _ _ _ _ _ _ _ _ _ _ _ _ _ _ _ _ _ _ _ _ _ _ _ _ _ _ _ _ _ _ _ _ _ _ _ _ _ _ _ _ _ _ _ _ _ _ _ _ _ _ _ _ _ _ _ _ _ _ _ _ _ _ _ _ _ _ _ _ _ _ _ _ _ _ _ _ _ _ _ _ _ _ _ _ _ _ _ _ _ _ _ _ _ _ _ _ _ _ _ _ _ _ _ _ _ _ _ _ _ _ _ _ _ _ _ _ _ _ _ _ _ _ _ _ _
  intro w3 h3
  intros
  have hsz := hbel.size
  have hlt := hd.lt
  have h3b : Below w.heap.size w w3 ∧ w.heap.size ≤ w3.heap.size ∧ T < w3.heap.size ∧ Pu w3 T (decide ((X1 - X0) * (X1 - X0) + (Y1 - Y0) * (Y1 - Y0) - R * R ≤ 0)) A (Pushes X0 Y0 VX VY X1 Y1 UX UY R) := by
    rcases h3 with rfl | ⟨o, rfl⟩
    · exact ⟨hbel, hsz, hlt, hd.pu⟩
    · exact ⟨hbel.alloc hsz _, by simp; omega, by simp; omega, Pu.alloc hd.pu hlt o⟩
  refine ldall w.heap.size T _ _ _ _ _ _ _ _ _ _ _ _ _ _ _ _ _ A _ (Pushes X0 Y0 VX VY X1 Y1 UX UY R) w w3 h3b.1 hn.ta e1 e2 e3 e4 e5 e6 e7 e8 e9 e10 e11 h3b.2.1 h3b.2.2.1 h3b.2.2.2 ?_ _ _ _ _ _ _ _ _ _ _ _ _ _ _ _ _ _ _ _ _ _ _ _ _ _ _ _ _ _ _ _ _ _ _ _ _ _ _ _ _ _ _ _ _ _ _ _ _ _ _ _ _ _ _ _ _ _ _ _ _ _ _ _ _ _ _ _ _ _ _ _ _ _ _ _ _ _ _ _ _ _ _ _ _ _ _ _ _ _ _ _ _ _ _ _ _ _ _ _ _ _ _ _ _ _ _ _ _ _ _ _ _ _ _ _ _ _ _ _ _ _ _ _ _ _ _ _ _ _ _ _ _ _ _ _ _ _ _ _ _ _ _ _ _ _ _ _ _ _ _ _ _ _ _ _ _ _ _ _ _ _ _ _ _ _ _ _ _ _ _ _ _ _ _ _ _ _ _ _ _ _ _ _ _ _ _ _ _ _ _ _ _ _ _ _ _ _ _ _ _ _ _ _ _ _ _ _ _ _ _ _ _ _ _ _ _ _ _ _ _ _ _ _ _ _ _ _ _ _ _ _ _ _ _ _ _ _ _ _ _ _ _ _ _ _ _ _ _ _ _ _ _ _ _ _ _ _ _ _ _ _ _ _ _ _ _ _ _ _ _ _ _ _ _ _ _ _ _ _ _ _ _ _ _ _ _ _ _ _ _ _ _ _ _ _ _ _
  unfold Pushes
  rw [decide_eq_true_iff]
end Go.Proofs.Ybulkawyi
