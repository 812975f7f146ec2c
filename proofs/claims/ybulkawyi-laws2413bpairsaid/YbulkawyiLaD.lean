import Derived.Test.YbulkawyiLaC
namespace Go.Proofs.Ybulkawyi
open Go.RowKit
attribute [local go_sem] run_store_float
set_option linter.unusedVariables false

/-- The tracker as the literal lays it. -/
structure Laid (base : Nat) (w0 w : World) (T nb xb lb ta x0 y0 vx vy x1 y1 ux uy r2 : Nat) : Prop where
  below : Below base w0 w
  hbase : base ≤ lb
  n : w.cell? ⟨T, 0, none⟩ = some (.int .i64 2)
  r2 : w.cell? ⟨T, 1, none⟩ = some (.float .f64 r2)
  fz : w.cell? ⟨T, 2, none⟩ = some (.float .f64 4741671816366391296)
  nodes : w.cell? ⟨T, 7, none⟩ = some (.slice (some ⟨nb, 0, none⟩) 2 2)
  nx : w.cell? ⟨T, 8, none⟩ = some (.slice (some ⟨xb, 0, none⟩) 2 2)
  ln : w.cell? ⟨T, 9, none⟩ = some (.slice (some ⟨lb, 0, none⟩) 4 4)
  ma : Mot w nb 0 ta x0 y0 vx vy
  mb : Mot w nb 8 ta x1 y1 ux uy
  i0 : w.cell? ⟨xb, 0, none⟩ = some (.float .f64 9218868437227405312)
  i1 : w.cell? ⟨xb, 1, none⟩ = some (.float .f64 9218868437227405312)
  hp : w.cell? ⟨T, 13, none⟩ = some (.slice none 0 0)
  cur : w.cell? ⟨T, 14, none⟩ = some (.int .i64 0)
  nn : w.cell? ⟨T, 18, none⟩ = some (.int .i64 0)
  rd : w.cell? ⟨T, 19, none⟩ = some (.slice none 0 0)
  l0 : w.cell? ⟨lb, 0, none⟩ = some (.bool false)
  l1 : w.cell? ⟨lb, 1, none⟩ = some (.bool false)
  l2 : w.cell? ⟨lb, 2, none⟩ = some (.bool false)
  l3 : w.cell? ⟨lb, 3, none⟩ = some (.bool false)
  fT : ∀ o, w.frozen? ⟨T, o, none⟩ = false
  fl : ∀ o, w.frozen? ⟨lb, o, none⟩ = false
  ltn : nb < T
  ltx : xb < T
  ltl : lb < T
  nxl : xb ≠ lb
  nnl : nb ≠ lb
  lt : T < w.heap.size

theorem Laid.ready {base : Nat} {w0 w : World} {T nb xb lb ta x0 y0 vx vy x1 y1 ux uy r2 : Nat} (h : Laid base w0 w T nb xb lb ta x0 y0 vx vy x1 y1 ux uy r2) (was : Bool) :
    Trk ((w.setCell ⟨T, 14, none⟩ (.int .i64 4611686018427387904)).setCell ⟨lb, 1, none⟩ (.bool was)) T nb xb lb ta x0 y0 vx vy x1 y1 ux uy r2 ∧ Ent ((w.setCell ⟨T, 14, none⟩ (.int .i64 4611686018427387904)).setCell ⟨lb, 1, none⟩ (.bool was)) T lb was
      ∧ Below base w0 ((w.setCell ⟨T, 14, none⟩ (.int .i64 4611686018427387904)).setCell ⟨lb, 1, none⟩ (.bool was)) := by
  have hn := h.ltn
  have hx := h.ltx
  have hl := h.ltl
  have h1 := h.nxl
  have h2 := h.nnl
  have cT : ∀ o, o ≠ 14 → ((w.setCell ⟨T, 14, none⟩ (.int .i64 4611686018427387904)).setCell ⟨lb, 1, none⟩ (.bool was)).cell? ⟨T, o, none⟩ = w.cell? ⟨T, o, none⟩ := fun o k => by rw [cset_block (by omega), cset_off (by omega)]
  have cN : ∀ o, ((w.setCell ⟨T, 14, none⟩ (.int .i64 4611686018427387904)).setCell ⟨lb, 1, none⟩ (.bool was)).cell? ⟨nb, o, none⟩ = w.cell? ⟨nb, o, none⟩ := fun o => by rw [cset_block (by omega), cset_block (by omega)]
  have cX : ∀ o, ((w.setCell ⟨T, 14, none⟩ (.int .i64 4611686018427387904)).setCell ⟨lb, 1, none⟩ (.bool was)).cell? ⟨xb, o, none⟩ = w.cell? ⟨xb, o, none⟩ := fun o => by rw [cset_block (by omega), cset_block (by omega)]
  have cL : ∀ o, o ≠ 1 → ((w.setCell ⟨T, 14, none⟩ (.int .i64 4611686018427387904)).setCell ⟨lb, 1, none⟩ (.bool was)).cell? ⟨lb, o, none⟩ = w.cell? ⟨lb, o, none⟩ := fun o k => by rw [cset_off (by omega), cset_block (by omega)]
  have c14 : ((w.setCell ⟨T, 14, none⟩ (.int .i64 4611686018427387904)).setCell ⟨lb, 1, none⟩ (.bool was)).cell? ⟨T, 14, none⟩ = some (.int .i64 4611686018427387904) := by rw [cset_block (by omega), cset_same h.cur]
  have cL1 : ((w.setCell ⟨T, 14, none⟩ (.int .i64 4611686018427387904)).setCell ⟨lb, 1, none⟩ (.bool was)).cell? ⟨lb, 1, none⟩ = some (.bool was) := cset_same (by rw [cset_block (by omega)]; exact h.l1)
  have ff : ∀ p, ((w.setCell ⟨T, 14, none⟩ (.int .i64 4611686018427387904)).setCell ⟨lb, 1, none⟩ (.bool was)).frozen? p = w.frozen? p := fun p => by rw [fset, fset]
  refine ⟨⟨(cT 0 (by decide)).trans h.n, (cT 1 (by decide)).trans h.r2, (cT 2 (by decide)).trans h.fz, (cT 7 (by decide)).trans h.nodes, (cT 8 (by decide)).trans h.nx, (cT 9 (by decide)).trans h.ln,
    ⟨(cN _).trans h.ma.c0, (cN _).trans h.ma.c1, (cN _).trans h.ma.c2, (cN _).trans h.ma.c3, (cN _).trans h.ma.c4, (cN _).trans h.ma.c5⟩,
    ⟨(cN _).trans h.mb.c0, (cN _).trans h.mb.c1, (cN _).trans h.mb.c2, (cN _).trans h.mb.c3, (cN _).trans h.mb.c4, (cN _).trans h.mb.c5⟩,
    (cX _).trans h.i0, (cX _).trans h.i1, (cT 13 (by decide)).trans h.hp, c14, (cT 18 (by decide)).trans h.nn, fun o => (ff _).trans (h.fT o), hn, hx, hl, h1, h2, by simpa using h.lt⟩,
    ⟨(cL 0 (by decide)).trans h.l0, cL1, (cL 2 (by decide)).trans h.l2, (cL 3 (by decide)).trans h.l3, (cT 19 (by decide)).trans h.rd, fun o => (ff _).trans (h.fl o)⟩, ?_⟩
  have hb := h.hbase
  exact (h.below.setCell (show base ≤ T by omega) _).setCell hb _

set_option maxRecDepth 100000 in
set_option maxHeartbeats 16000000 in
theorem lpair (base T nb xb lb ta x0 y0 vx vy x1 y1 ux uy r2 : Nat) (X0 Y0 VX VY X1 Y1 UX UY R DX DY WX WY s1 s2 s3 s4 C A : Int) (was wi : Bool) (P : Prop) (w0 w : World) (hl : Laid base w0 w T nb xb lb ta x0 y0 vx vy x1 y1 ux uy r2) (v0 : IntKind.wrap .i64 X0 = X0) (v1 : IntKind.wrap .i64 Y0 = Y0) (v2 : IntKind.wrap .i64 VX = VX) (v3 : IntKind.wrap .i64 VY = VY) (v4 : IntKind.wrap .i64 X1 = X1) (v5 : IntKind.wrap .i64 Y1 = Y1) (v6 : IntKind.wrap .i64 UX = UX) (v7 : IntKind.wrap .i64 UY = UY) (v8 : IntKind.wrap .i64 R = R) (m1 : IntKind.wrap .i64 (X1 - X0) = DX) (m2 : IntKind.wrap .i64 (Y1 - Y0) = DY) (m3 : IntKind.wrap .i64 (UX - VX) = WX) (m4 : IntKind.wrap .i64 (UY - VY) = WY) (m5 : IntKind.wrap .i64 (DX * DX) = s1) (m6 : IntKind.wrap .i64 (DY * DY) = s2) (m7 : IntKind.wrap .i64 (s1 + s2) = s3) (m8 : IntKind.wrap .i64 (R * R) = s4) (m9 : IntKind.wrap .i64 (s3 - s4) = C) (bC : decide (C ≤ 0) = wi)
    (hpair : ∀ wz, Trk wz T nb xb lb ta x0 y0 vx vy x1 y1 ux uy r2 → Ent wz T lb was → Calls Yba.prog 14 #[.pointer (some ⟨T, 0, none⟩), .int .i64 0, .int .i64 1, .float .f64 ta] wz fun e w' => e = .returned (.tuple #[]) ∧ Done base T lb ta wz w' was wi A P)
    (hgo : ∀ wz w', Below base w0 w' → Done base T lb ta wz w' was wi A P → ∀ (u0 u1 u2 u3 u4 u5 u6 u7 u8 u9 u11 u12 u13 u14 u15 u16 u17 u18 u19 u20 u21 u22 u24 u32 u33 u34 u35 u36 u37 u38 u39 u40 u41 u42 u43 u44 u45 u46 u47 u48 u49 u50 u51 u52 u53 u54 u55 u56 u57 u58 u59 u60 u61 u62 u63 u64 u65 u66 u67 u68 u69 u70 u71 u72 u73 u74 u75 u76 u77 u78 u79 u80 u81 u82 u83 u84 u85 u86 u87 u88 u89 u90 u91 u92 u93 u94 u95 u96 u97 u98 u99 u100 u101 u102 u103 u104 u105 u106 u107 u108 u109 u110 u111 u112 u113 u114 u115 u116 u117 u118 u119 u120 u121 u122 u123 u124 u125 u126 u127 u128 u129 u130 u131 u132 u133 u134 u135 u136 u137 u138 u139 u140 u141 u142 u143 u144 u145 u146 u147 u148 u149 u150 u151 u152 u153 u154 u155 u156 u157 u158 u159 u160 u161 u162 u163 u164 u165 u166 u167 u168 u169 u170 u171 u172 u173 u174 u175 u176 u177 u178 u179 u180 u181 u182 u183 u184 u185 u186 u187 u188 u189 u190 u191 u192 u193 u194 u195 u196 u197 u198 u199 u200 u201 u202 u203 u204 u205 u206 u207 u208 u209 u210 u211 u212 u213 u214 u215 u216 u217 u218 u219 u220 u221 u222 u223 u224 u225 u226 u227 u228 u229 u230 u231 u232 u233 u234 u235 u236 u237 u238 u239 u240 u241 u242 u243 u244 u245 u246 u247 u248 u249 u250 u251 u252 u253 u254 u255 u256 u257 u258 u259 u260 u261 u262 u263 u264 u265 u266 u267 u268 u269 u270 u271 u272 u273 u274 u275 u276 u277 u278 u279 u280 u281 u282 u283 u284 u285 u286 u287 u288 u289 u290 u291 u292 u293 u294 u295 u296 u297 u298 u299 u300 u301 u302 u303 u304 : Value), Code.wp Yba.prog (secondOf (secondOf (secondOf (secondOf (secondOf (secondOf (secondOf (secondOf (secondOf (secondOf (secondOf (secondOf (secondOf (Yba.f5.body.getD .skip)))))))))))))) (bodyPost Yba.prog Yba.f5 fun e w' => e = .returned (.bool true) ∧ Below base w0 w') { tmps := #[u0, u1, u2, u3, u4, u5, u6, u7, u8, u9, .bool was, u11, u12, u13, u14, u15, u16, u17, u18, u19, u20, u21, u22, .float .f64 ta, u24, .pointer (some ⟨T, 0, none⟩), .int .i64 DX, .int .i64 DY, .int .i64 WX, .int .i64 WY, .int .i64 C, .bool wi, u32, u33, u34, u35, u36, u37, u38, u39, u40, u41, u42, u43, u44, u45, u46, u47, u48, u49, u50, u51, u52, u53, u54, u55, u56, u57, u58, u59, u60, u61, u62, u63, u64, u65, u66, u67, u68, u69, u70, u71, u72, u73, u74, u75, u76, u77, u78, u79, u80, u81, u82, u83, u84, u85, u86, u87, u88, u89, u90, u91, u92, u93, u94, u95, u96, u97, u98, u99, u100, u101, u102, u103, u104, u105, u106, u107, u108, u109, u110, u111, u112, u113, u114, u115, u116, u117, u118, u119, u120, u121, u122, u123, u124, u125, u126, u127, u128, u129, u130, u131, u132, u133, u134, u135, u136, u137, u138, u139, u140, u141, u142, u143, u144, u145, u146, u147, u148, u149, u150, u151, u152, u153, u154, u155, u156, u157, u158, u159, u160, u161, u162, u163, u164, u165, u166, u167, u168, u169, u170, u171, u172, u173, u174, u175, u176, u177, u178, u179, u180, u181, u182, u183, u184, u185, u186, u187, u188, u189, u190, u191, u192, u193, u194, u195, u196, u197, u198, u199, u200, u201, u202, u203, u204, u205, u206, u207, u208, u209, u210, u211, u212, u213, u214, u215, u216, u217, u218, u219, u220, u221, u222, u223, u224, u225, u226, u227, u228, u229, u230, u231, u232, u233, u234, u235, u236, u237, u238, u239, u240, u241, u242, u243, u244, u245, u246, u247, u248, u249, u250, u251, u252, u253, u254, u255, u256, u257, u258, u259, u260, u261, u262, u263, u264, u265, u266, u267, u268, u269, u270, u271, u272, u273, u274, u275, u276, u277, u278, u279, u280, u281, u282, u283, u284, u285, u286, u287, u288, u289, u290, u291, u292, u293, u294, u295, u296, u297, u298, u299, u300, u301, u302, u303, u304], defers := [] } w') (u9 u11 u12 u13 u14 u15 u16 u17 u18 u19 u20 u21 u22 u24 u26 u27 u28 u29 u30 u31 u32 u33 u34 u35 u36 u37 u38 u39 u40 u41 u42 u43 u44 u45 u46 u47 u48 u49 u50 u51 u52 u53 u54 u55 u56 u57 u58 u59 u60 u61 u62 u63 u64 u65 u66 u67 u68 u69 u70 u71 u72 u73 u74 u75 u76 u77 u78 u79 u80 u81 u82 u83 u84 u85 u86 u87 u88 u89 u90 u91 u92 u93 u94 u95 u96 u97 u98 u99 u100 u101 u102 u103 u104 u105 u106 u107 u108 u109 u110 u111 u112 u113 u114 u115 u116 u117 u118 u119 u120 u121 u122 u123 u124 u125 u126 u127 u128 u129 u130 u131 u132 u133 u134 u135 u136 u137 u138 u139 u140 u141 u142 u143 u144 u145 u146 u147 u148 u149 u150 u151 u152 u153 u154 u155 u156 u157 u158 u159 u160 u161 u162 u163 u164 u165 u166 u167 u168 u169 u170 u171 u172 u173 u174 u175 u176 u177 u178 u179 u180 u181 u182 u183 u184 u185 u186 u187 u188 u189 u190 u191 u192 u193 u194 u195 u196 u197 u198 u199 u200 u201 u202 u203 u204 u205 u206 u207 u208 u209 u210 u211 u212 u213 u214 u215 u216 u217 u218 u219 u220 u221 u222 u223 u224 u225 u226 u227 u228 u229 u230 u231 u232 u233 u234 u235 u236 u237 u238 u239 u240 u241 u242 u243 u244 u245 u246 u247 u248 u249 u250 u251 u252 u253 u254 u255 u256 u257 u258 u259 u260 u261 u262 u263 u264 u265 u266 u267 u268 u269 u270 u271 u272 u273 u274 u275 u276 u277 u278 u279 u280 u281 u282 u283 u284 u285 u286 u287 u288 u289 u290 u291 u292 u293 u294 u295 u296 u297 u298 u299 u300 u301 u302 u303 u304 : Value) :
    Code.wp Yba.prog (secondOf (secondOf (secondOf (secondOf (Yba.f5.body.getD .skip))))) (bodyPost Yba.prog Yba.f5 fun e w' => e = .returned (.bool true) ∧ Below base w0 w') { tmps := #[.int .i8 X0, .int .i8 Y0, .int .i8 VX, .int .i8 VY, .int .i8 X1, .int .i8 Y1, .int .i8 UX, .int .i8 UY, .int .u8 R, u9, .bool was, u11, u12, u13, u14, u15, u16, u17, u18, u19, u20, u21, u22, .float .f64 ta, u24, .pointer (some ⟨T, 0, none⟩), u26, u27, u28, u29, u30, u31, u32, u33, u34, u35, u36, u37, u38, u39, u40, u41, u42, u43, u44, u45, u46, u47, u48, u49, u50, u51, u52, u53, u54, u55, u56, u57, u58, u59, u60, u61, u62, u63, u64, u65, u66, u67, u68, u69, u70, u71, u72, u73, u74, u75, u76, u77, u78, u79, u80, u81, u82, u83, u84, u85, u86, u87, u88, u89, u90, u91, u92, u93, u94, u95, u96, u97, u98, u99, u100, u101, u102, u103, u104, u105, u106, u107, u108, u109, u110, u111, u112, u113, u114, u115, u116, u117, u118, u119, u120, u121, u122, u123, u124, u125, u126, u127, u128, u129, u130, u131, u132, u133, u134, u135, u136, u137, u138, u139, u140, u141, u142, u143, u144, u145, u146, u147, u148, u149, u150, u151, u152, u153, u154, u155, u156, u157, u158, u159, u160, u161, u162, u163, u164, u165, u166, u167, u168, u169, u170, u171, u172, u173, u174, u175, u176, u177, u178, u179, u180, u181, u182, u183, u184, u185, u186, u187, u188, u189, u190, u191, u192, u193, u194, u195, u196, u197, u198, u199, u200, u201, u202, u203, u204, u205, u206, u207, u208, u209, u210, u211, u212, u213, u214, u215, u216, u217, u218, u219, u220, u221, u222, u223, u224, u225, u226, u227, u228, u229, u230, u231, u232, u233, u234, u235, u236, u237, u238, u239, u240, u241, u242, u243, u244, u245, u246, u247, u248, u249, u250, u251, u252, u253, u254, u255, u256, u257, u258, u259, u260, u261, u262, u263, u264, u265, u266, u267, u268, u269, u270, u271, u272, u273, u274, u275, u276, u277, u278, u279, u280, u281, u282, u283, u284, u285, u286, u287, u288, u289, u290, u291, u292, u293, u294, u295, u296, u297, u298, u299, u300, u301, u302, u303, u304], defers := [] } w := by
  obtain ⟨RS, hRS⟩ : ∃ RS, RS = (secondOf (secondOf (secondOf (secondOf (secondOf (secondOf (secondOf (secondOf (secondOf (secondOf (secondOf (secondOf (secondOf (Yba.f5.body.getD .skip)))))))))))))) := ⟨_, rfl⟩
  obtain ⟨TT, hTT⟩ : ∃ TT, TT = (Code.seq (firstOf (secondOf (secondOf (secondOf (secondOf (Yba.f5.body.getD .skip)))))) (Code.seq (firstOf (secondOf (secondOf (secondOf (secondOf (secondOf (Yba.f5.body.getD .skip))))))) (Code.seq (firstOf (secondOf (secondOf (secondOf (secondOf (secondOf (secondOf (Yba.f5.body.getD .skip)))))))) (Code.seq (firstOf (secondOf (secondOf (secondOf (secondOf (secondOf (secondOf (secondOf (Yba.f5.body.getD .skip))))))))) (Code.seq (firstOf (secondOf (secondOf (secondOf (secondOf (secondOf (secondOf (secondOf (secondOf (Yba.f5.body.getD .skip)))))))))) (Code.seq (firstOf (secondOf (secondOf (secondOf (secondOf (secondOf (secondOf (secondOf (secondOf (secondOf (Yba.f5.body.getD .skip))))))))))) (Code.seq (firstOf (secondOf (secondOf (secondOf (secondOf (secondOf (secondOf (secondOf (secondOf (secondOf (secondOf (Yba.f5.body.getD .skip)))))))))))) (Code.seq (firstOf (secondOf (secondOf (secondOf (secondOf (secondOf (secondOf (secondOf (secondOf (secondOf (secondOf (secondOf (Yba.f5.body.getD .skip))))))))))))) (Code.seq (firstOf (secondOf (secondOf (secondOf (secondOf (secondOf (secondOf (secondOf (secondOf (secondOf (secondOf (secondOf (secondOf (Yba.f5.body.getD .skip)))))))))))))) RS))))))))) := ⟨_, rfl⟩
  have hE : (secondOf (secondOf (secondOf (secondOf (Yba.f5.body.getD .skip))))) = TT := by rw [hTT, hRS]; rfl
  rw [hE]
  have HRS : Hid _ := hRS
  clear hE hRS
  dsimp only [Yba.f5, Option.getD, secondOf, firstOf] at hTT
  subst hTT
  dsimp only
  have hr := hl.ready was
  have HP : Hid _ := hpair _ hr.1 hr.2.1
  have HGO : Hid _ := hgo
  have HBW : Hid _ := hr.2.2
  have cur := hl.cur
  have f14 := hl.fT 14
  have ln := hl.ln
  have l1 := hl.l1
  have f1 := hl.fl 1
  have hlT : lb ≠ T := Nat.ne_of_lt hl.ltl
  have hTl : T ≠ lb := Nat.ne_of_gt hl.ltl
  have ln' : (w.setCell ⟨T, 14, none⟩ (.int .i64 4611686018427387904)).cell? ⟨T, 9, none⟩ = some (.slice (some ⟨lb, 0, none⟩) 4 4) := by rw [cset_off (by omega)]; exact ln
  have l1' : (w.setCell ⟨T, 14, none⟩ (.int .i64 4611686018427387904)).cell? ⟨lb, 1, none⟩ = some (.bool false) := by rw [cset_block (by omega)]; exact l1
  have f1' : (w.setCell ⟨T, 14, none⟩ (.int .i64 4611686018427387904)).frozen? ⟨lb, 1, none⟩ = false := by rw [fset]; exact f1
  clear hr hpair hgo hl
  go_wp2_with fail
  refine Calls.mono HP.out ?_
  rintro e w1 ⟨rfl, hdone⟩
  dsimp only
  have HALL : Hid _ := HGO.out _ w1 (HBW.out.trans hdone.below) hdone
  clear HGO HBW HP hdone cur f14 ln l1 f1 ln' l1' f1' hlT hTl
  go_wp2_with fail
  rw [HRS.out]
  exact HALL.out _ _ _ _ _ _ _ _ _ _ _ _ _ _ _ _ _ _ _ _ _ _ _ _ _ _ _ _ _ _ _ _ _ _ _ _ _ _ _ _ _ _ _ _ _ _ _ _ _ _ _ _ _ _ _ _ _ _ _ _ _ _ _ _ _ _ _ _ _ _ _ _ _ _ _ _ _ _ _ _ _ _ _ _ _ _ _ _ _ _ _ _ _ _ _ _ _ _ _ _ _ _ _ _ _ _ _ _ _ _ _ _ _ _ _ _ _ _ _ _ _ _ _ _ _ _ _ _ _ _ _ _ _ _ _ _ _ _ _ _ _ _ _ _ _ _ _ _ _ _ _ _ _ _ _ _ _ _ _ _ _ _ _ _ _ _ _ _ _ _ _ _ _ _ _ _ _ _ _ _ _ _ _ _ _ _ _ _ _ _ _ _ _ _ _ _ _ _ _ _ _ _ _ _ _ _ _ _ _ _ _ _ _ _ _ _ _ _ _ _ _ _ _ _ _ _ _ _ _ _ _ _ _ _ _ _ _ _ _ _ _ _ _ _ _ _ _ _ _ _ _ _ _ _ _ _ _ _ _ _ _ _ _ _ _ _ _ _ _ _ _ _ _ _ _ _ _ _ _ _ _ _ _ _ _ _ _ _ _ _ _ _ _ _ _ _
end Go.Proofs.Ybulkawyi
