import Derived.Test.YbulkawyiPrE
import Derived.Test.YbulkawyiNoteP
namespace Go.Proofs.Ybulkawyi
open Go.RowKit
attribute [local go_sem] run_store_float
set_option linter.unusedVariables false

theorem Put.undrew {T : Nat} {w w' : World} {q at_ down : Nat} {pr : Int} {up : Bool} (h : Put T (w.drewN q) w' at_ down pr up) : Put T w w' at_ down pr up := ⟨(bdrew (Below.refl T w) q).trans h.below, h.lt, h.n, h.other, h.far, h.heap⟩

/-- The cells of the tracker that pair reads. -/
structure Trk (w : World) (T nb xb lb ta x0 y0 vx vy x1 y1 ux uy r2 : Nat) : Prop where
  n : w.cell? ⟨T, 0, none⟩ = some (.int .i64 2)
  r2 : w.cell? ⟨T, 1, none⟩ = some (.float .f64 r2)
  fz : w.cell? ⟨T, 2, none⟩ = some (.float .f64 4741671816366391296)
  nodes : w.cell? ⟨T, 7, none⟩ = some (.slice (some ⟨nb, 0, none⟩) 2 2)
  nx : w.cell? ⟨T, 8, none⟩ = some (.slice (some ⟨xb, 0, none⟩) 2 2)
  ln : w.cell? ⟨T, 9, none⟩ = some (.slice (some ⟨lb, 0, none⟩) 4 4)
  ma : Mot w nb 0 ta x0 y0 vx vy
  mb : Mot w nb 8 ta x1 y1 ux uy
  i0 : w.cell? ⟨xb, 0, none⟩ = some (.float .f64 9218868437227405312)
  i1 : w.cell? ⟨xb, 1, none⟩ = some (.float .f64 9218868437227405312)
  hp : w.cell? ⟨T, 13, none⟩ = some (.slice none 0 0)
  cur : w.cell? ⟨T, 14, none⟩ = some (.int .i64 4611686018427387904)
  nn : w.cell? ⟨T, 18, none⟩ = some (.int .i64 0)
  fT : ∀ o, w.frozen? ⟨T, o, none⟩ = false
  ltn : nb < T
  ltx : xb < T
  ltl : lb < T
  nxl : xb ≠ lb
  nnl : nb ≠ lb
  lt : T < w.heap.size
theorem Trk.drew {w : World} {T nb xb lb ta x0 y0 vx vy x1 y1 ux uy r2 : Nat} (h : Trk w T nb xb lb ta x0 y0 vx vy x1 y1 ux uy r2) (q : Nat) : Trk (w.drewN q) T nb xb lb ta x0 y0 vx vy x1 y1 ux uy r2 :=
  ⟨h.n, h.r2, h.fz, h.nodes, h.nx, h.ln, h.ma.drew q, h.mb.drew q, h.i0, h.i1, h.hp, h.cur, h.nn, h.fT, h.ltn, h.ltx, h.ltl, h.nxl, h.nnl, h.lt⟩

set_option maxRecDepth 100000 in
set_option maxHeartbeats 16000000 in
theorem pd2t (T nd th : Nat) (z : Int) (w : World) (R : World → Prop) (hV : V nd z) (hz : z.natAbs ≤ 1073741824 * Sc * 1024)
    (o1 : FloatKind.f64.format.order nd 4741671816366391296 = some .lt) (o2 : FloatKind.f64.format.order 4741671816366391296 nd = some .gt) (o3 : FloatKind.f64.format.order th 0 = some .gt)
    (hT : T < w.heap.size) (hp : w.cell? ⟨T, 13, none⟩ = some (.slice none 0 0)) (cur : w.cell? ⟨T, 14, none⟩ = some (.int .i64 4611686018427387904)) (nn : w.cell? ⟨T, 18, none⟩ = some (.int .i64 0)) (fT : ∀ o, w.frozen? ⟨T, o, none⟩ = false)
    (hfin : ∀ w', Put T w w' nd 9218868437227405312 1 false → R w') (u1 u2 u3 u4 u5 u6 u7 u8 u9 u10 u11 u12 u15 u16 u17 u18 u19 u22 u23 u25 u26 u28 u29 u30 u31 u32 u33 u34 u35 u36 u37 u38 u39 u40 u41 u42 u43 u44 u45 u46 u47 u48 u49 u50 u51 u52 u53 u54 u55 u56 u57 u58 u59 u60 u61 u62 u63 u64 u65 u66 u67 u68 u69 u70 u71 u72 u73 u74 u75 u76 u77 u78 u79 u80 u81 u82 u83 u84 u85 u86 u87 u88 u89 u90 u91 u92 u93 u94 u95 u96 u97 u98 u99 u100 u101 u102 u103 u104 u105 u106 u107 u108 u109 u110 u111 u112 u113 u114 u115 u116 u117 u118 u119 u120 u121 u122 u123 u124 u125 u126 u127 u128 u129 u130 u131 u132 u133 u134 u135 u136 u137 u138 u139 u140 u141 u142 u143 u144 u145 u146 u147 u148 u149 u150 u151 u152 u153 u154 u155 u156 u157 u158 u159 u160 u161 u162 u163 u164 u165 u166 u167 u168 u169 u170 u171 u172 u173 u174 u175 u176 u177 u178 u179 u180 u181 u182 u183 u184 u185 u186 u187 u188 u189 u190 u191 u192 u193 u194 u195 u196 u197 u198 u199 u200 u201 u202 u203 u204 u205 u206 u207 u208 u209 u210 u211 u212 u213 u214 u215 u216 u217 u218 u219 u220 u221 u222 u223 u224 u225 u226 u227 u228 u229 u230 u231 u232 u233 u234 u235 u236 u237 u238 u239 u240 u241 u242 u243 u244 u245 u246 u247 u248 u249 u250 u251 u252 u253 u254 u255 u256 u257 u258 u259 u260 u261 u262 u263 u264 u265 u266 u267 u268 u269 u270 u271 u272 u273 u274 u275 u276 u277 u278 u279 u280 : Value) :
    Code.wp Yba.prog (secondOf (secondOf (secondOf (secondOf (secondOf (secondOf (secondOf (secondOf (secondOf (secondOf (secondOf (secondOf (secondOf (secondOf (secondOf (Yba.f14.body.getD .skip)))))))))))))))) (bodyPost Yba.prog Yba.f14 fun e w' => e = .returned (.tuple #[]) ∧ R w') { tmps := #[.pointer (some ⟨T, 0, none⟩), u1, u2, u3, u4, u5, u6, u7, u8, u9, u10, u11, u12, .bool true, .int .i64 1, u15, u16, u17, u18, u19, .float .f64 18442240474082181120, .float .f64 nd, u22, u23, .float .f64 4741671816366391296, u25, u26, .float .f64 th, u28, u29, u30, u31, u32, u33, u34, u35, u36, u37, u38, u39, u40, u41, u42, u43, u44, u45, u46, u47, u48, u49, u50, u51, u52, u53, u54, u55, u56, u57, u58, u59, u60, u61, u62, u63, u64, u65, u66, u67, u68, u69, u70, u71, u72, u73, u74, u75, u76, u77, u78, u79, u80, u81, u82, u83, u84, u85, u86, u87, u88, u89, u90, u91, u92, u93, u94, u95, u96, u97, u98, u99, u100, u101, u102, u103, u104, u105, u106, u107, u108, u109, u110, u111, u112, u113, u114, u115, u116, u117, u118, u119, u120, u121, u122, u123, u124, u125, u126, u127, u128, u129, u130, u131, u132, u133, u134, u135, u136, u137, u138, u139, u140, u141, u142, u143, u144, u145, u146, u147, u148, u149, u150, u151, u152, u153, u154, u155, u156, u157, u158, u159, u160, u161, u162, u163, u164, u165, u166, u167, u168, u169, u170, u171, u172, u173, u174, u175, u176, u177, u178, u179, u180, u181, u182, u183, u184, u185, u186, u187, u188, u189, u190, u191, u192, u193, u194, u195, u196, u197, u198, u199, u200, u201, u202, u203, u204, u205, u206, u207, u208, u209, u210, u211, u212, u213, u214, u215, u216, u217, u218, u219, u220, u221, u222, u223, u224, u225, u226, u227, u228, u229, u230, u231, u232, u233, u234, u235, u236, u237, u238, u239, u240, u241, u242, u243, u244, u245, u246, u247, u248, u249, u250, u251, u252, u253, u254, u255, u256, u257, u258, u259, u260, u261, u262, u263, u264, u265, u266, u267, u268, u269, u270, u271, u272, u273, u274, u275, u276, u277, u278, u279, u280], defers := [] } w := by
  obtain ⟨TT, hTT⟩ : ∃ TT, TT = (secondOf (secondOf (secondOf (secondOf (secondOf (secondOf (secondOf (secondOf (secondOf (secondOf (secondOf (secondOf (secondOf (secondOf (secondOf (Yba.f14.body.getD .skip)))))))))))))))) := ⟨_, rfl⟩
  rw [← hTT]
  dsimp only [Yba.f14, Option.getD, secondOf, firstOf] at hTT
  subst hTT
  dsimp only
  have o4 : FloatKind.f64.format.order 18442240474082181120 4741671816366391296 = some .lt := by kernel_rfl
  have hw1 : IntKind.wrap .i32 1 = 1 := by decide
  have HF : Hid _ := hfin
  have HI : Hid _ := fun w => isinf_no hV w
  have HP : Hid _ := fun q => push_calls T nd 9218868437227405312 1 false z (w.drewN q) hV hz hT hp cur nn (fT 13) (fT 18)
  clear hfin hV hz hT hp cur nn fT
  go_wp2_with fail
  refine Calls.mono (HI.out _) ?_
  rintro e w1 ⟨rfl, rfl⟩
  go_wp2_with fail
  go_region_with (first
    | (go_at_call 13; refine Calls.mono (inf_calls _) ?_; rintro e w2 ⟨rfl, rfl⟩)
    | (go_at_call 26; refine Calls.mono (HP.out _) ?_; rintro e w2 ⟨rfl, hput⟩; have HPUT : Hid _ := HF.out _ hput.undrew; clear hput))
  all_goals
    go_wp2
    (try simp only [Exit.inBlock, Exit.then]); refine bodyPost_end (results_none rfl _ _ _) rfl ?_
    exact ⟨rfl, HPUT.out⟩

set_option maxRecDepth 100000 in
set_option maxHeartbeats 16000000 in
theorem pd2f (T up nd th : Nat) (v : Int) (w : World) (R : World → Prop) (hV : V up v) (hz : v.natAbs ≤ 1073741824 * Sc * 1024)
    (o1 : FloatKind.f64.format.order nd 4741671816366391296 = some .lt) (o2 : FloatKind.f64.format.order 4741671816366391296 nd = some .gt) (o3 : FloatKind.f64.format.order th 0 = some .gt) (o4 : FloatKind.f64.format.order up 4741671816366391296 = some .lt)
    (hT : T < w.heap.size) (hp : w.cell? ⟨T, 13, none⟩ = some (.slice none 0 0)) (cur : w.cell? ⟨T, 14, none⟩ = some (.int .i64 4611686018427387904)) (nn : w.cell? ⟨T, 18, none⟩ = some (.int .i64 0)) (fT : ∀ o, w.frozen? ⟨T, o, none⟩ = false)
    (hfin : ∀ w', Put T w w' up nd 1 true → R w') (u1 u2 u3 u4 u5 u6 u7 u8 u9 u10 u11 u12 u15 u16 u17 u18 u19 u22 u23 u25 u26 u28 u29 u30 u31 u32 u33 u34 u35 u36 u37 u38 u39 u40 u41 u42 u43 u44 u45 u46 u47 u48 u49 u50 u51 u52 u53 u54 u55 u56 u57 u58 u59 u60 u61 u62 u63 u64 u65 u66 u67 u68 u69 u70 u71 u72 u73 u74 u75 u76 u77 u78 u79 u80 u81 u82 u83 u84 u85 u86 u87 u88 u89 u90 u91 u92 u93 u94 u95 u96 u97 u98 u99 u100 u101 u102 u103 u104 u105 u106 u107 u108 u109 u110 u111 u112 u113 u114 u115 u116 u117 u118 u119 u120 u121 u122 u123 u124 u125 u126 u127 u128 u129 u130 u131 u132 u133 u134 u135 u136 u137 u138 u139 u140 u141 u142 u143 u144 u145 u146 u147 u148 u149 u150 u151 u152 u153 u154 u155 u156 u157 u158 u159 u160 u161 u162 u163 u164 u165 u166 u167 u168 u169 u170 u171 u172 u173 u174 u175 u176 u177 u178 u179 u180 u181 u182 u183 u184 u185 u186 u187 u188 u189 u190 u191 u192 u193 u194 u195 u196 u197 u198 u199 u200 u201 u202 u203 u204 u205 u206 u207 u208 u209 u210 u211 u212 u213 u214 u215 u216 u217 u218 u219 u220 u221 u222 u223 u224 u225 u226 u227 u228 u229 u230 u231 u232 u233 u234 u235 u236 u237 u238 u239 u240 u241 u242 u243 u244 u245 u246 u247 u248 u249 u250 u251 u252 u253 u254 u255 u256 u257 u258 u259 u260 u261 u262 u263 u264 u265 u266 u267 u268 u269 u270 u271 u272 u273 u274 u275 u276 u277 u278 u279 u280 : Value) :
    Code.wp Yba.prog (secondOf (secondOf (secondOf (secondOf (secondOf (secondOf (secondOf (secondOf (secondOf (secondOf (secondOf (secondOf (secondOf (secondOf (secondOf (Yba.f14.body.getD .skip)))))))))))))))) (bodyPost Yba.prog Yba.f14 fun e w' => e = .returned (.tuple #[]) ∧ R w') { tmps := #[.pointer (some ⟨T, 0, none⟩), u1, u2, u3, u4, u5, u6, u7, u8, u9, u10, u11, u12, .bool false, .int .i64 1, u15, u16, u17, u18, u19, .float .f64 up, .float .f64 nd, u22, u23, .float .f64 4741671816366391296, u25, u26, .float .f64 th, u28, u29, u30, u31, u32, u33, u34, u35, u36, u37, u38, u39, u40, u41, u42, u43, u44, u45, u46, u47, u48, u49, u50, u51, u52, u53, u54, u55, u56, u57, u58, u59, u60, u61, u62, u63, u64, u65, u66, u67, u68, u69, u70, u71, u72, u73, u74, u75, u76, u77, u78, u79, u80, u81, u82, u83, u84, u85, u86, u87, u88, u89, u90, u91, u92, u93, u94, u95, u96, u97, u98, u99, u100, u101, u102, u103, u104, u105, u106, u107, u108, u109, u110, u111, u112, u113, u114, u115, u116, u117, u118, u119, u120, u121, u122, u123, u124, u125, u126, u127, u128, u129, u130, u131, u132, u133, u134, u135, u136, u137, u138, u139, u140, u141, u142, u143, u144, u145, u146, u147, u148, u149, u150, u151, u152, u153, u154, u155, u156, u157, u158, u159, u160, u161, u162, u163, u164, u165, u166, u167, u168, u169, u170, u171, u172, u173, u174, u175, u176, u177, u178, u179, u180, u181, u182, u183, u184, u185, u186, u187, u188, u189, u190, u191, u192, u193, u194, u195, u196, u197, u198, u199, u200, u201, u202, u203, u204, u205, u206, u207, u208, u209, u210, u211, u212, u213, u214, u215, u216, u217, u218, u219, u220, u221, u222, u223, u224, u225, u226, u227, u228, u229, u230, u231, u232, u233, u234, u235, u236, u237, u238, u239, u240, u241, u242, u243, u244, u245, u246, u247, u248, u249, u250, u251, u252, u253, u254, u255, u256, u257, u258, u259, u260, u261, u262, u263, u264, u265, u266, u267, u268, u269, u270, u271, u272, u273, u274, u275, u276, u277, u278, u279, u280], defers := [] } w := by
  obtain ⟨TT, hTT⟩ : ∃ TT, TT = (secondOf (secondOf (secondOf (secondOf (secondOf (secondOf (secondOf (secondOf (secondOf (secondOf (secondOf (secondOf (secondOf (secondOf (secondOf (Yba.f14.body.getD .skip)))))))))))))))) := ⟨_, rfl⟩
  rw [← hTT]
  dsimp only [Yba.f14, Option.getD, secondOf, firstOf] at hTT
  subst hTT
  dsimp only
  have hw1 : IntKind.wrap .i32 1 = 1 := by decide
  have HF : Hid _ := hfin
  have HP : Hid _ := push_calls T up nd 1 true v w hV hz hT hp cur nn (fT 13) (fT 18)
  clear hfin hV hz hT hp cur nn fT
  go_wp2_with fail
  refine Calls.mono (HP.out) ?_
  rintro e w2 ⟨rfl, hput⟩
  have HPUT : Hid _ := HF.out _ hput
  clear hput
  go_wp2
  (try simp only [Exit.inBlock, Exit.then]); refine bodyPost_end (results_none rfl _ _ _) rfl ?_
  exact ⟨rfl, HPUT.out⟩
end Go.Proofs.Ybulkawyi
