import Derived.Test.YbulkawyiPrF
import Derived.Test.YbulkawyiPrM
namespace Go.Proofs.Ybulkawyi
open Go.RowKit
set_option linter.unusedVariables false

set_option maxRecDepth 100000 in
set_option maxHeartbeats 16000000 in
theorem pd1t (T nb xb lb ta x0 y0 vx vy x1 y1 ux uy r2 dn th : Nat) (vd : Int) (w : World) (R : World → Prop) (ht : Trk w T nb xb lb ta x0 y0 vx vy x1 y1 ux uy r2) (hd : V dn vd) (hd1 : -268435456 * Sc ≤ vd) (hd2 : vd ≤ 824633720832 * Sc)
    (hh : HorIs ta x0 y0 vx vy x1 y1 ux uy r2 th) (o3 : FloatKind.f64.format.order th 0 = some .gt)
    (hfin : ∀ nd z w', V nd z → vd < z → z ≤ 4398046511104 * Sc → Put T w w' nd 9218868437227405312 1 false → R w') (u4 u5 u6 u7 u10 u11 u12 u15 u16 u17 u18 u19 u22 u23 u24 u25 u26 u27 u28 u29 u30 u31 u32 u33 u34 u35 u36 u37 u38 u39 u40 u41 u42 u43 u44 u45 u46 u47 u48 u49 u50 u51 u52 u53 u54 u55 u56 u57 u58 u59 u60 u61 u62 u63 u64 u65 u66 u67 u68 u69 u70 u71 u72 u73 u74 u75 u76 u77 u78 u79 u80 u81 u82 u83 u84 u85 u86 u87 u88 u89 u90 u91 u92 u93 u94 u95 u96 u97 u98 u99 u100 u101 u102 u103 u104 u105 u106 u107 u108 u109 u110 u111 u112 u113 u114 u115 u116 u117 u118 u119 u120 u121 u122 u123 u124 u125 u126 u127 u128 u129 u130 u131 u132 u133 u134 u135 u136 u137 u138 u139 u140 u141 u142 u143 u144 u145 u146 u147 u148 u149 u150 u151 u152 u153 u154 u155 u156 u157 u158 u159 u160 u161 u162 u163 u164 u165 u166 u167 u168 u169 u170 u171 u172 u173 u174 u175 u176 u177 u178 u179 u180 u181 u182 u183 u184 u185 u186 u187 u188 u189 u190 u191 u192 u193 u194 u195 u196 u197 u198 u199 u200 u201 u202 u203 u204 u205 u206 u207 u208 u209 u210 u211 u212 u213 u214 u215 u216 u217 u218 u219 u220 u221 u222 u223 u224 u225 u226 u227 u228 u229 u230 u231 u232 u233 u234 u235 u236 u237 u238 u239 u240 u241 u242 u243 u244 u245 u246 u247 u248 u249 u250 u251 u252 u253 u254 u255 u256 u257 u258 u259 u260 u261 u262 u263 u264 u265 u266 u267 u268 u269 u270 u271 u272 u273 u274 u275 u276 u277 u278 u279 u280 : Value) :
    Code.wp Yba.prog (secondOf (secondOf (secondOf (secondOf (secondOf (secondOf (secondOf (secondOf (secondOf (secondOf (secondOf (secondOf (Yba.f14.body.getD .skip))))))))))))) (bodyPost Yba.prog Yba.f14 fun e w' => e = .returned (.tuple #[]) ∧ R w') { tmps := #[.pointer (some ⟨T, 0, none⟩), .int .i64 0, .int .i64 1, .float .f64 ta, u4, u5, u6, u7, .pointer (some ⟨nb, 0, none⟩), .pointer (some ⟨nb, 8, none⟩), u10, u11, u12, .bool true, .int .i64 1, u15, u16, u17, u18, u19, .float .f64 18442240474082181120, .float .f64 dn, u22, u23, u24, u25, u26, u27, u28, u29, u30, u31, u32, u33, u34, u35, u36, u37, u38, u39, u40, u41, u42, u43, u44, u45, u46, u47, u48, u49, u50, u51, u52, u53, u54, u55, u56, u57, u58, u59, u60, u61, u62, u63, u64, u65, u66, u67, u68, u69, u70, u71, u72, u73, u74, u75, u76, u77, u78, u79, u80, u81, u82, u83, u84, u85, u86, u87, u88, u89, u90, u91, u92, u93, u94, u95, u96, u97, u98, u99, u100, u101, u102, u103, u104, u105, u106, u107, u108, u109, u110, u111, u112, u113, u114, u115, u116, u117, u118, u119, u120, u121, u122, u123, u124, u125, u126, u127, u128, u129, u130, u131, u132, u133, u134, u135, u136, u137, u138, u139, u140, u141, u142, u143, u144, u145, u146, u147, u148, u149, u150, u151, u152, u153, u154, u155, u156, u157, u158, u159, u160, u161, u162, u163, u164, u165, u166, u167, u168, u169, u170, u171, u172, u173, u174, u175, u176, u177, u178, u179, u180, u181, u182, u183, u184, u185, u186, u187, u188, u189, u190, u191, u192, u193, u194, u195, u196, u197, u198, u199, u200, u201, u202, u203, u204, u205, u206, u207, u208, u209, u210, u211, u212, u213, u214, u215, u216, u217, u218, u219, u220, u221, u222, u223, u224, u225, u226, u227, u228, u229, u230, u231, u232, u233, u234, u235, u236, u237, u238, u239, u240, u241, u242, u243, u244, u245, u246, u247, u248, u249, u250, u251, u252, u253, u254, u255, u256, u257, u258, u259, u260, u261, u262, u263, u264, u265, u266, u267, u268, u269, u270, u271, u272, u273, u274, u275, u276, u277, u278, u279, u280], defers := [] } w := by
  obtain ⟨RS, hRS⟩ : ∃ RS, RS = (secondOf (secondOf (secondOf (secondOf (secondOf (secondOf (secondOf (secondOf (secondOf (secondOf (secondOf (secondOf (secondOf (secondOf (secondOf (Yba.f14.body.getD .skip)))))))))))))))) := ⟨_, rfl⟩
  obtain ⟨TT, hTT⟩ : ∃ TT, TT = (Code.seq (firstOf (secondOf (secondOf (secondOf (secondOf (secondOf (secondOf (secondOf (secondOf (secondOf (secondOf (secondOf (secondOf (Yba.f14.body.getD .skip)))))))))))))) (Code.seq (firstOf (secondOf (secondOf (secondOf (secondOf (secondOf (secondOf (secondOf (secondOf (secondOf (secondOf (secondOf (secondOf (secondOf (Yba.f14.body.getD .skip))))))))))))))) (Code.seq (firstOf (secondOf (secondOf (secondOf (secondOf (secondOf (secondOf (secondOf (secondOf (secondOf (secondOf (secondOf (secondOf (secondOf (secondOf (Yba.f14.body.getD .skip)))))))))))))))) RS))) := ⟨_, rfl⟩
  have hE : (secondOf (secondOf (secondOf (secondOf (secondOf (secondOf (secondOf (secondOf (secondOf (secondOf (secondOf (secondOf (Yba.f14.body.getD .skip))))))))))))) = TT := by rw [hTT, hRS]; rfl
  rw [hE]
  have HRS : Hid _ := hRS
  clear hE hRS
  dsimp only [Yba.f14, Option.getD, secondOf, firstOf] at hTT
  subst hTT
  dsimp only
  have hm := hd
  have hmx : ∀ (ts : Array TypeId) (t : TypeId) (w : World), (Builtin.max_ ts t #[.float .f64 18442240474082181120, .float .f64 dn]).run Yba.prog w = .ok (.float .f64 dn) w := fun ts t w => max_lt hd.lt_inf.2.2.1 w
  have hS := Sc_pos
  obtain ⟨z, hz, z1, z2⟩ := nextUp_V (B := 1099511627776) hd (by omega) (Go.Proofs.Ybulkawyi.RS.int (by decide)) (by omega)
  obtain ⟨xa, ya, xb', yb, dx, dy, ha, hb, hg⟩ := hh
  have ⟨o1, o2⟩ := lt_hor hz (by omega)
  have HNX : Hid _ := fun w => next_calls hm w
  have HG : Hid _ := fun q => gap_calls T nb 0 8 4741671816366391296 ta x0 y0 vx vy ta x1 y1 ux uy xa ya xb' yb r2 dx dy th _ (w.drewN q) hor_N (ht.ma.drew q) (ht.mb.drew q) ht.r2 ha hb hg
  have HT : Hid _ := ht
  have HALL : Hid _ := fun q (u1 u2 u3 u4 u5 u6 u7 u8 u9 u10 u11 u12 u15 u16 u17 u18 u19 u22 u23 u25 u26 u28 u29 u30 u31 u32 u33 u34 u35 u36 u37 u38 u39 u40 u41 u42 u43 u44 u45 u46 u47 u48 u49 u50 u51 u52 u53 u54 u55 u56 u57 u58 u59 u60 u61 u62 u63 u64 u65 u66 u67 u68 u69 u70 u71 u72 u73 u74 u75 u76 u77 u78 u79 u80 u81 u82 u83 u84 u85 u86 u87 u88 u89 u90 u91 u92 u93 u94 u95 u96 u97 u98 u99 u100 u101 u102 u103 u104 u105 u106 u107 u108 u109 u110 u111 u112 u113 u114 u115 u116 u117 u118 u119 u120 u121 u122 u123 u124 u125 u126 u127 u128 u129 u130 u131 u132 u133 u134 u135 u136 u137 u138 u139 u140 u141 u142 u143 u144 u145 u146 u147 u148 u149 u150 u151 u152 u153 u154 u155 u156 u157 u158 u159 u160 u161 u162 u163 u164 u165 u166 u167 u168 u169 u170 u171 u172 u173 u174 u175 u176 u177 u178 u179 u180 u181 u182 u183 u184 u185 u186 u187 u188 u189 u190 u191 u192 u193 u194 u195 u196 u197 u198 u199 u200 u201 u202 u203 u204 u205 u206 u207 u208 u209 u210 u211 u212 u213 u214 u215 u216 u217 u218 u219 u220 u221 u222 u223 u224 u225 u226 u227 u228 u229 u230 u231 u232 u233 u234 u235 u236 u237 u238 u239 u240 u241 u242 u243 u244 u245 u246 u247 u248 u249 u250 u251 u252 u253 u254 u255 u256 u257 u258 u259 u260 u261 u262 u263 u264 u265 u266 u267 u268 u269 u270 u271 u272 u273 u274 u275 u276 u277 u278 u279 u280 : Value) => pd2t T (nextUp dn vd) th z (w.drewN q) R hz (by omega) o1 o2 o3 ht.lt ht.hp ht.cur ht.nn ht.fT (fun w' hp => hfin _ z w' hz z1 (by omega) hp.undrew) u1 u2 u3 u4 u5 u6 u7 u8 u9 u10 u11 u12 u15 u16 u17 u18 u19 u22 u23 u25 u26 u28 u29 u30 u31 u32 u33 u34 u35 u36 u37 u38 u39 u40 u41 u42 u43 u44 u45 u46 u47 u48 u49 u50 u51 u52 u53 u54 u55 u56 u57 u58 u59 u60 u61 u62 u63 u64 u65 u66 u67 u68 u69 u70 u71 u72 u73 u74 u75 u76 u77 u78 u79 u80 u81 u82 u83 u84 u85 u86 u87 u88 u89 u90 u91 u92 u93 u94 u95 u96 u97 u98 u99 u100 u101 u102 u103 u104 u105 u106 u107 u108 u109 u110 u111 u112 u113 u114 u115 u116 u117 u118 u119 u120 u121 u122 u123 u124 u125 u126 u127 u128 u129 u130 u131 u132 u133 u134 u135 u136 u137 u138 u139 u140 u141 u142 u143 u144 u145 u146 u147 u148 u149 u150 u151 u152 u153 u154 u155 u156 u157 u158 u159 u160 u161 u162 u163 u164 u165 u166 u167 u168 u169 u170 u171 u172 u173 u174 u175 u176 u177 u178 u179 u180 u181 u182 u183 u184 u185 u186 u187 u188 u189 u190 u191 u192 u193 u194 u195 u196 u197 u198 u199 u200 u201 u202 u203 u204 u205 u206 u207 u208 u209 u210 u211 u212 u213 u214 u215 u216 u217 u218 u219 u220 u221 u222 u223 u224 u225 u226 u227 u228 u229 u230 u231 u232 u233 u234 u235 u236 u237 u238 u239 u240 u241 u242 u243 u244 u245 u246 u247 u248 u249 u250 u251 u252 u253 u254 u255 u256 u257 u258 u259 u260 u261 u262 u263 u264 u265 u266 u267 u268 u269 u270 u271 u272 u273 u274 u275 u276 u277 u278 u279 u280
  have hz5 : ∀ (w : World) ts t, (Builtin.min_ ts t #[.float .f64 9218868437227405312, .float .f64 9218868437227405312, .float .f64 9218868437227405312, .float .f64 9218868437227405312, .float .f64 4741671816366391296]).run Yba.prog w = .ok (.float .f64 4741671816366391296) w := fun w ts t => min_five w
  have k5 := ht.ma.c5
  have l5 := ht.mb.c5
  obtain ⟨-, -, fz, -, nx, -, -, -, i0, i1, -, -, -, -, -, -, -, -, -, -⟩ := ht
  clear hfin hd1 hd2 hd hm hS ha hb hg z1 z2 hz o1 o2 o3
  go_wp2_with fail
  refine Calls.mono (inf_calls _) ?_
  rintro e w1 ⟨rfl, rfl⟩
  dsimp only
  go_wp2_with fail
  refine Calls.mono (HNX.out _) ?_
  rintro e w1 ⟨rfl, rfl⟩
  dsimp only
  go_wp2_with fail
  go_quiet (fail)
  all_goals
    go_wp2_with fail
    refine Calls.mono (HG.out _) ?_
    rintro e w1 ⟨rfl, q2, rfl⟩
    dsimp only
    go_wp2_with fail
    rw [HRS.out]
    exact HALL.out _ _ _ _ _ _ _ _ _ _ _ _ _ _ _ _ _ _ _ _ _ _ _ _ _ _ _ _ _ _ _ _ _ _ _ _ _ _ _ _ _ _ _ _ _ _ _ _ _ _ _ _ _ _ _ _ _ _ _ _ _ _ _ _ _ _ _ _ _ _ _ _ _ _ _ _ _ _ _ _ _ _ _ _ _ _ _ _ _ _ _ _ _ _ _ _ _ _ _ _ _ _ _ _ _ _ _ _ _ _ _ _ _ _ _ _ _ _ _ _ _ _ _ _ _ _ _ _ _ _ _ _ _ _ _ _ _ _ _ _ _ _ _ _ _ _ _ _ _ _ _ _ _ _ _ _ _ _ _ _ _ _ _ _ _ _ _ _ _ _ _ _ _ _ _ _ _ _ _ _ _ _ _ _ _ _ _ _ _ _ _ _ _ _ _ _ _ _ _ _ _ _ _ _ _ _ _ _ _ _ _ _ _ _ _ _ _ _ _ _ _ _ _ _ _ _ _ _ _ _ _ _ _ _ _ _ _ _ _ _ _ _ _ _ _ _ _ _ _ _ _ _ _ _ _ _ _ _ _ _ _ _ _ _ _ _ _ _ _ _ _ _ _ _ _
set_option maxRecDepth 100000 in
set_option maxHeartbeats 16000000 in
theorem pd1f (T nb xb lb ta x0 y0 vx vy x1 y1 ux uy r2 dn th : Nat) (up : Nat) (vd vu : Int) (w : World) (R : World → Prop) (ht : Trk w T nb xb lb ta x0 y0 vx vy x1 y1 ux uy r2) (hd : V dn vd) (hd1 : -268435456 * Sc ≤ vd) (hd2 : vd ≤ 824633720832 * Sc)
    (hh : HorIs ta x0 y0 vx vy x1 y1 ux uy r2 th) (o3 : FloatKind.f64.format.order th 0 = some .gt)
    (hu : V up vu) (hu1 : -268435456 * Sc ≤ vu) (hu2 : vu ≤ 824633720832 * Sc) (hfin : ∀ nd z w', V nd z → vu < z → z ≤ 4398046511104 * Sc → Put T w w' up nd 1 true → R w') (u4 u5 u6 u7 u10 u11 u12 u15 u16 u17 u18 u19 u22 u23 u24 u25 u26 u27 u28 u29 u30 u31 u32 u33 u34 u35 u36 u37 u38 u39 u40 u41 u42 u43 u44 u45 u46 u47 u48 u49 u50 u51 u52 u53 u54 u55 u56 u57 u58 u59 u60 u61 u62 u63 u64 u65 u66 u67 u68 u69 u70 u71 u72 u73 u74 u75 u76 u77 u78 u79 u80 u81 u82 u83 u84 u85 u86 u87 u88 u89 u90 u91 u92 u93 u94 u95 u96 u97 u98 u99 u100 u101 u102 u103 u104 u105 u106 u107 u108 u109 u110 u111 u112 u113 u114 u115 u116 u117 u118 u119 u120 u121 u122 u123 u124 u125 u126 u127 u128 u129 u130 u131 u132 u133 u134 u135 u136 u137 u138 u139 u140 u141 u142 u143 u144 u145 u146 u147 u148 u149 u150 u151 u152 u153 u154 u155 u156 u157 u158 u159 u160 u161 u162 u163 u164 u165 u166 u167 u168 u169 u170 u171 u172 u173 u174 u175 u176 u177 u178 u179 u180 u181 u182 u183 u184 u185 u186 u187 u188 u189 u190 u191 u192 u193 u194 u195 u196 u197 u198 u199 u200 u201 u202 u203 u204 u205 u206 u207 u208 u209 u210 u211 u212 u213 u214 u215 u216 u217 u218 u219 u220 u221 u222 u223 u224 u225 u226 u227 u228 u229 u230 u231 u232 u233 u234 u235 u236 u237 u238 u239 u240 u241 u242 u243 u244 u245 u246 u247 u248 u249 u250 u251 u252 u253 u254 u255 u256 u257 u258 u259 u260 u261 u262 u263 u264 u265 u266 u267 u268 u269 u270 u271 u272 u273 u274 u275 u276 u277 u278 u279 u280 : Value) :
    Code.wp Yba.prog (secondOf (secondOf (secondOf (secondOf (secondOf (secondOf (secondOf (secondOf (secondOf (secondOf (secondOf (secondOf (Yba.f14.body.getD .skip))))))))))))) (bodyPost Yba.prog Yba.f14 fun e w' => e = .returned (.tuple #[]) ∧ R w') { tmps := #[.pointer (some ⟨T, 0, none⟩), .int .i64 0, .int .i64 1, .float .f64 ta, u4, u5, u6, u7, .pointer (some ⟨nb, 0, none⟩), .pointer (some ⟨nb, 8, none⟩), u10, u11, u12, .bool false, .int .i64 1, u15, u16, u17, u18, u19, .float .f64 up, .float .f64 dn, u22, u23, u24, u25, u26, u27, u28, u29, u30, u31, u32, u33, u34, u35, u36, u37, u38, u39, u40, u41, u42, u43, u44, u45, u46, u47, u48, u49, u50, u51, u52, u53, u54, u55, u56, u57, u58, u59, u60, u61, u62, u63, u64, u65, u66, u67, u68, u69, u70, u71, u72, u73, u74, u75, u76, u77, u78, u79, u80, u81, u82, u83, u84, u85, u86, u87, u88, u89, u90, u91, u92, u93, u94, u95, u96, u97, u98, u99, u100, u101, u102, u103, u104, u105, u106, u107, u108, u109, u110, u111, u112, u113, u114, u115, u116, u117, u118, u119, u120, u121, u122, u123, u124, u125, u126, u127, u128, u129, u130, u131, u132, u133, u134, u135, u136, u137, u138, u139, u140, u141, u142, u143, u144, u145, u146, u147, u148, u149, u150, u151, u152, u153, u154, u155, u156, u157, u158, u159, u160, u161, u162, u163, u164, u165, u166, u167, u168, u169, u170, u171, u172, u173, u174, u175, u176, u177, u178, u179, u180, u181, u182, u183, u184, u185, u186, u187, u188, u189, u190, u191, u192, u193, u194, u195, u196, u197, u198, u199, u200, u201, u202, u203, u204, u205, u206, u207, u208, u209, u210, u211, u212, u213, u214, u215, u216, u217, u218, u219, u220, u221, u222, u223, u224, u225, u226, u227, u228, u229, u230, u231, u232, u233, u234, u235, u236, u237, u238, u239, u240, u241, u242, u243, u244, u245, u246, u247, u248, u249, u250, u251, u252, u253, u254, u255, u256, u257, u258, u259, u260, u261, u262, u263, u264, u265, u266, u267, u268, u269, u270, u271, u272, u273, u274, u275, u276, u277, u278, u279, u280], defers := [] } w := by
  obtain ⟨RS, hRS⟩ : ∃ RS, RS = (secondOf (secondOf (secondOf (secondOf (secondOf (secondOf (secondOf (secondOf (secondOf (secondOf (secondOf (secondOf (secondOf (secondOf (secondOf (Yba.f14.body.getD .skip)))))))))))))))) := ⟨_, rfl⟩
  obtain ⟨TT, hTT⟩ : ∃ TT, TT = (Code.seq (firstOf (secondOf (secondOf (secondOf (secondOf (secondOf (secondOf (secondOf (secondOf (secondOf (secondOf (secondOf (secondOf (Yba.f14.body.getD .skip)))))))))))))) (Code.seq (firstOf (secondOf (secondOf (secondOf (secondOf (secondOf (secondOf (secondOf (secondOf (secondOf (secondOf (secondOf (secondOf (secondOf (Yba.f14.body.getD .skip))))))))))))))) (Code.seq (firstOf (secondOf (secondOf (secondOf (secondOf (secondOf (secondOf (secondOf (secondOf (secondOf (secondOf (secondOf (secondOf (secondOf (secondOf (Yba.f14.body.getD .skip)))))))))))))))) RS))) := ⟨_, rfl⟩
  have hE : (secondOf (secondOf (secondOf (secondOf (secondOf (secondOf (secondOf (secondOf (secondOf (secondOf (secondOf (secondOf (Yba.f14.body.getD .skip))))))))))))) = TT := by rw [hTT, hRS]; rfl
  rw [hE]
  have HRS : Hid _ := hRS
  clear hE hRS
  dsimp only [Yba.f14, Option.getD, secondOf, firstOf] at hTT
  subst hTT
  dsimp only
  obtain ⟨mx, hm, hmx⟩ := max_V hu hd
  have hS := Sc_pos
  obtain ⟨z, hz, z1, z2⟩ := nextUp_V (B := 1099511627776) hm (by omega) (Go.Proofs.Ybulkawyi.RS.int (by decide)) (by omega)
  have ⟨o4, o5⟩ := lt_hor hu (by omega)
  obtain ⟨xa, ya, xb', yb, dx, dy, ha, hb, hg⟩ := hh
  have ⟨o1, o2⟩ := lt_hor hz (by omega)
  have HNX : Hid _ := fun w => next_calls hm w
  have HG : Hid _ := fun q => gap_calls T nb 0 8 4741671816366391296 ta x0 y0 vx vy ta x1 y1 ux uy xa ya xb' yb r2 dx dy th _ (w.drewN q) hor_N (ht.ma.drew q) (ht.mb.drew q) ht.r2 ha hb hg
  have HT : Hid _ := ht
  have HALL : Hid _ := fun q (u1 u2 u3 u4 u5 u6 u7 u8 u9 u10 u11 u12 u15 u16 u17 u18 u19 u22 u23 u25 u26 u28 u29 u30 u31 u32 u33 u34 u35 u36 u37 u38 u39 u40 u41 u42 u43 u44 u45 u46 u47 u48 u49 u50 u51 u52 u53 u54 u55 u56 u57 u58 u59 u60 u61 u62 u63 u64 u65 u66 u67 u68 u69 u70 u71 u72 u73 u74 u75 u76 u77 u78 u79 u80 u81 u82 u83 u84 u85 u86 u87 u88 u89 u90 u91 u92 u93 u94 u95 u96 u97 u98 u99 u100 u101 u102 u103 u104 u105 u106 u107 u108 u109 u110 u111 u112 u113 u114 u115 u116 u117 u118 u119 u120 u121 u122 u123 u124 u125 u126 u127 u128 u129 u130 u131 u132 u133 u134 u135 u136 u137 u138 u139 u140 u141 u142 u143 u144 u145 u146 u147 u148 u149 u150 u151 u152 u153 u154 u155 u156 u157 u158 u159 u160 u161 u162 u163 u164 u165 u166 u167 u168 u169 u170 u171 u172 u173 u174 u175 u176 u177 u178 u179 u180 u181 u182 u183 u184 u185 u186 u187 u188 u189 u190 u191 u192 u193 u194 u195 u196 u197 u198 u199 u200 u201 u202 u203 u204 u205 u206 u207 u208 u209 u210 u211 u212 u213 u214 u215 u216 u217 u218 u219 u220 u221 u222 u223 u224 u225 u226 u227 u228 u229 u230 u231 u232 u233 u234 u235 u236 u237 u238 u239 u240 u241 u242 u243 u244 u245 u246 u247 u248 u249 u250 u251 u252 u253 u254 u255 u256 u257 u258 u259 u260 u261 u262 u263 u264 u265 u266 u267 u268 u269 u270 u271 u272 u273 u274 u275 u276 u277 u278 u279 u280 : Value) => pd2f T up (nextUp mx (max vu vd)) th vu (w.drewN q) R hu (by omega) o1 o2 o3 o4 ht.lt ht.hp ht.cur ht.nn ht.fT (fun w' hp => hfin _ z w' hz (by omega) (by omega) hp.undrew) u1 u2 u3 u4 u5 u6 u7 u8 u9 u10 u11 u12 u15 u16 u17 u18 u19 u22 u23 u25 u26 u28 u29 u30 u31 u32 u33 u34 u35 u36 u37 u38 u39 u40 u41 u42 u43 u44 u45 u46 u47 u48 u49 u50 u51 u52 u53 u54 u55 u56 u57 u58 u59 u60 u61 u62 u63 u64 u65 u66 u67 u68 u69 u70 u71 u72 u73 u74 u75 u76 u77 u78 u79 u80 u81 u82 u83 u84 u85 u86 u87 u88 u89 u90 u91 u92 u93 u94 u95 u96 u97 u98 u99 u100 u101 u102 u103 u104 u105 u106 u107 u108 u109 u110 u111 u112 u113 u114 u115 u116 u117 u118 u119 u120 u121 u122 u123 u124 u125 u126 u127 u128 u129 u130 u131 u132 u133 u134 u135 u136 u137 u138 u139 u140 u141 u142 u143 u144 u145 u146 u147 u148 u149 u150 u151 u152 u153 u154 u155 u156 u157 u158 u159 u160 u161 u162 u163 u164 u165 u166 u167 u168 u169 u170 u171 u172 u173 u174 u175 u176 u177 u178 u179 u180 u181 u182 u183 u184 u185 u186 u187 u188 u189 u190 u191 u192 u193 u194 u195 u196 u197 u198 u199 u200 u201 u202 u203 u204 u205 u206 u207 u208 u209 u210 u211 u212 u213 u214 u215 u216 u217 u218 u219 u220 u221 u222 u223 u224 u225 u226 u227 u228 u229 u230 u231 u232 u233 u234 u235 u236 u237 u238 u239 u240 u241 u242 u243 u244 u245 u246 u247 u248 u249 u250 u251 u252 u253 u254 u255 u256 u257 u258 u259 u260 u261 u262 u263 u264 u265 u266 u267 u268 u269 u270 u271 u272 u273 u274 u275 u276 u277 u278 u279 u280
  have hz5 : ∀ (w : World) ts t, (Builtin.min_ ts t #[.float .f64 9218868437227405312, .float .f64 9218868437227405312, .float .f64 9218868437227405312, .float .f64 9218868437227405312, .float .f64 4741671816366391296]).run Yba.prog w = .ok (.float .f64 4741671816366391296) w := fun w ts t => min_five w
  have k5 := ht.ma.c5
  have l5 := ht.mb.c5
  obtain ⟨-, -, fz, -, nx, -, -, -, i0, i1, -, -, -, -, -, -, -, -, -, -⟩ := ht
  clear hfin hd1 hd2 hd hm hu hu1 hu2 o4 o5 hS ha hb hg z1 z2 hz o1 o2 o3
  go_wp2_with fail
  refine Calls.mono (inf_calls _) ?_
  rintro e w1 ⟨rfl, rfl⟩
  dsimp only
  go_wp2_with fail
  refine Calls.mono (HNX.out _) ?_
  rintro e w1 ⟨rfl, rfl⟩
  dsimp only
  go_wp2_with fail
  go_quiet (fail)
  all_goals
    go_wp2_with fail
    refine Calls.mono (HG.out _) ?_
    rintro e w1 ⟨rfl, q2, rfl⟩
    dsimp only
    go_wp2_with fail
    rw [HRS.out]
    exact HALL.out _ _ _ _ _ _ _ _ _ _ _ _ _ _ _ _ _ _ _ _ _ _ _ _ _ _ _ _ _ _ _ _ _ _ _ _ _ _ _ _ _ _ _ _ _ _ _ _ _ _ _ _ _ _ _ _ _ _ _ _ _ _ _ _ _ _ _ _ _ _ _ _ _ _ _ _ _ _ _ _ _ _ _ _ _ _ _ _ _ _ _ _ _ _ _ _ _ _ _ _ _ _ _ _ _ _ _ _ _ _ _ _ _ _ _ _ _ _ _ _ _ _ _ _ _ _ _ _ _ _ _ _ _ _ _ _ _ _ _ _ _ _ _ _ _ _ _ _ _ _ _ _ _ _ _ _ _ _ _ _ _ _ _ _ _ _ _ _ _ _ _ _ _ _ _ _ _ _ _ _ _ _ _ _ _ _ _ _ _ _ _ _ _ _ _ _ _ _ _ _ _ _ _ _ _ _ _ _ _ _ _ _ _ _ _ _ _ _ _ _ _ _ _ _ _ _ _ _ _ _ _ _ _ _ _ _ _ _ _ _ _ _ _ _ _ _ _ _ _ _ _ _ _ _ _ _ _ _ _ _ _ _ _ _ _ _ _ _ _ _ _ _ _ _ _
end Go.Proofs.Ybulkawyi
