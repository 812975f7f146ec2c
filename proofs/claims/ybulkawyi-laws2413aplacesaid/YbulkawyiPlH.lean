import Derived.Test.YbulkawyiPlG
namespace Go.Proofs.Ybulkawyi
open Go.RowKit
set_option linter.unusedVariables false
attribute [local go_sem] run_store_float

set_option maxRecDepth 100000 in
set_option maxHeartbeats 16000000 in
theorem pl14 (w0 wx : World) (N B : Nat) (ao an : Option Addr) (nO nN cN : Nat) (L L' : List Nb) (o : Nb) (hctx : Ctx w0 wx N B ao an nO nN cN L L' o) (cO : Nat) (ix : Int) (full : Bool) (I : Nat) (hI : I = idx L o.id) (hix : (I < nO ∧ ix = (I : Int)) ∨ (I = nO ∧ ix = -1)) (hfull : full = (nO == 6)) (u0 u1 u2 u3 u4 u5 u7 u9 u13 u14 u15 u16 u17 u18 u19 u20 u21 u22 u23 u24 u25 u26 u27 u28 u29 u30 u31 u32 u33 u34 u35 u36 u37 u38 u39 u40 u41 u42 u43 u44 u45 u46 u47 u48 u49 u50 u51 u52 u53 u54 u55 u56 u57 u58 u59 u60 u61 u62 u63 u64 u65 u66 u67 u68 u69 u70 u71 u72 u73 u74 u75 u76 u77 u78 u79 u80 u81 u82 u83 u84 u85 u86 u87 u88 u89 u90 u91 u92 u93 u94 u95 u96 u97 u98 u99 u100 u101 u102 u103 u104 u105 u106 u107 u108 u109 u110 u111 u112 u113 u114 u115 u116 u117 u118 u119 u120 u121 u122 u123 u124 u125 u126 u127 u128 u129 u130 u131 u132 u133 u134 u135 u136 u137 u138 u139 u140 u141 u142 u143 u144 u145 u146 u147 u148 u149 u150 u151 u152 u153 u154 u155 u156 u157 u158 u159 u160 u161 u162 u163 u164 u165 u166 u167 u168 u169 u170 u171 u172 u173 u174 u175 u176 u177 u178 u179 u180 u181 u182 u183 u184 u185 u186 u187 u188 u189 u190 u191 u192 u193 u194 u195 u196 u197 u198 u199 u200 u201 u202 u203 u204 u205 u206 u207 u208 u209 u210 u211 u212 u213 u214 u215 u216 u217 u218 u219 u220 u221 u222 u223 u224 u225 u226 u227 u228 u229 u230 u231 u232 u233 u234 u235 u236 u237 u238 u239 u240 u241 u242 u243 u244 u245 u246 u247 u248 u249 u250 u251 u252 u253 u254 u255 u256 u257 u258 u259 u260 u261 u262 u263 u264 u265 u266 u267 u268 u269 u270 u271 u272 u273 u274 u275 u276 u277 u278 u279 u280 u281 u282 : Value) :
    Code.wp Yba.prog (secondOf (secondOf (secondOf (secondOf (secondOf (secondOf (secondOf (secondOf (secondOf (secondOf (secondOf (secondOf (secondOf (secondOf (Yba.f3.body.getD .skip))))))))))))))) (bodyPost Yba.prog Yba.f3 fun e w' => e = .returned (.bool true) ∧ Below w0.heap.size w0 w') { tmps := #[u0, u1, u2, u3, u4, u5, .slice ao nO cO, u7, .pointer (some ⟨N, 0, none⟩), u9, .pointer (some ⟨B, 0, none⟩), .bool full, .int .i64 ix, u13, u14, u15, u16, u17, u18, u19, u20, u21, u22, u23, u24, u25, u26, u27, u28, u29, u30, u31, u32, u33, u34, u35, u36, u37, u38, u39, u40, u41, u42, u43, u44, u45, u46, u47, u48, u49, u50, u51, u52, u53, u54, u55, u56, u57, u58, u59, u60, u61, u62, u63, u64, u65, u66, u67, u68, u69, u70, u71, u72, u73, u74, u75, u76, u77, u78, u79, u80, u81, u82, u83, u84, u85, u86, u87, u88, u89, u90, u91, u92, u93, u94, u95, u96, u97, u98, u99, u100, u101, u102, u103, u104, u105, u106, u107, u108, u109, u110, u111, u112, u113, u114, u115, u116, u117, u118, u119, u120, u121, u122, u123, u124, u125, u126, u127, u128, u129, u130, u131, u132, u133, u134, u135, u136, u137, u138, u139, u140, u141, u142, u143, u144, u145, u146, u147, u148, u149, u150, u151, u152, u153, u154, u155, u156, u157, u158, u159, u160, u161, u162, u163, u164, u165, u166, u167, u168, u169, u170, u171, u172, u173, u174, u175, u176, u177, u178, u179, u180, u181, u182, u183, u184, u185, u186, u187, u188, u189, u190, u191, u192, u193, u194, u195, u196, u197, u198, u199, u200, u201, u202, u203, u204, u205, u206, u207, u208, u209, u210, u211, u212, u213, u214, u215, u216, u217, u218, u219, u220, u221, u222, u223, u224, u225, u226, u227, u228, u229, u230, u231, u232, u233, u234, u235, u236, u237, u238, u239, u240, u241, u242, u243, u244, u245, u246, u247, u248, u249, u250, u251, u252, u253, u254, u255, u256, u257, u258, u259, u260, u261, u262, u263, u264, u265, u266, u267, u268, u269, u270, u271, u272, u273, u274, u275, u276, u277, u278, u279, u280, u281, u282], defers := [] } wx := by
  obtain ⟨RS, hRS⟩ : ∃ RS, RS = (secondOf (secondOf (secondOf (secondOf (secondOf (secondOf (secondOf (secondOf (secondOf (secondOf (secondOf (secondOf (secondOf (secondOf (secondOf (Yba.f3.body.getD .skip)))))))))))))))) := ⟨_, rfl⟩
  obtain ⟨T, hT⟩ : ∃ T, T = (Code.seq (firstOf (secondOf (secondOf (secondOf (secondOf (secondOf (secondOf (secondOf (secondOf (secondOf (secondOf (secondOf (secondOf (secondOf (secondOf (Yba.f3.body.getD .skip)))))))))))))))) RS) := ⟨_, rfl⟩
  have hE : (secondOf (secondOf (secondOf (secondOf (secondOf (secondOf (secondOf (secondOf (secondOf (secondOf (secondOf (secondOf (secondOf (secondOf (Yba.f3.body.getD .skip))))))))))))))) = T := by rw [hT, hRS]; rfl
  rw [hE]
  have HRS : Hid _ := hRS
  clear hE hRS
  dsimp only [Yba.f3, Option.getD, secondOf, firstOf] at hT
  subst hT
  dsimp only
  have HALL : Hid (∀ w2, Below wx.heap.size wx w2 → early L o = false → ∀ (u0 u1 u2 u3 u4 u5 u7 u9 u13 u14 u15 u16 u17 u18 u19 u20 u21 u22 u23 u24 u25 u26 u27 u28 u29 u30 u31 u32 u33 u34 u35 u36 u37 u38 u39 u40 u41 u42 u43 u44 u45 u46 u47 u48 u49 u50 u51 u52 u53 u54 u55 u56 u57 u58 u59 u60 u61 u62 u63 u64 u65 u66 u67 u68 u69 u70 u71 u72 u73 u74 u75 u76 u77 u78 u79 u80 u81 u82 u83 u84 u85 u86 u87 u88 u89 u90 u91 u92 u93 u94 u95 u96 u97 u98 u99 u100 u101 u102 u103 u104 u105 u106 u107 u108 u109 u110 u111 u112 u113 u114 u115 u116 u117 u118 u119 u120 u121 u122 u123 u124 u125 u126 u127 u128 u129 u130 u131 u132 u133 u134 u135 u136 u137 u138 u139 u140 u141 u142 u143 u144 u145 u146 u147 u148 u149 u150 u151 u152 u153 u154 u155 u156 u157 u158 u159 u160 u161 u162 u163 u164 u165 u166 u167 u168 u169 u170 u171 u172 u173 u174 u175 u176 u177 u178 u179 u180 u181 u182 u183 u184 u185 u186 u187 u188 u189 u190 u191 u192 u193 u194 u195 u196 u197 u198 u199 u200 u201 u202 u203 u204 u205 u206 u207 u208 u209 u210 u211 u212 u213 u214 u215 u216 u217 u218 u219 u220 u221 u222 u223 u224 u225 u226 u227 u228 u229 u230 u231 u232 u233 u234 u235 u236 u237 u238 u239 u240 u241 u242 u243 u244 u245 u246 u247 u248 u249 u250 u251 u252 u253 u254 u255 u256 u257 u258 u259 u260 u261 u262 u263 u264 u265 u266 u267 u268 u269 u270 u271 u272 u273 u274 u275 u276 u277 u278 u279 u280 u281 u282 : Value), Code.wp Yba.prog RS (bodyPost Yba.prog Yba.f3 fun e w' => e = .returned (.bool true) ∧ Below w0.heap.size w0 w') { tmps := #[u0, u1, u2, u3, u4, u5, .slice ao nO cO, u7, .pointer (some ⟨N, 0, none⟩), u9, .pointer (some ⟨B, 0, none⟩), .bool full, .int .i64 ix, u13, u14, u15, u16, u17, u18, u19, u20, u21, u22, u23, u24, u25, u26, u27, u28, u29, u30, u31, u32, u33, u34, u35, u36, u37, u38, u39, u40, u41, u42, u43, u44, u45, u46, u47, u48, u49, u50, u51, u52, u53, u54, u55, u56, u57, u58, u59, u60, u61, u62, u63, u64, u65, u66, u67, u68, u69, u70, u71, u72, u73, u74, u75, u76, u77, u78, u79, u80, u81, u82, u83, u84, u85, u86, u87, u88, u89, u90, u91, u92, u93, u94, u95, u96, u97, u98, u99, u100, u101, u102, u103, u104, u105, u106, u107, u108, u109, u110, u111, u112, u113, u114, u115, u116, u117, u118, u119, u120, u121, u122, u123, u124, u125, u126, u127, u128, u129, u130, u131, u132, u133, u134, u135, u136, u137, u138, u139, u140, u141, u142, u143, u144, u145, u146, u147, u148, u149, u150, u151, u152, u153, u154, u155, u156, u157, u158, u159, u160, u161, u162, u163, u164, u165, u166, u167, u168, u169, u170, u171, u172, u173, u174, u175, u176, u177, u178, u179, u180, u181, u182, u183, u184, u185, u186, u187, u188, u189, u190, u191, u192, u193, u194, u195, u196, u197, u198, u199, u200, u201, u202, u203, u204, u205, u206, u207, u208, u209, u210, u211, u212, u213, u214, u215, u216, u217, u218, u219, u220, u221, u222, u223, u224, u225, u226, u227, u228, u229, u230, u231, u232, u233, u234, u235, u236, u237, u238, u239, u240, u241, u242, u243, u244, u245, u246, u247, u248, u249, u250, u251, u252, u253, u254, u255, u256, u257, u258, u259, u260, u261, u262, u263, u264, u265, u266, u267, u268, u269, u270, u271, u272, u273, u274, u275, u276, u277, u278, u279, u280, u281, u282], defers := [] } w2) := by
    intro w2 hb2 h1
    intros
    rw [HRS.out]
    exact pl15 w0 w2 N B ao an nO nN cN L L' o (hctx.below hb2) cO ix full I hI hix hfull h1 _ _ _ _ _ _ _ _ _ _ _ _ _ _ _ _ _ _ _ _ _ _ _ _ _ _ _ _ _ _ _ _ _ _ _ _ _ _ _ _ _ _ _ _ _ _ _ _ _ _ _ _ _ _ _ _ _ _ _ _ _ _ _ _ _ _ _ _ _ _ _ _ _ _ _ _ _ _ _ _ _ _ _ _ _ _ _ _ _ _ _ _ _ _ _ _ _ _ _ _ _ _ _ _ _ _ _ _ _ _ _ _ _ _ _ _ _ _ _ _ _ _ _ _ _ _ _ _ _ _ _ _ _ _ _ _ _ _ _ _ _ _ _ _ _ _ _ _ _ _ _ _ _ _ _ _ _ _ _ _ _ _ _ _ _ _ _ _ _ _ _ _ _ _ _ _ _ _ _ _ _ _ _ _ _ _ _ _ _ _ _ _ _ _ _ _ _ _ _ _ _ _ _ _ _ _ _ _ _ _ _ _ _ _ _ _ _ _ _ _ _ _ _ _ _ _ _ _ _ _ _ _ _ _ _ _ _ _ _ _ _ _ _ _ _ _ _ _ _ _ _ _ _ _ _ _ _ _ _ _ _ _ _ _ _ _ _ _ _ _ _ _ _ _ _ _ _ _
  have hn7 : nO ≤ 6 := by have := hctx.good.len; rwa [hctx.lenO] at this
  clear hix hI
  by_cases h6 : nO = 6
  · obtain ⟨P5, hP5⟩ : ∃ P5 : Nat, P5 = 5 := ⟨_, rfl⟩
    have hwn : IntKind.wrap .i64 ((nO : Int) - 1) = (P5 : Int) := by rw [wrap_i64 _ (by omega) (by omega)]; omega
    have hPn : (P5 : Int) < (nO : Int) := by omega
    have hf : full = true := by rw [hfull, h6]; rfl
    subst hf
    obtain ⟨b, hLb⟩ : ∃ b, L[P5]? = some b := ⟨_, List.getElem?_eq_getElem (by rw [hctx.lenO]; omega)⟩
    obtain ⟨g, rfl, hgl, _, hNb⟩ := RowAt.nb hctx.old hLb
    have he := early_six (L := L) (o := o) (b := b) (by rw [hctx.lenO]; exact h6) (by rw [← hP5]; exact hLb)
    have hbok := hctx.good.ok b (List.mem_of_getElem? hLb)
    have hok := hctx.ok
    have hlB := hctx.ltB
    have hbx := hctx.box
    obtain ⟨c0, c1, c2, c3, c4, c5⟩ := hNb
    have d0 : wx.cell? ⟨B, 0, none⟩ = some (.int .u64 o.id) := hbx.c0
    have d1 : wx.cell? ⟨B, 1, none⟩ = some (.float .f64 (pb o.pr)) := hbx.c1
    have d2 : wx.cell? ⟨B, 2, none⟩ = some (.bool o.st) := hbx.c2
    have d3 : wx.cell? ⟨B, 3, none⟩ = some (.int .i64 o.hops) := hbx.c3
    have d4 : wx.cell? ⟨B, 4, none⟩ = some (.int .u64 o.seq) := hbx.c4
    have d5 : wx.cell? ⟨B, 5, none⟩ = some (.int .u64 o.named) := hbx.c5
    have HKEEP : Hid (∀ (q : Nat) (w2 : World), Below wx.heap.size (wx.drewN q) w2 → Hid (Below wx.heap.size wx w2) ∧ (w2.cell? ⟨g, P5 * 6, none⟩ = some (.int .u64 b.id) ∧ w2.cell? ⟨g, P5 * 6 + 1, none⟩ = some (.float .f64 (pb b.pr)) ∧ w2.cell? ⟨g, P5 * 6 + 2, none⟩ = some (.bool b.st) ∧ w2.cell? ⟨g, P5 * 6 + 3, none⟩ = some (.int .i64 b.hops) ∧ w2.cell? ⟨g, P5 * 6 + 4, none⟩ = some (.int .u64 b.seq) ∧ w2.cell? ⟨g, P5 * 6 + 5, none⟩ = some (.int .u64 b.named) ∧ w2.cell? ⟨B, 0, none⟩ = some (.int .u64 o.id) ∧ w2.cell? ⟨B, 1, none⟩ = some (.float .f64 (pb o.pr)) ∧ w2.cell? ⟨B, 2, none⟩ = some (.bool o.st) ∧ w2.cell? ⟨B, 3, none⟩ = some (.int .i64 o.hops) ∧ w2.cell? ⟨B, 4, none⟩ = some (.int .u64 o.seq) ∧ w2.cell? ⟨B, 5, none⟩ = some (.int .u64 o.named))) := by
      intro q w2 hb2
      have k2 : ∀ g o', g < wx.heap.size → w2.cell? ⟨g, o', none⟩ = wx.cell? ⟨g, o', none⟩ := fun g o' hg => hb2.cell (p := ⟨g, o', none⟩) hg
      exact ⟨(bdrew (Below.refl wx.heap.size wx) q).trans (hb2.mono (Below.size (Below.refl wx.heap.size wx))), (k2 _ _ hgl).trans c0, (k2 _ _ hgl).trans c1, (k2 _ _ hgl).trans c2, (k2 _ _ hgl).trans c3, (k2 _ _ hgl).trans c4, (k2 _ _ hgl).trans c5, (k2 _ _ hlB).trans d0, (k2 _ _ hlB).trans d1, (k2 _ _ hlB).trans d2, (k2 _ _ hlB).trans d3, (k2 _ _ hlB).trans d4, (k2 _ _ hlB).trans d5⟩
    have H6 : Hid _ := h6
    have HP5 : Hid _ := hP5
    clear h6 hP5 hfull
    by_cases hid : b.id = o.id
    · have hid' : (b.id != o.id) = false := by simpa using hid
      have HE : Hid (early L o = false) := by show _ = _; rw [he, hid']; rfl
      clear hctx hLb he hbok hok hbx hid HKEEP
      go_wp2
      go_quiet (fail)
      go_wp2
      exact HALL.out _ (bdrew (Below.refl _ _) _) HE.out _ _ _ _ _ _ _ _ _ _ _ _ _ _ _ _ _ _ _ _ _ _ _ _ _ _ _ _ _ _ _ _ _ _ _ _ _ _ _ _ _ _ _ _ _ _ _ _ _ _ _ _ _ _ _ _ _ _ _ _ _ _ _ _ _ _ _ _ _ _ _ _ _ _ _ _ _ _ _ _ _ _ _ _ _ _ _ _ _ _ _ _ _ _ _ _ _ _ _ _ _ _ _ _ _ _ _ _ _ _ _ _ _ _ _ _ _ _ _ _ _ _ _ _ _ _ _ _ _ _ _ _ _ _ _ _ _ _ _ _ _ _ _ _ _ _ _ _ _ _ _ _ _ _ _ _ _ _ _ _ _ _ _ _ _ _ _ _ _ _ _ _ _ _ _ _ _ _ _ _ _ _ _ _ _ _ _ _ _ _ _ _ _ _ _ _ _ _ _ _ _ _ _ _ _ _ _ _ _ _ _ _ _ _ _ _ _ _ _ _ _ _ _ _ _ _ _ _ _ _ _ _ _ _ _ _ _ _ _ _ _ _ _ _ _ _ _ _ _ _ _ _ _ _ _ _ _ _ _ _ _ _ _ _ _ _ _ _ _ _ _ _ _ _ _ _ _ _
    · have hid' : (b.id != o.id) = true := by simpa using hid
      by_cases hck : o.key < b.key
      · have HE : Hid (early L o = false) := by show _ = _; rw [he, hid']; simp [hck]
        have HC : Hid (∀ w : World, Calls Yba.prog 10 #[o.val, b.val] w fun e w' => e = .returned (.bool true) ∧ Below w.heap.size w w') := by
          intro w
          have h := before_calls hok hbok w
          rw [show decide (o.key < b.key) = true by simpa using hck] at h
          exact h
        clear hctx hLb he hbok hok hbx hid hck
        go_wp2
        go_region_held3 (fun w' => w'.cell? ⟨g, P5 * 6, none⟩ = some (.int .u64 b.id) ∧ w'.cell? ⟨g, P5 * 6 + 1, none⟩ = some (.float .f64 (pb b.pr)) ∧ w'.cell? ⟨g, P5 * 6 + 2, none⟩ = some (.bool b.st) ∧ w'.cell? ⟨g, P5 * 6 + 3, none⟩ = some (.int .i64 b.hops) ∧ w'.cell? ⟨g, P5 * 6 + 4, none⟩ = some (.int .u64 b.seq) ∧ w'.cell? ⟨g, P5 * 6 + 5, none⟩ = some (.int .u64 b.named) ∧ w'.cell? ⟨B, 0, none⟩ = some (.int .u64 o.id) ∧ w'.cell? ⟨B, 1, none⟩ = some (.float .f64 (pb o.pr)) ∧ w'.cell? ⟨B, 2, none⟩ = some (.bool o.st) ∧ w'.cell? ⟨B, 3, none⟩ = some (.int .i64 o.hops) ∧ w'.cell? ⟨B, 4, none⟩ = some (.int .u64 o.seq) ∧ w'.cell? ⟨B, 5, none⟩ = some (.int .u64 o.named))
          (first | exact ⟨c0, c1, c2, c3, c4, c5, d0, d1, d2, d3, d4, d5⟩ | assumption) ((go_at_call 10; refine Calls.mono (HC.out _) ?_; rintro e w2 ⟨rfl, hb2⟩; have hS2 := HKEEP.out 1 w2 hb2; clear hb2; have HB3 := hS2.1; have hS3 := hS2.2; clear hS2; try dsimp only))
        go_wp2
        exact HALL.out _ HB3.out HE.out _ _ _ _ _ _ _ _ _ _ _ _ _ _ _ _ _ _ _ _ _ _ _ _ _ _ _ _ _ _ _ _ _ _ _ _ _ _ _ _ _ _ _ _ _ _ _ _ _ _ _ _ _ _ _ _ _ _ _ _ _ _ _ _ _ _ _ _ _ _ _ _ _ _ _ _ _ _ _ _ _ _ _ _ _ _ _ _ _ _ _ _ _ _ _ _ _ _ _ _ _ _ _ _ _ _ _ _ _ _ _ _ _ _ _ _ _ _ _ _ _ _ _ _ _ _ _ _ _ _ _ _ _ _ _ _ _ _ _ _ _ _ _ _ _ _ _ _ _ _ _ _ _ _ _ _ _ _ _ _ _ _ _ _ _ _ _ _ _ _ _ _ _ _ _ _ _ _ _ _ _ _ _ _ _ _ _ _ _ _ _ _ _ _ _ _ _ _ _ _ _ _ _ _ _ _ _ _ _ _ _ _ _ _ _ _ _ _ _ _ _ _ _ _ _ _ _ _ _ _ _ _ _ _ _ _ _ _ _ _ _ _ _ _ _ _ _ _ _ _ _ _ _ _ _ _ _ _ _ _ _ _ _ _ _ _ _ _ _ _ _ _ _ _ _ _ _ _
      · have hE : early L o = true := by rw [he, hid']; simp [hck]
        have hsame : L' = L := by rw [hctx.nw]; exact noteL_early hE
        have HC2 : Hid (∀ w : World, Calls Yba.prog 10 #[o.val, b.val] w fun e w' => e = .returned (.bool false) ∧ Below w.heap.size w w') := by
          intro w
          have h := before_calls hok hbok w
          rw [show decide (o.key < b.key) = false by simpa using hck] at h
          exact h
        have HCS : Hid (∀ w2, Below wx.heap.size wx w2 → Calls Yba.prog 11 #[.slice an nN cN, .slice (some ⟨g, 0, none⟩) nO cO] w2 fun e w' => e = .returned (.bool true) ∧ Below w2.heap.size w2 w') := by
          intro w2 hb2
          have ct := hctx.below hb2
          have e1 : nN = nO := by rw [← ct.lenN, hsame, ct.lenO]
          have hr := ct.row
          rw [hsame, e1] at hr
          rw [e1]
          exact asame_calls L nO cN cO an _ _ ct.lenO (by omega) hr ct.old
        have HF : Hid (∀ w2, Below wx.heap.size wx w2 → ∀ w', Below w2.heap.size w2 w' → Below w0.heap.size w0 w') := fun w2 hb2 w' hb' =>
          (hctx.below hb2).bel.trans (hb'.mono (hctx.below hb2).bel.size)
        have HNEAR : Hid (∀ w2, Below wx.heap.size wx w2 → w2.cell? ⟨N, 38, none⟩ = some (.slice an nN cN)) := fun w2 hb2 => (hctx.below hb2).near
        clear hctx hLb he hbok hok hbx hid hck hsame hE HALL
        go_wp2
        go_region_held3 (fun w' => w'.cell? ⟨g, P5 * 6, none⟩ = some (.int .u64 b.id) ∧ w'.cell? ⟨g, P5 * 6 + 1, none⟩ = some (.float .f64 (pb b.pr)) ∧ w'.cell? ⟨g, P5 * 6 + 2, none⟩ = some (.bool b.st) ∧ w'.cell? ⟨g, P5 * 6 + 3, none⟩ = some (.int .i64 b.hops) ∧ w'.cell? ⟨g, P5 * 6 + 4, none⟩ = some (.int .u64 b.seq) ∧ w'.cell? ⟨g, P5 * 6 + 5, none⟩ = some (.int .u64 b.named) ∧ w'.cell? ⟨B, 0, none⟩ = some (.int .u64 o.id) ∧ w'.cell? ⟨B, 1, none⟩ = some (.float .f64 (pb o.pr)) ∧ w'.cell? ⟨B, 2, none⟩ = some (.bool o.st) ∧ w'.cell? ⟨B, 3, none⟩ = some (.int .i64 o.hops) ∧ w'.cell? ⟨B, 4, none⟩ = some (.int .u64 o.seq) ∧ w'.cell? ⟨B, 5, none⟩ = some (.int .u64 o.named))
          (first | exact ⟨c0, c1, c2, c3, c4, c5, d0, d1, d2, d3, d4, d5⟩ | assumption) ((go_at_call 10; refine Calls.mono (HC2.out _) ?_; rintro e w2 ⟨rfl, hb2⟩; have hS2 := HKEEP.out 1 w2 hb2; clear hb2; have HB3 := hS2.1; have hS3 := hS2.2; clear hS2; try dsimp only))
        have hnear := HNEAR.out _ HB3.out
        go_wp2_with (go_at_call 11; refine Calls.mono (HCS.out _ HB3.out) ?_; rintro e w' ⟨rfl, hb'⟩)
        go_ret
        exact ⟨rfl, HF.out _ HB3.out _ hb'⟩
  · have hf : full = false := by rw [hfull]; simpa using h6
    subst hf
    have HE : Hid (early L o = false) := early_not (by rw [hctx.lenO]; exact h6)
    clear hctx hfull
    go_wp2
    go_quiet (fail)
    go_wp2
    exact HALL.out _ (bdrew (Below.refl _ _) _) HE.out _ _ _ _ _ _ _ _ _ _ _ _ _ _ _ _ _ _ _ _ _ _ _ _ _ _ _ _ _ _ _ _ _ _ _ _ _ _ _ _ _ _ _ _ _ _ _ _ _ _ _ _ _ _ _ _ _ _ _ _ _ _ _ _ _ _ _ _ _ _ _ _ _ _ _ _ _ _ _ _ _ _ _ _ _ _ _ _ _ _ _ _ _ _ _ _ _ _ _ _ _ _ _ _ _ _ _ _ _ _ _ _ _ _ _ _ _ _ _ _ _ _ _ _ _ _ _ _ _ _ _ _ _ _ _ _ _ _ _ _ _ _ _ _ _ _ _ _ _ _ _ _ _ _ _ _ _ _ _ _ _ _ _ _ _ _ _ _ _ _ _ _ _ _ _ _ _ _ _ _ _ _ _ _ _ _ _ _ _ _ _ _ _ _ _ _ _ _ _ _ _ _ _ _ _ _ _ _ _ _ _ _ _ _ _ _ _ _ _ _ _ _ _ _ _ _ _ _ _ _ _ _ _ _ _ _ _ _ _ _ _ _ _ _ _ _ _ _ _ _ _ _ _ _ _ _ _ _ _ _ _ _ _ _ _ _ _ _ _ _ _ _ _ _ _ _ _ _

end Go.Proofs.Ybulkawyi
