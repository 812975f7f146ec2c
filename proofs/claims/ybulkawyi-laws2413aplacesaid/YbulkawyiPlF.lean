import Derived.Test.YbulkawyiPlE
namespace Go.Proofs.Ybulkawyi
open Go.RowKit
set_option linter.unusedVariables false
attribute [local go_sem] run_store_float

set_option maxRecDepth 100000 in
set_option maxHeartbeats 16000000 in
theorem pl16 (w0 wx : World) (N B : Nat) (ao an : Option Addr) (nO nN cN : Nat) (L L' : List Nb) (o : Nb) (hctx : Ctx w0 wx N B ao an nO nN cN L L' o) (cO : Nat) (ix : Int) (full : Bool) (I : Nat) (hI : I = idx L o.id) (hix : (I < nO ∧ ix = (I : Int)) ∨ (I = nO ∧ ix = -1)) (hfull : full = (nO == 6)) (he : early L o = false) (hseq : ∀ b, L[I]? = some b → ¬ o.seq < b.seq) (u0 u1 u2 u3 u4 u5 u7 u9 u13 u14 u15 u16 u17 u18 u19 u20 u21 u22 u23 u24 u25 u26 u27 u28 u29 u30 u31 u32 u33 u34 u35 u36 u37 u38 u39 u40 u41 u42 u43 u44 u45 u46 u47 u48 u49 u50 u51 u52 u53 u54 u55 u56 u57 u58 u59 u60 u61 u62 u63 u64 u65 u66 u67 u68 u69 u70 u71 u72 u73 u74 u75 u76 u77 u78 u79 u80 u81 u82 u83 u84 u85 u86 u87 u88 u89 u90 u91 u92 u93 u94 u95 u96 u97 u98 u99 u100 u101 u102 u103 u104 u105 u106 u107 u108 u109 u110 u111 u112 u113 u114 u115 u116 u117 u118 u119 u120 u121 u122 u123 u124 u125 u126 u127 u128 u129 u130 u131 u132 u133 u134 u135 u136 u137 u138 u139 u140 u141 u142 u143 u144 u145 u146 u147 u148 u149 u150 u151 u152 u153 u154 u155 u156 u157 u158 u159 u160 u161 u162 u163 u164 u165 u166 u167 u168 u169 u170 u171 u172 u173 u174 u175 u176 u177 u178 u179 u180 u181 u182 u183 u184 u185 u186 u187 u188 u189 u190 u191 u192 u193 u194 u195 u196 u197 u198 u199 u200 u201 u202 u203 u204 u205 u206 u207 u208 u209 u210 u211 u212 u213 u214 u215 u216 u217 u218 u219 u220 u221 u222 u223 u224 u225 u226 u227 u228 u229 u230 u231 u232 u233 u234 u235 u236 u237 u238 u239 u240 u241 u242 u243 u244 u245 u246 u247 u248 u249 u250 u251 u252 u253 u254 u255 u256 u257 u258 u259 u260 u261 u262 u263 u264 u265 u266 u267 u268 u269 u270 u271 u272 u273 u274 u275 u276 u277 u278 u279 u280 u281 u282 : Value) :
    Code.wp Yba.prog (secondOf (secondOf (secondOf (secondOf (secondOf (secondOf (secondOf (secondOf (secondOf (secondOf (secondOf (secondOf (secondOf (secondOf (secondOf (secondOf (Yba.f3.body.getD .skip))))))))))))))))) (bodyPost Yba.prog Yba.f3 fun e w' => e = .returned (.bool true) ∧ Below w0.heap.size w0 w') { tmps := #[u0, u1, u2, u3, u4, u5, .slice ao nO cO, u7, .pointer (some ⟨N, 0, none⟩), u9, .pointer (some ⟨B, 0, none⟩), .bool full, .int .i64 ix, u13, u14, u15, u16, u17, u18, u19, u20, u21, u22, u23, u24, u25, u26, u27, u28, u29, u30, u31, u32, u33, u34, u35, u36, u37, u38, u39, u40, u41, u42, u43, u44, u45, u46, u47, u48, u49, u50, u51, u52, u53, u54, u55, u56, u57, u58, u59, u60, u61, u62, u63, u64, u65, u66, u67, u68, u69, u70, u71, u72, u73, u74, u75, u76, u77, u78, u79, u80, u81, u82, u83, u84, u85, u86, u87, u88, u89, u90, u91, u92, u93, u94, u95, u96, u97, u98, u99, u100, u101, u102, u103, u104, u105, u106, u107, u108, u109, u110, u111, u112, u113, u114, u115, u116, u117, u118, u119, u120, u121, u122, u123, u124, u125, u126, u127, u128, u129, u130, u131, u132, u133, u134, u135, u136, u137, u138, u139, u140, u141, u142, u143, u144, u145, u146, u147, u148, u149, u150, u151, u152, u153, u154, u155, u156, u157, u158, u159, u160, u161, u162, u163, u164, u165, u166, u167, u168, u169, u170, u171, u172, u173, u174, u175, u176, u177, u178, u179, u180, u181, u182, u183, u184, u185, u186, u187, u188, u189, u190, u191, u192, u193, u194, u195, u196, u197, u198, u199, u200, u201, u202, u203, u204, u205, u206, u207, u208, u209, u210, u211, u212, u213, u214, u215, u216, u217, u218, u219, u220, u221, u222, u223, u224, u225, u226, u227, u228, u229, u230, u231, u232, u233, u234, u235, u236, u237, u238, u239, u240, u241, u242, u243, u244, u245, u246, u247, u248, u249, u250, u251, u252, u253, u254, u255, u256, u257, u258, u259, u260, u261, u262, u263, u264, u265, u266, u267, u268, u269, u270, u271, u272, u273, u274, u275, u276, u277, u278, u279, u280, u281, u282], defers := [] } wx := by
  obtain ⟨RS, hRS⟩ : ∃ RS, RS = (secondOf (secondOf (secondOf (secondOf (secondOf (secondOf (secondOf (secondOf (secondOf (secondOf (secondOf (secondOf (secondOf (secondOf (secondOf (secondOf (secondOf (Yba.f3.body.getD .skip)))))))))))))))))) := ⟨_, rfl⟩
  obtain ⟨T, hT⟩ : ∃ T, T = (Code.seq (firstOf (secondOf (secondOf (secondOf (secondOf (secondOf (secondOf (secondOf (secondOf (secondOf (secondOf (secondOf (secondOf (secondOf (secondOf (secondOf (secondOf (Yba.f3.body.getD .skip)))))))))))))))))) RS) := ⟨_, rfl⟩
  have hE : (secondOf (secondOf (secondOf (secondOf (secondOf (secondOf (secondOf (secondOf (secondOf (secondOf (secondOf (secondOf (secondOf (secondOf (secondOf (secondOf (Yba.f3.body.getD .skip))))))))))))))))) = T := by rw [hT, hRS]; rfl
  rw [hE]
  have HRS : Hid _ := hRS
  clear hE hRS
  dsimp only [Yba.f3, Option.getD, secondOf, firstOf] at hT
  subst hT
  dsimp only
  have HALL : Hid (∀ J w2, Below wx.heap.size wx w2 → rest L o = L.eraseIdx J → L' = ins (rest L o) o → ((ix = (J : Int) ∧ J < nO) ∨ (ix = -1 ∧ full = true ∧ nO = 6 ∧ J = 5) ∨ (ix = -1 ∧ full = false ∧ J = nO)) → ∀ (u0 u1 u2 u3 u4 u5 u7 u9 u13 u14 u15 u16 u17 u18 u19 u20 u21 u22 u23 u24 u25 u26 u27 u28 u29 u30 u31 u32 u33 u34 u35 u36 u37 u38 u39 u40 u41 u42 u43 u44 u45 u46 u47 u48 u49 u50 u51 u52 u53 u54 u55 u56 u57 u58 u59 u60 u61 u62 u63 u64 u65 u66 u67 u68 u69 u70 u71 u72 u73 u74 u75 u76 u77 u78 u79 u80 u81 u82 u83 u84 u85 u86 u87 u88 u89 u90 u91 u92 u93 u94 u95 u96 u97 u98 u99 u100 u101 u102 u103 u104 u105 u106 u107 u108 u109 u110 u111 u112 u113 u114 u115 u116 u117 u118 u119 u120 u121 u122 u123 u124 u125 u126 u127 u128 u129 u130 u131 u132 u133 u134 u135 u136 u137 u138 u139 u140 u141 u142 u143 u144 u145 u146 u147 u148 u149 u150 u151 u152 u153 u154 u155 u156 u157 u158 u159 u160 u161 u162 u163 u164 u165 u166 u167 u168 u169 u170 u171 u172 u173 u174 u175 u176 u177 u178 u179 u180 u181 u182 u183 u184 u185 u186 u187 u188 u189 u190 u191 u192 u193 u194 u195 u196 u197 u198 u199 u200 u201 u202 u203 u204 u205 u206 u207 u208 u209 u210 u211 u212 u213 u214 u215 u216 u217 u218 u219 u220 u221 u222 u223 u224 u225 u226 u227 u228 u229 u230 u231 u232 u233 u234 u235 u236 u237 u238 u239 u240 u241 u242 u243 u244 u245 u246 u247 u248 u249 u250 u251 u252 u253 u254 u255 u256 u257 u258 u259 u260 u261 u262 u263 u264 u265 u266 u267 u268 u269 u270 u271 u272 u273 u274 u275 u276 u277 u278 u279 u280 u281 u282 : Value), Code.wp Yba.prog RS (bodyPost Yba.prog Yba.f3 fun e w' => e = .returned (.bool true) ∧ Below w0.heap.size w0 w') { tmps := #[u0, u1, u2, u3, u4, u5, .slice ao nO cO, u7, .pointer (some ⟨N, 0, none⟩), u9, .pointer (some ⟨B, 0, none⟩), .bool full, .int .i64 ix, u13, u14, u15, u16, u17, u18, u19, u20, u21, u22, u23, u24, u25, u26, u27, u28, u29, u30, u31, u32, u33, u34, u35, u36, u37, u38, u39, u40, u41, u42, u43, u44, u45, u46, u47, u48, u49, u50, u51, u52, u53, u54, u55, u56, u57, u58, u59, u60, u61, u62, u63, u64, u65, u66, u67, u68, u69, u70, u71, u72, u73, u74, u75, u76, u77, u78, u79, u80, u81, u82, u83, u84, u85, u86, u87, u88, u89, u90, u91, u92, u93, u94, u95, u96, u97, u98, u99, u100, u101, u102, u103, u104, u105, u106, u107, u108, u109, u110, u111, u112, u113, u114, u115, u116, u117, u118, u119, u120, u121, u122, u123, u124, u125, u126, u127, u128, u129, u130, u131, u132, u133, u134, u135, u136, u137, u138, u139, u140, u141, u142, u143, u144, u145, u146, u147, u148, u149, u150, u151, u152, u153, u154, u155, u156, u157, u158, u159, u160, u161, u162, u163, u164, u165, u166, u167, u168, u169, u170, u171, u172, u173, u174, u175, u176, u177, u178, u179, u180, u181, u182, u183, u184, u185, u186, u187, u188, u189, u190, u191, u192, u193, u194, u195, u196, u197, u198, u199, u200, u201, u202, u203, u204, u205, u206, u207, u208, u209, u210, u211, u212, u213, u214, u215, u216, u217, u218, u219, u220, u221, u222, u223, u224, u225, u226, u227, u228, u229, u230, u231, u232, u233, u234, u235, u236, u237, u238, u239, u240, u241, u242, u243, u244, u245, u246, u247, u248, u249, u250, u251, u252, u253, u254, u255, u256, u257, u258, u259, u260, u261, u262, u263, u264, u265, u266, u267, u268, u269, u270, u271, u272, u273, u274, u275, u276, u277, u278, u279, u280, u281, u282], defers := [] } w2) := by
    intro J w2 hb2 h1 h2 h3
    intros
    rw [HRS.out]
    exact pl17 w0 w2 N B ao an nO nN cN L L' o (hctx.below hb2) cO ix full J h1 h2 h3 _ _ _ _ _ _ _ _ _ _ _ _ _ _ _ _ _ _ _ _ _ _ _ _ _ _ _ _ _ _ _ _ _ _ _ _ _ _ _ _ _ _ _ _ _ _ _ _ _ _ _ _ _ _ _ _ _ _ _ _ _ _ _ _ _ _ _ _ _ _ _ _ _ _ _ _ _ _ _ _ _ _ _ _ _ _ _ _ _ _ _ _ _ _ _ _ _ _ _ _ _ _ _ _ _ _ _ _ _ _ _ _ _ _ _ _ _ _ _ _ _ _ _ _ _ _ _ _ _ _ _ _ _ _ _ _ _ _ _ _ _ _ _ _ _ _ _ _ _ _ _ _ _ _ _ _ _ _ _ _ _ _ _ _ _ _ _ _ _ _ _ _ _ _ _ _ _ _ _ _ _ _ _ _ _ _ _ _ _ _ _ _ _ _ _ _ _ _ _ _ _ _ _ _ _ _ _ _ _ _ _ _ _ _ _ _ _ _ _ _ _ _ _ _ _ _ _ _ _ _ _ _ _ _ _ _ _ _ _ _ _ _ _ _ _ _ _ _ _ _ _ _ _ _ _ _ _ _ _ _ _ _ _ _ _ _ _ _ _ _ _ _ _ _ _ _ _ _
  have hn7 : nO ≤ 6 := by have := hctx.good.len; rwa [hctx.lenO] at this
  rcases hix with ⟨hIn, rfl⟩ | ⟨hIn, rfl⟩
  · obtain ⟨b, hLb⟩ : ∃ b, L[I]? = some b := ⟨_, List.getElem?_eq_getElem (by rw [hctx.lenO]; exact hIn)⟩
    have hbok := hctx.good.ok b (List.mem_of_getElem? hLb)
    have hok := hctx.ok
    have hnl : L' = if b.hops == o.hops && candEq b o then L.set I { b with seq := o.seq } else ins (rest L o) o := by
      rw [hctx.nw]
      unfold noteL
      rw [he, ← hI, hLb]
      show (if o.seq < b.seq then L else _) = _
      rw [if_neg (hseq b hLb)]
    obtain ⟨g, rfl, hgl, _, hNb⟩ := RowAt.nb hctx.old hLb
    have hIn' : (I : Int) < (nO : Int) := by omega
    have hI0 : ¬ ((I : Int) < 0) := by omega
    have hI1 : (0 : Int) ≤ (I : Int) := by omega
    have c0 : wx.cell? ⟨g, I * 6, none⟩ = some (.int .u64 b.id) := hNb.c0
    have c1 : wx.cell? ⟨g, I * 6 + 1, none⟩ = some (.float .f64 (pb b.pr)) := hNb.c1
    have c2 : wx.cell? ⟨g, I * 6 + 2, none⟩ = some (.bool b.st) := hNb.c2
    have c3 : wx.cell? ⟨g, I * 6 + 3, none⟩ = some (.int .i64 b.hops) := hNb.c3
    have hBl := hctx.ltB
    have q0 : wx.cell? ⟨B, 0, none⟩ = some (.int .u64 o.id) := hctx.box.c0
    have q1 : wx.cell? ⟨B, 1, none⟩ = some (.float .f64 (pb o.pr)) := hctx.box.c1
    have q2 : wx.cell? ⟨B, 2, none⟩ = some (.bool o.st) := hctx.box.c2
    have q3 : wx.cell? ⟨B, 3, none⟩ = some (.int .i64 o.hops) := hctx.box.c3
    have HCTX : Hid _ := hctx
    have HLB : Hid _ := hLb
    have HI : Hid _ := hI
    have hrest : Hid (rest L o = L.eraseIdx I) := by
      show _ = _
      unfold rest
      rw [← hI, hctx.lenO, if_pos hIn]
    have hcq : ∀ r : Bool, candEq b o = r → ∀ wz, (binOp .eql 36 (.agg #[.int .u64 b.id, .float .f64 (pb b.pr), .bool b.st]) (.agg #[.int .u64 o.id, .float .f64 (pb o.pr), .bool o.st])).run Yba.prog wz = .ok (.bool r) wz := fun r hr wz => by
      rw [eqCand, cand_pb hbok.pr0 hbok.pr3 hok.pr0 hok.pr3]
      unfold candEq at hr; rw [hr]
    cases hmh : (b.hops == o.hops) with
    | false =>
      have HNL : Hid (L' = ins (rest L o) o) := by show _ = _; rw [hnl, hmh]; rfl
      clear hnl hcq hctx hLb hI hseq he hbok hok hNb
      go_wp2
      go_quiet (fail)
      go_wp2
      exact HALL.out I _ (bdrew (Below.refl _ _) _) hrest.out HNL.out (.inl ⟨rfl, hIn⟩) _ _ _ _ _ _ _ _ _ _ _ _ _ _ _ _ _ _ _ _ _ _ _ _ _ _ _ _ _ _ _ _ _ _ _ _ _ _ _ _ _ _ _ _ _ _ _ _ _ _ _ _ _ _ _ _ _ _ _ _ _ _ _ _ _ _ _ _ _ _ _ _ _ _ _ _ _ _ _ _ _ _ _ _ _ _ _ _ _ _ _ _ _ _ _ _ _ _ _ _ _ _ _ _ _ _ _ _ _ _ _ _ _ _ _ _ _ _ _ _ _ _ _ _ _ _ _ _ _ _ _ _ _ _ _ _ _ _ _ _ _ _ _ _ _ _ _ _ _ _ _ _ _ _ _ _ _ _ _ _ _ _ _ _ _ _ _ _ _ _ _ _ _ _ _ _ _ _ _ _ _ _ _ _ _ _ _ _ _ _ _ _ _ _ _ _ _ _ _ _ _ _ _ _ _ _ _ _ _ _ _ _ _ _ _ _ _ _ _ _ _ _ _ _ _ _ _ _ _ _ _ _ _ _ _ _ _ _ _ _ _ _ _ _ _ _ _ _ _ _ _ _ _ _ _ _ _ _ _ _ _ _ _ _ _ _ _ _ _ _ _ _ _ _ _ _ _ _
    | true =>
      cases hcc : candEq b o with
      | false =>
        have HNL : Hid (L' = ins (rest L o) o) := by show _ = _; rw [hnl, hmh, hcc]; rfl
        have hcd := hcq false hcc
        clear hnl hcq hctx hLb hI hseq he hbok hok hNb hcc
        go_wp2
        go_quiet (fail)
        go_wp2
        exact HALL.out I _ (bdrew (Below.refl _ _) _) hrest.out HNL.out (.inl ⟨rfl, hIn⟩) _ _ _ _ _ _ _ _ _ _ _ _ _ _ _ _ _ _ _ _ _ _ _ _ _ _ _ _ _ _ _ _ _ _ _ _ _ _ _ _ _ _ _ _ _ _ _ _ _ _ _ _ _ _ _ _ _ _ _ _ _ _ _ _ _ _ _ _ _ _ _ _ _ _ _ _ _ _ _ _ _ _ _ _ _ _ _ _ _ _ _ _ _ _ _ _ _ _ _ _ _ _ _ _ _ _ _ _ _ _ _ _ _ _ _ _ _ _ _ _ _ _ _ _ _ _ _ _ _ _ _ _ _ _ _ _ _ _ _ _ _ _ _ _ _ _ _ _ _ _ _ _ _ _ _ _ _ _ _ _ _ _ _ _ _ _ _ _ _ _ _ _ _ _ _ _ _ _ _ _ _ _ _ _ _ _ _ _ _ _ _ _ _ _ _ _ _ _ _ _ _ _ _ _ _ _ _ _ _ _ _ _ _ _ _ _ _ _ _ _ _ _ _ _ _ _ _ _ _ _ _ _ _ _ _ _ _ _ _ _ _ _ _ _ _ _ _ _ _ _ _ _ _ _ _ _ _ _ _ _ _ _ _ _ _ _ _ _ _ _ _ _ _ _ _ _ _ _
      | true =>
        have HNL : Hid (L' = L.set I { b with seq := o.seq }) := by show _ = _; rw [hnl, hmh, hcc]; rfl
        have hcd := hcq true hcc
        have hmk := mk48 nO hn7
        have HDUP : Hid (∀ q, ∃ W2, (Builtin.copy_ #[26, 26] 3 #[.slice (some ⟨wx.heap.size, 0, none⟩) nO nO, .slice (some ⟨g, 0, none⟩) nO cO]).run Yba.prog ((wx.drewN q).alloc (.cells (madeCells Z6 (nO * 6)) 48)) = .ok (goInt nO) W2 ∧
            W2.ownsRow wx.heap.size 48 6 (.slice (some ⟨wx.heap.size, 0, none⟩) nO nO) nO (flat L) ∧ Below wx.heap.size (wx.drewN q) W2) := fun q =>
          dup (w := wx.drewN q) (RowAt.below hctx.old (bdrew (Below.refl _ _) q)) hctx.lenO hn7 hgl
        clear hnl hcq hctx hLb hI hseq he hbok hok hNb hcc HALL
        go_wp2
        go_quiet (fail)
        obtain ⟨W2, hcp, ho2, hb2⟩ := HDUP.out nq
        obtain ⟨⟨v2, hv2⟩, hf2, hrow2⟩ := dup_set o.seq ho2 HCTX.out.lenO HLB.out
        have hx2 : Below wx.heap.size wx W2 := ⟨hb2.os, hb2.tape, hb2.output, hb2.size, hb2.block⟩
        have ct := HCTX.out.below hx2
        have hs4 : W2.cell? ⟨B, 4, none⟩ = some (.int .u64 o.seq) := ct.box.c4
        have hNw : N < wx.heap.size := HCTX.out.ltN
        have hne : (W2.setCell ⟨wx.heap.size, I * 6 + 4, none⟩ (.int .u64 o.seq)).cell? ⟨N, 38, none⟩ = some (.slice an nN cN) := by rw [cset_block (by omega)]; exact ct.near
        have hbs : Below wx.heap.size wx (W2.setCell ⟨wx.heap.size, I * 6 + 4, none⟩ (.int .u64 o.seq)) := hx2.trans ⟨rfl, rfl, rfl, by simp, fun k hk => Below.heap_setCell _ _ _ _ (by simp; omega)⟩
        have hrN : RowAt (W2.setCell ⟨wx.heap.size, I * 6 + 4, none⟩ (.int .u64 o.seq)) an nN L' := RowAt.below HCTX.out.row hbs
        have hlen : nN = nO := by rw [← HCTX.out.lenN, HNL.out, List.length_set, HCTX.out.lenO]
        have HC : Hid (Calls Yba.prog 11 #[.slice an nN cN, .slice (some ⟨wx.heap.size, 0, none⟩) nO nO] (W2.setCell ⟨wx.heap.size, I * 6 + 4, none⟩ (.int .u64 o.seq)) fun e w' => e = .returned (.bool true) ∧ Below (W2.setCell ⟨wx.heap.size, I * 6 + 4, none⟩ (.int .u64 o.seq)).heap.size (W2.setCell ⟨wx.heap.size, I * 6 + 4, none⟩ (.int .u64 o.seq)) w') := by
          have hl' := HCTX.out.lenN
          rw [hlen] at hrN hl' ⊢
          rw [HNL.out] at hrN hl'
          exact asame_calls (L.set I { b with seq := o.seq }) nO cN nO an _ _ hl' (by omega) hrN hrow2
        have HF : Hid (∀ w', Below (W2.setCell ⟨wx.heap.size, I * 6 + 4, none⟩ (.int .u64 o.seq)).heap.size (W2.setCell ⟨wx.heap.size, I * 6 + 4, none⟩ (.int .u64 o.seq)) w' → Below w0.heap.size w0 w') := fun w' hb' =>
          (HCTX.out.below hbs).bel.trans (hb'.mono (HCTX.out.below hbs).bel.size)
        clear hbs hrN hrow2 hx2 hb2 ho2 ct hlen
        go_wp2_with (go_at_call 11; refine Calls.mono (Hid.out HC) ?_; rintro e w' ⟨rfl, hb'⟩)
        go_ret
        exact ⟨rfl, HF.out _ hb'⟩
  · have hnone : L[idx L o.id]? = none := by rw [← hI]; exact List.getElem?_eq_none (by rw [hctx.lenO]; omega)
    have HNL : Hid (L' = ins (rest L o) o) := by
      show _ = _
      rw [hctx.nw]
      unfold noteL
      rw [he, hnone]
      rfl
    have HJ : Hid (∃ J, rest L o = L.eraseIdx J ∧ (((-1 : Int) = (J : Int) ∧ J < nO) ∨ ((-1 : Int) = -1 ∧ full = true ∧ nO = 6 ∧ J = 5) ∨ ((-1 : Int) = -1 ∧ full = false ∧ J = nO))) := by
      show ∃ J, _
      by_cases h6 : nO = 6
      · refine ⟨5, ?_, .inr (.inl ⟨rfl, by rw [hfull, h6]; rfl, h6, rfl⟩)⟩
        unfold rest
        rw [← hI, hctx.lenO, if_neg (by omega), if_pos h6, List.eraseIdx_eq_take_drop_succ, List.drop_eq_nil_of_le (by rw [hctx.lenO]; omega), List.append_nil]
      · refine ⟨nO, ?_, .inr (.inr ⟨rfl, by rw [hfull]; simpa using h6, rfl⟩)⟩
        unfold rest
        rw [← hI, hctx.lenO, if_neg (by omega), if_neg h6, List.eraseIdx_of_length_le (by rw [hctx.lenO]; omega)]
    clear hctx hI hseq he hnone hIn hfull
    go_wp2
    go_quiet (fail)
    go_wp2
    obtain ⟨J, h1, h3⟩ := HJ.out
    exact HALL.out J _ (bdrew (Below.refl _ _) _) h1 HNL.out h3 _ _ _ _ _ _ _ _ _ _ _ _ _ _ _ _ _ _ _ _ _ _ _ _ _ _ _ _ _ _ _ _ _ _ _ _ _ _ _ _ _ _ _ _ _ _ _ _ _ _ _ _ _ _ _ _ _ _ _ _ _ _ _ _ _ _ _ _ _ _ _ _ _ _ _ _ _ _ _ _ _ _ _ _ _ _ _ _ _ _ _ _ _ _ _ _ _ _ _ _ _ _ _ _ _ _ _ _ _ _ _ _ _ _ _ _ _ _ _ _ _ _ _ _ _ _ _ _ _ _ _ _ _ _ _ _ _ _ _ _ _ _ _ _ _ _ _ _ _ _ _ _ _ _ _ _ _ _ _ _ _ _ _ _ _ _ _ _ _ _ _ _ _ _ _ _ _ _ _ _ _ _ _ _ _ _ _ _ _ _ _ _ _ _ _ _ _ _ _ _ _ _ _ _ _ _ _ _ _ _ _ _ _ _ _ _ _ _ _ _ _ _ _ _ _ _ _ _ _ _ _ _ _ _ _ _ _ _ _ _ _ _ _ _ _ _ _ _ _ _ _ _ _ _ _ _ _ _ _ _ _ _ _ _ _ _ _ _ _ _ _ _ _ _ _ _ _ _

end Go.Proofs.Ybulkawyi
