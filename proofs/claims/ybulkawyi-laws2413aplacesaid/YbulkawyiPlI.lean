import Derived.Test.YbulkawyiPlH
namespace Go.Proofs.Ybulkawyi
open Go.RowKit
set_option linter.unusedVariables false
attribute [local go_sem] run_store_float

set_option maxRecDepth 100000 in
set_option maxHeartbeats 16000000 in
theorem pl11 (w0 wx : World) (N B : Nat) (ao an : Option Addr) (nO nN cN : Nat) (L L' : List Nb) (o : Nb) (hctx : Ctx w0 wx N B ao an nO nN cN L L' o) (cO : Nat) (u0 u1 u2 u3 u4 u5 u7 u9 u11 u12 u13 u14 u15 u16 u17 u18 u19 u20 u21 u22 u23 u24 u25 u26 u27 u28 u29 u30 u31 u32 u33 u34 u35 u36 u37 u38 u39 u40 u41 u42 u43 u44 u45 u46 u47 u48 u49 u50 u51 u52 u53 u54 u55 u56 u57 u58 u59 u60 u61 u62 u63 u64 u65 u66 u67 u68 u69 u70 u71 u72 u73 u74 u75 u76 u77 u78 u79 u80 u81 u82 u83 u84 u85 u86 u87 u88 u89 u90 u91 u92 u93 u94 u95 u96 u97 u98 u99 u100 u101 u102 u103 u104 u105 u106 u107 u108 u109 u110 u111 u112 u113 u114 u115 u116 u117 u118 u119 u120 u121 u122 u123 u124 u125 u126 u127 u128 u129 u130 u131 u132 u133 u134 u135 u136 u137 u138 u139 u140 u141 u142 u143 u144 u145 u146 u147 u148 u149 u150 u151 u152 u153 u154 u155 u156 u157 u158 u159 u160 u161 u162 u163 u164 u165 u166 u167 u168 u169 u170 u171 u172 u173 u174 u175 u176 u177 u178 u179 u180 u181 u182 u183 u184 u185 u186 u187 u188 u189 u190 u191 u192 u193 u194 u195 u196 u197 u198 u199 u200 u201 u202 u203 u204 u205 u206 u207 u208 u209 u210 u211 u212 u213 u214 u215 u216 u217 u218 u219 u220 u221 u222 u223 u224 u225 u226 u227 u228 u229 u230 u231 u232 u233 u234 u235 u236 u237 u238 u239 u240 u241 u242 u243 u244 u245 u246 u247 u248 u249 u250 u251 u252 u253 u254 u255 u256 u257 u258 u259 u260 u261 u262 u263 u264 u265 u266 u267 u268 u269 u270 u271 u272 u273 u274 u275 u276 u277 u278 u279 u280 u281 u282 : Value) :
    Code.wp Yba.prog (secondOf (secondOf (secondOf (secondOf (secondOf (secondOf (secondOf (secondOf (secondOf (secondOf (secondOf (Yba.f3.body.getD .skip)))))))))))) (bodyPost Yba.prog Yba.f3 fun e w' => e = .returned (.bool true) ∧ Below w0.heap.size w0 w') { tmps := #[u0, u1, u2, u3, u4, u5, .slice ao nO cO, u7, .pointer (some ⟨N, 0, none⟩), u9, .pointer (some ⟨B, 0, none⟩), u11, u12, u13, u14, u15, u16, u17, u18, u19, u20, u21, u22, u23, u24, u25, u26, u27, u28, u29, u30, u31, u32, u33, u34, u35, u36, u37, u38, u39, u40, u41, u42, u43, u44, u45, u46, u47, u48, u49, u50, u51, u52, u53, u54, u55, u56, u57, u58, u59, u60, u61, u62, u63, u64, u65, u66, u67, u68, u69, u70, u71, u72, u73, u74, u75, u76, u77, u78, u79, u80, u81, u82, u83, u84, u85, u86, u87, u88, u89, u90, u91, u92, u93, u94, u95, u96, u97, u98, u99, u100, u101, u102, u103, u104, u105, u106, u107, u108, u109, u110, u111, u112, u113, u114, u115, u116, u117, u118, u119, u120, u121, u122, u123, u124, u125, u126, u127, u128, u129, u130, u131, u132, u133, u134, u135, u136, u137, u138, u139, u140, u141, u142, u143, u144, u145, u146, u147, u148, u149, u150, u151, u152, u153, u154, u155, u156, u157, u158, u159, u160, u161, u162, u163, u164, u165, u166, u167, u168, u169, u170, u171, u172, u173, u174, u175, u176, u177, u178, u179, u180, u181, u182, u183, u184, u185, u186, u187, u188, u189, u190, u191, u192, u193, u194, u195, u196, u197, u198, u199, u200, u201, u202, u203, u204, u205, u206, u207, u208, u209, u210, u211, u212, u213, u214, u215, u216, u217, u218, u219, u220, u221, u222, u223, u224, u225, u226, u227, u228, u229, u230, u231, u232, u233, u234, u235, u236, u237, u238, u239, u240, u241, u242, u243, u244, u245, u246, u247, u248, u249, u250, u251, u252, u253, u254, u255, u256, u257, u258, u259, u260, u261, u262, u263, u264, u265, u266, u267, u268, u269, u270, u271, u272, u273, u274, u275, u276, u277, u278, u279, u280, u281, u282], defers := [] } wx := by
  obtain ⟨RS, hRS⟩ : ∃ RS, RS = (secondOf (secondOf (secondOf (secondOf (secondOf (secondOf (secondOf (secondOf (secondOf (secondOf (secondOf (secondOf (secondOf (secondOf (Yba.f3.body.getD .skip))))))))))))))) := ⟨_, rfl⟩
  obtain ⟨T, hT⟩ : ∃ T, T = (Code.seq (firstOf (secondOf (secondOf (secondOf (secondOf (secondOf (secondOf (secondOf (secondOf (secondOf (secondOf (secondOf (Yba.f3.body.getD .skip))))))))))))) (Code.seq (firstOf (secondOf (secondOf (secondOf (secondOf (secondOf (secondOf (secondOf (secondOf (secondOf (secondOf (secondOf (secondOf (Yba.f3.body.getD .skip)))))))))))))) (Code.seq (firstOf (secondOf (secondOf (secondOf (secondOf (secondOf (secondOf (secondOf (secondOf (secondOf (secondOf (secondOf (secondOf (secondOf (Yba.f3.body.getD .skip))))))))))))))) RS))) := ⟨_, rfl⟩
  have hE : (secondOf (secondOf (secondOf (secondOf (secondOf (secondOf (secondOf (secondOf (secondOf (secondOf (secondOf (Yba.f3.body.getD .skip)))))))))))) = T := by rw [hT, hRS]; rfl
  rw [hE]
  have HRS : Hid _ := hRS
  clear hE hRS
  dsimp only [Yba.f3, Option.getD, secondOf, firstOf] at hT
  subst hT
  dsimp only
  obtain ⟨I, hI⟩ : ∃ I, I = idx L o.id := ⟨_, rfl⟩
  have hIn : I ≤ nO := by have := idx_le L o.id; rw [hctx.lenO] at this; omega
  have HALL : Hid (∀ w2, Below wx.heap.size wx w2 → ∀ ix full, ((I < nO ∧ ix = (I : Int)) ∨ (I = nO ∧ ix = -1)) → full = ((nO : Int) == 6) → ∀ (u0 u1 u2 u3 u4 u5 u7 u9 u13 u14 u15 u16 u17 u18 u19 u20 u21 u22 u23 u24 u25 u26 u27 u28 u29 u30 u31 u32 u33 u34 u35 u36 u37 u38 u39 u40 u41 u42 u43 u44 u45 u46 u47 u48 u49 u50 u51 u52 u53 u54 u55 u56 u57 u58 u59 u60 u61 u62 u63 u64 u65 u66 u67 u68 u69 u70 u71 u72 u73 u74 u75 u76 u77 u78 u79 u80 u81 u82 u83 u84 u85 u86 u87 u88 u89 u90 u91 u92 u93 u94 u95 u96 u97 u98 u99 u100 u101 u102 u103 u104 u105 u106 u107 u108 u109 u110 u111 u112 u113 u114 u115 u116 u117 u118 u119 u120 u121 u122 u123 u124 u125 u126 u127 u128 u129 u130 u131 u132 u133 u134 u135 u136 u137 u138 u139 u140 u141 u142 u143 u144 u145 u146 u147 u148 u149 u150 u151 u152 u153 u154 u155 u156 u157 u158 u159 u160 u161 u162 u163 u164 u165 u166 u167 u168 u169 u170 u171 u172 u173 u174 u175 u176 u177 u178 u179 u180 u181 u182 u183 u184 u185 u186 u187 u188 u189 u190 u191 u192 u193 u194 u195 u196 u197 u198 u199 u200 u201 u202 u203 u204 u205 u206 u207 u208 u209 u210 u211 u212 u213 u214 u215 u216 u217 u218 u219 u220 u221 u222 u223 u224 u225 u226 u227 u228 u229 u230 u231 u232 u233 u234 u235 u236 u237 u238 u239 u240 u241 u242 u243 u244 u245 u246 u247 u248 u249 u250 u251 u252 u253 u254 u255 u256 u257 u258 u259 u260 u261 u262 u263 u264 u265 u266 u267 u268 u269 u270 u271 u272 u273 u274 u275 u276 u277 u278 u279 u280 u281 u282 : Value), Code.wp Yba.prog RS (bodyPost Yba.prog Yba.f3 fun e w' => e = .returned (.bool true) ∧ Below w0.heap.size w0 w') { tmps := #[u0, u1, u2, u3, u4, u5, .slice ao nO cO, u7, .pointer (some ⟨N, 0, none⟩), u9, .pointer (some ⟨B, 0, none⟩), .bool full, .int .i64 ix, u13, u14, u15, u16, u17, u18, u19, u20, u21, u22, u23, u24, u25, u26, u27, u28, u29, u30, u31, u32, u33, u34, u35, u36, u37, u38, u39, u40, u41, u42, u43, u44, u45, u46, u47, u48, u49, u50, u51, u52, u53, u54, u55, u56, u57, u58, u59, u60, u61, u62, u63, u64, u65, u66, u67, u68, u69, u70, u71, u72, u73, u74, u75, u76, u77, u78, u79, u80, u81, u82, u83, u84, u85, u86, u87, u88, u89, u90, u91, u92, u93, u94, u95, u96, u97, u98, u99, u100, u101, u102, u103, u104, u105, u106, u107, u108, u109, u110, u111, u112, u113, u114, u115, u116, u117, u118, u119, u120, u121, u122, u123, u124, u125, u126, u127, u128, u129, u130, u131, u132, u133, u134, u135, u136, u137, u138, u139, u140, u141, u142, u143, u144, u145, u146, u147, u148, u149, u150, u151, u152, u153, u154, u155, u156, u157, u158, u159, u160, u161, u162, u163, u164, u165, u166, u167, u168, u169, u170, u171, u172, u173, u174, u175, u176, u177, u178, u179, u180, u181, u182, u183, u184, u185, u186, u187, u188, u189, u190, u191, u192, u193, u194, u195, u196, u197, u198, u199, u200, u201, u202, u203, u204, u205, u206, u207, u208, u209, u210, u211, u212, u213, u214, u215, u216, u217, u218, u219, u220, u221, u222, u223, u224, u225, u226, u227, u228, u229, u230, u231, u232, u233, u234, u235, u236, u237, u238, u239, u240, u241, u242, u243, u244, u245, u246, u247, u248, u249, u250, u251, u252, u253, u254, u255, u256, u257, u258, u259, u260, u261, u262, u263, u264, u265, u266, u267, u268, u269, u270, u271, u272, u273, u274, u275, u276, u277, u278, u279, u280, u281, u282], defers := [] } w2) := by
    intro w2 hb2 ix full h1 h2
    intros
    rw [HRS.out]
    have h3 : full = (nO == 6) := by
      rw [h2, Bool.eq_iff_iff]
      simp only [beq_iff_eq]
      omega
    exact pl14 w0 w2 N B ao an nO nN cN L L' o (hctx.below hb2) cO ix full I hI h1 h3 _ _ _ _ _ _ _ _ _ _ _ _ _ _ _ _ _ _ _ _ _ _ _ _ _ _ _ _ _ _ _ _ _ _ _ _ _ _ _ _ _ _ _ _ _ _ _ _ _ _ _ _ _ _ _ _ _ _ _ _ _ _ _ _ _ _ _ _ _ _ _ _ _ _ _ _ _ _ _ _ _ _ _ _ _ _ _ _ _ _ _ _ _ _ _ _ _ _ _ _ _ _ _ _ _ _ _ _ _ _ _ _ _ _ _ _ _ _ _ _ _ _ _ _ _ _ _ _ _ _ _ _ _ _ _ _ _ _ _ _ _ _ _ _ _ _ _ _ _ _ _ _ _ _ _ _ _ _ _ _ _ _ _ _ _ _ _ _ _ _ _ _ _ _ _ _ _ _ _ _ _ _ _ _ _ _ _ _ _ _ _ _ _ _ _ _ _ _ _ _ _ _ _ _ _ _ _ _ _ _ _ _ _ _ _ _ _ _ _ _ _ _ _ _ _ _ _ _ _ _ _ _ _ _ _ _ _ _ _ _ _ _ _ _ _ _ _ _ _ _ _ _ _ _ _ _ _ _ _ _ _ _ _ _ _ _ _ _ _ _ _ _ _ _ _ _ _ _
  have HR : Hid (∀ wr, Below wx.heap.size wx wr → ∀ k, k < nO → ∃ b g, L[k]? = some b ∧ ao = some ⟨g, 0, none⟩ ∧ g < wr.heap.size ∧ wr.cell? ⟨g, k * 6, none⟩ = some (.int .u64 b.id) ∧ wr.cell? ⟨B, 0, none⟩ = some (.int .u64 o.id) ∧ B < wr.heap.size) := by
    intro wr hbr k hk
    have c := hctx.below hbr
    obtain ⟨b, hb⟩ : ∃ b, L[k]? = some b := ⟨_, List.getElem?_eq_getElem (by rw [hctx.lenO]; exact hk)⟩
    obtain ⟨g, e1, e2, _, e3⟩ := RowAt.nb c.old hb
    exact ⟨b, g, hb, e1, e2, e3.c0, c.box.c0, c.ltB⟩
  have HID : Hid (∀ k b, L[k]? = some b → (b.id = o.id ↔ k = I)) := fun k b hb => by rw [hI]; exact id_iff hctx.good.ids hb
  have hn7 : nO ≤ 6 := by have := hctx.good.len; rwa [hctx.lenO] at this
  clear hctx hI
  go_wp2
  go_loopw [12, 70] (fun x i wr => ∃ k : Nat, k ≤ nO ∧ i = .int .i64 k ∧ x = .int .i64 (if I < k then (I : Int) else -1) ∧ Below wx.heap.size wx wr) (fun _ i _ => nO - (intOf i).toNat)
  case atStart => exact ⟨0, by omega, rfl, by simp, Below.refl _ _⟩
  case round =>
    obtain ⟨k, hk, rfl, rfl, hbr⟩ := hrel
    obtain ⟨x, hx⟩ : ∃ x : Int, x = if I < k then (I : Int) else -1 := ⟨_, rfl⟩
    rw [← hx]
    have HX : Hid _ := hx
    clear hx
    by_cases hkn : k < nO
    · have hkn' : (k : Int) < (nO : Int) := by omega
      obtain ⟨b, g, hLb, rfl, hgl, c0, q0, hBl⟩ := HR.out wr hbr k hkn
      by_cases hkj : k = I
      · have hid' : (b.id == o.id) = true := by simpa using (HID.out k b hLb).2 hkj
        have HBR : Hid _ := hbr
        have HKJ : Hid _ := hkj
        clear hLb hbr hkj
        go_wp2
        go_quiet (fail)
        go_wp2
        go_roundw
        case rel => exact ⟨k + 1, by omega, by go_num, by rw [if_pos (by have := HKJ.out; omega), HKJ.out], bdrew HBR.out _⟩
        case measure => simp [intOf]; omega
      · have hid' : (b.id == o.id) = false := by rw [beq_eq_false_iff_ne]; exact fun e => hkj ((HID.out k b hLb).1 e)
        have HBR : Hid _ := hbr
        clear hLb hbr
        go_wp2
        go_quiet (fail)
        go_wp2
        go_roundw
        case rel => exact ⟨k + 1, by omega, by go_num, by rw [show (if I < k + 1 then (I : Int) else -1) = x by rw [HX.out]; split <;> split <;> omega], bdrew HBR.out _⟩
        case measure => simp [intOf]; omega
    · have hkn' : k = nO := by omega
      subst hkn'
      have hd : decide ((k : Int) < (k : Int)) = false := by simp
      have HBR : Hid _ := hbr
      have HIX : Hid ((I < k ∧ x = (I : Int)) ∨ (I = k ∧ x = -1)) := by
        show _ ∨ _
        rw [HX.out]
        by_cases h : I < k
        · exact .inl ⟨h, if_pos h⟩
        · exact .inr ⟨by omega, if_neg h⟩
      clear hbr
      go_wp2
      exact HALL.out _ HBR.out x _ HIX.out rfl _ _ _ _ _ _ _ _ _ _ _ _ _ _ _ _ _ _ _ _ _ _ _ _ _ _ _ _ _ _ _ _ _ _ _ _ _ _ _ _ _ _ _ _ _ _ _ _ _ _ _ _ _ _ _ _ _ _ _ _ _ _ _ _ _ _ _ _ _ _ _ _ _ _ _ _ _ _ _ _ _ _ _ _ _ _ _ _ _ _ _ _ _ _ _ _ _ _ _ _ _ _ _ _ _ _ _ _ _ _ _ _ _ _ _ _ _ _ _ _ _ _ _ _ _ _ _ _ _ _ _ _ _ _ _ _ _ _ _ _ _ _ _ _ _ _ _ _ _ _ _ _ _ _ _ _ _ _ _ _ _ _ _ _ _ _ _ _ _ _ _ _ _ _ _ _ _ _ _ _ _ _ _ _ _ _ _ _ _ _ _ _ _ _ _ _ _ _ _ _ _ _ _ _ _ _ _ _ _ _ _ _ _ _ _ _ _ _ _ _ _ _ _ _ _ _ _ _ _ _ _ _ _ _ _ _ _ _ _ _ _ _ _ _ _ _ _ _ _ _ _ _ _ _ _ _ _ _ _ _ _ _ _ _ _ _ _ _ _ _ _ _ _ _ _ _ _ _

end Go.Proofs.Ybulkawyi
