import Derived.Test.YbulkawyiPlC
namespace Go.Proofs.Ybulkawyi
open Go.RowKit
set_option linter.unusedVariables false
attribute [local go_sem] run_store_float

theorem erase_same {L : List Nb} {k J : Nat} (hk : k < L.length) (hkJ : k = J) : (L.take (k + 1)).eraseIdx J = (L.take k).eraseIdx J := by
  subst hkJ
  have hl : (L.take k).length = k := by rw [List.length_take]; omega
  rw [List.take_add_one, List.getElem?_eq_getElem hk, List.eraseIdx_append_of_length_le (by omega), List.eraseIdx_of_length_le (l := L.take k) (by omega), hl, Nat.sub_self]
  simp
theorem erase_more {L : List Nb} {k J : Nat} {b : Nb} (hb : L[k]? = some b) (hkJ : k ≠ J) : (L.take (k + 1)).eraseIdx J = (L.take k).eraseIdx J ++ [b] := by
  have hk := getElem?_lt hb
  rw [List.take_add_one, hb]
  rcases Nat.lt_or_gt_of_ne hkJ with h | h
  · rw [List.eraseIdx_of_length_le (by simp; omega), List.eraseIdx_of_length_le (by simp; omega)]
    rfl
  · rw [List.eraseIdx_append_of_lt_length (by simp; omega)]
    rfl

set_option maxRecDepth 100000 in
set_option maxHeartbeats 16000000 in
theorem pl17 (w0 wx : World) (N B : Nat) (ao an : Option Addr) (nO nN cN : Nat) (L L' : List Nb) (o : Nb) (hctx : Ctx w0 wx N B ao an nO nN cN L L' o) (cO : Nat) (ix : Int) (full : Bool) (J : Nat) (hJ : rest L o = L.eraseIdx J) (hins : L' = ins (rest L o) o) (hsk : (ix = (J : Int) ∧ J < nO) ∨ (ix = -1 ∧ full = true ∧ nO = 6 ∧ J = 5) ∨ (ix = -1 ∧ full = false ∧ J = nO)) (u0 u1 u2 u3 u4 u5 u7 u9 u13 u14 u15 u16 u17 u18 u19 u20 u21 u22 u23 u24 u25 u26 u27 u28 u29 u30 u31 u32 u33 u34 u35 u36 u37 u38 u39 u40 u41 u42 u43 u44 u45 u46 u47 u48 u49 u50 u51 u52 u53 u54 u55 u56 u57 u58 u59 u60 u61 u62 u63 u64 u65 u66 u67 u68 u69 u70 u71 u72 u73 u74 u75 u76 u77 u78 u79 u80 u81 u82 u83 u84 u85 u86 u87 u88 u89 u90 u91 u92 u93 u94 u95 u96 u97 u98 u99 u100 u101 u102 u103 u104 u105 u106 u107 u108 u109 u110 u111 u112 u113 u114 u115 u116 u117 u118 u119 u120 u121 u122 u123 u124 u125 u126 u127 u128 u129 u130 u131 u132 u133 u134 u135 u136 u137 u138 u139 u140 u141 u142 u143 u144 u145 u146 u147 u148 u149 u150 u151 u152 u153 u154 u155 u156 u157 u158 u159 u160 u161 u162 u163 u164 u165 u166 u167 u168 u169 u170 u171 u172 u173 u174 u175 u176 u177 u178 u179 u180 u181 u182 u183 u184 u185 u186 u187 u188 u189 u190 u191 u192 u193 u194 u195 u196 u197 u198 u199 u200 u201 u202 u203 u204 u205 u206 u207 u208 u209 u210 u211 u212 u213 u214 u215 u216 u217 u218 u219 u220 u221 u222 u223 u224 u225 u226 u227 u228 u229 u230 u231 u232 u233 u234 u235 u236 u237 u238 u239 u240 u241 u242 u243 u244 u245 u246 u247 u248 u249 u250 u251 u252 u253 u254 u255 u256 u257 u258 u259 u260 u261 u262 u263 u264 u265 u266 u267 u268 u269 u270 u271 u272 u273 u274 u275 u276 u277 u278 u279 u280 u281 u282 : Value) :
    Code.wp Yba.prog (secondOf (secondOf (secondOf (secondOf (secondOf (secondOf (secondOf (secondOf (secondOf (secondOf (secondOf (secondOf (secondOf (secondOf (secondOf (secondOf (secondOf (Yba.f3.body.getD .skip)))))))))))))))))) (bodyPost Yba.prog Yba.f3 fun e w' => e = .returned (.bool true) ∧ Below w0.heap.size w0 w') { tmps := #[u0, u1, u2, u3, u4, u5, .slice ao nO cO, u7, .pointer (some ⟨N, 0, none⟩), u9, .pointer (some ⟨B, 0, none⟩), .bool full, .int .i64 ix, u13, u14, u15, u16, u17, u18, u19, u20, u21, u22, u23, u24, u25, u26, u27, u28, u29, u30, u31, u32, u33, u34, u35, u36, u37, u38, u39, u40, u41, u42, u43, u44, u45, u46, u47, u48, u49, u50, u51, u52, u53, u54, u55, u56, u57, u58, u59, u60, u61, u62, u63, u64, u65, u66, u67, u68, u69, u70, u71, u72, u73, u74, u75, u76, u77, u78, u79, u80, u81, u82, u83, u84, u85, u86, u87, u88, u89, u90, u91, u92, u93, u94, u95, u96, u97, u98, u99, u100, u101, u102, u103, u104, u105, u106, u107, u108, u109, u110, u111, u112, u113, u114, u115, u116, u117, u118, u119, u120, u121, u122, u123, u124, u125, u126, u127, u128, u129, u130, u131, u132, u133, u134, u135, u136, u137, u138, u139, u140, u141, u142, u143, u144, u145, u146, u147, u148, u149, u150, u151, u152, u153, u154, u155, u156, u157, u158, u159, u160, u161, u162, u163, u164, u165, u166, u167, u168, u169, u170, u171, u172, u173, u174, u175, u176, u177, u178, u179, u180, u181, u182, u183, u184, u185, u186, u187, u188, u189, u190, u191, u192, u193, u194, u195, u196, u197, u198, u199, u200, u201, u202, u203, u204, u205, u206, u207, u208, u209, u210, u211, u212, u213, u214, u215, u216, u217, u218, u219, u220, u221, u222, u223, u224, u225, u226, u227, u228, u229, u230, u231, u232, u233, u234, u235, u236, u237, u238, u239, u240, u241, u242, u243, u244, u245, u246, u247, u248, u249, u250, u251, u252, u253, u254, u255, u256, u257, u258, u259, u260, u261, u262, u263, u264, u265, u266, u267, u268, u269, u270, u271, u272, u273, u274, u275, u276, u277, u278, u279, u280, u281, u282], defers := [] } wx := by
  obtain ⟨RS, hRS⟩ : ∃ RS, RS = (secondOf (secondOf (secondOf (secondOf (secondOf (secondOf (secondOf (secondOf (secondOf (secondOf (secondOf (secondOf (secondOf (secondOf (secondOf (secondOf (secondOf (secondOf (secondOf (Yba.f3.body.getD .skip)))))))))))))))))))) := ⟨_, rfl⟩
  obtain ⟨T, hT⟩ : ∃ T, T = (Code.seq (firstOf (secondOf (secondOf (secondOf (secondOf (secondOf (secondOf (secondOf (secondOf (secondOf (secondOf (secondOf (secondOf (secondOf (secondOf (secondOf (secondOf (secondOf (Yba.f3.body.getD .skip))))))))))))))))))) (Code.seq (firstOf (secondOf (secondOf (secondOf (secondOf (secondOf (secondOf (secondOf (secondOf (secondOf (secondOf (secondOf (secondOf (secondOf (secondOf (secondOf (secondOf (secondOf (secondOf (Yba.f3.body.getD .skip)))))))))))))))))))) RS)) := ⟨_, rfl⟩
  have hE : (secondOf (secondOf (secondOf (secondOf (secondOf (secondOf (secondOf (secondOf (secondOf (secondOf (secondOf (secondOf (secondOf (secondOf (secondOf (secondOf (secondOf (Yba.f3.body.getD .skip)))))))))))))))))) = T := by rw [hT, hRS]; rfl
  rw [hE]
  have HRS : Hid _ := hRS
  clear hE hRS
  dsimp only [Yba.f3, Option.getD, secondOf, firstOf] at hT
  subst hT
  dsimp only
  have HALL : Hid (∀ w2, Below wx.heap.size wx w2 → ∀ ak m c, w2.ownsRow wx.heap.size 48 6 (.slice ak m c) m (flat ((L.take nO).eraseIdx J)) → ((L.take nO).eraseIdx J).length = m → ∀ (u0 u1 u2 u3 u4 u5 u6 u7 u9 u11 u12 u13 u14 u16 u17 u18 u19 u20 u21 u22 u23 u24 u25 u26 u27 u28 u29 u30 u31 u32 u33 u34 u35 u36 u37 u38 u39 u40 u41 u42 u43 u44 u45 u46 u47 u48 u49 u50 u51 u52 u53 u54 u55 u56 u57 u58 u59 u60 u61 u62 u63 u64 u65 u66 u67 u68 u69 u70 u71 u72 u73 u74 u75 u76 u77 u78 u79 u80 u81 u82 u83 u84 u85 u86 u87 u88 u89 u90 u91 u92 u93 u94 u95 u96 u97 u98 u99 u100 u101 u102 u103 u104 u105 u106 u107 u108 u109 u110 u111 u112 u113 u114 u115 u116 u117 u118 u119 u120 u121 u122 u123 u124 u125 u126 u127 u128 u129 u130 u131 u132 u133 u134 u135 u136 u137 u138 u139 u140 u141 u142 u143 u144 u145 u146 u147 u148 u149 u150 u151 u152 u153 u154 u155 u156 u157 u158 u159 u160 u161 u162 u163 u164 u165 u166 u167 u168 u169 u170 u171 u172 u173 u174 u175 u176 u177 u178 u179 u180 u181 u182 u183 u184 u185 u186 u187 u188 u189 u190 u191 u192 u193 u194 u195 u196 u197 u198 u199 u200 u201 u202 u203 u204 u205 u206 u207 u208 u209 u210 u211 u212 u213 u214 u215 u216 u217 u218 u219 u220 u221 u222 u223 u224 u225 u226 u227 u228 u229 u230 u231 u232 u233 u234 u235 u236 u237 u238 u239 u240 u241 u242 u243 u244 u245 u246 u247 u248 u249 u250 u251 u252 u253 u254 u255 u256 u257 u258 u259 u260 u261 u262 u263 u264 u265 u266 u267 u268 u269 u270 u271 u272 u273 u274 u275 u276 u277 u278 u279 u280 u281 u282 : Value), Code.wp Yba.prog RS (bodyPost Yba.prog Yba.f3 fun e w' => e = .returned (.bool true) ∧ Below w0.heap.size w0 w') { tmps := #[u0, u1, u2, u3, u4, u5, u6, u7, .pointer (some ⟨N, 0, none⟩), u9, .pointer (some ⟨B, 0, none⟩), u11, u12, u13, u14, .slice ak m c, u16, u17, u18, u19, u20, u21, u22, u23, u24, u25, u26, u27, u28, u29, u30, u31, u32, u33, u34, u35, u36, u37, u38, u39, u40, u41, u42, u43, u44, u45, u46, u47, u48, u49, u50, u51, u52, u53, u54, u55, u56, u57, u58, u59, u60, u61, u62, u63, u64, u65, u66, u67, u68, u69, u70, u71, u72, u73, u74, u75, u76, u77, u78, u79, u80, u81, u82, u83, u84, u85, u86, u87, u88, u89, u90, u91, u92, u93, u94, u95, u96, u97, u98, u99, u100, u101, u102, u103, u104, u105, u106, u107, u108, u109, u110, u111, u112, u113, u114, u115, u116, u117, u118, u119, u120, u121, u122, u123, u124, u125, u126, u127, u128, u129, u130, u131, u132, u133, u134, u135, u136, u137, u138, u139, u140, u141, u142, u143, u144, u145, u146, u147, u148, u149, u150, u151, u152, u153, u154, u155, u156, u157, u158, u159, u160, u161, u162, u163, u164, u165, u166, u167, u168, u169, u170, u171, u172, u173, u174, u175, u176, u177, u178, u179, u180, u181, u182, u183, u184, u185, u186, u187, u188, u189, u190, u191, u192, u193, u194, u195, u196, u197, u198, u199, u200, u201, u202, u203, u204, u205, u206, u207, u208, u209, u210, u211, u212, u213, u214, u215, u216, u217, u218, u219, u220, u221, u222, u223, u224, u225, u226, u227, u228, u229, u230, u231, u232, u233, u234, u235, u236, u237, u238, u239, u240, u241, u242, u243, u244, u245, u246, u247, u248, u249, u250, u251, u252, u253, u254, u255, u256, u257, u258, u259, u260, u261, u262, u263, u264, u265, u266, u267, u268, u269, u270, u271, u272, u273, u274, u275, u276, u277, u278, u279, u280, u281, u282], defers := [] } w2) := by
    intro w2 hb2 ak m c ho hl
    intros
    rw [HRS.out]
    have e1 : (L.take nO).eraseIdx J = rest L o := by rw [hJ, ← hctx.lenO, List.take_length]
    rw [e1] at ho hl
    have hr5 := rest_len (o := o) hctx.good
    exact pl19 w0 w2 N B ao an nO nN cN L L' o (hctx.below hb2) (rest L o) ak m c (pos (rest L o) o) (RowAt.of_own ho hl) hl (by omega) (by rw [← hl]; exact pos_le _ _) (fun k b hk hb => by rw [hins]; exact ins_lo hk hb) (fun k b hk hb => by rw [hins]; exact ins_hi hk hb) (by rw [hins]; exact ins_at _ _) (fun k b hb => by rw [hins] at hb; exact ins_id_iff (rest_ids hctx.good) hb) (by rw [← hctx.lenN, hins, ins_length, hl]) _ _ _ _ _ _ _ _ _ _ _ _ _ _ _ _ _ _ _ _ _ _ _ _ _ _ _ _ _ _ _ _ _ _ _ _ _ _ _ _ _ _ _ _ _ _ _ _ _ _ _ _ _ _ _ _ _ _ _ _ _ _ _ _ _ _ _ _ _ _ _ _ _ _ _ _ _ _ _ _ _ _ _ _ _ _ _ _ _ _ _ _ _ _ _ _ _ _ _ _ _ _ _ _ _ _ _ _ _ _ _ _ _ _ _ _ _ _ _ _ _ _ _ _ _ _ _ _ _ _ _ _ _ _ _ _ _ _ _ _ _ _ _ _ _ _ _ _ _ _ _ _ _ _ _ _ _ _ _ _ _ _ _ _ _ _ _ _ _ _ _ _ _ _ _ _ _ _ _ _ _ _ _ _ _ _ _ _ _ _ _ _ _ _ _ _ _ _ _ _ _ _ _ _ _ _ _ _ _ _ _ _ _ _ _ _ _ _ _ _ _ _ _ _ _ _ _ _ _ _ _ _ _ _ _ _ _ _ _ _ _ _ _ _ _ _ _ _ _ _ _ _ _ _ _ _ _ _ _ _ _ _ _ _ _ _ _ _ _ _ _ _ _ _ _ _ _ _ _ _
  have HOLD : Hid (∀ wr, Below wx.heap.size wx wr → RowAt wr ao nO L) := fun wr hb => RowAt.below hctx.old hb
  have HLO : Hid (L.length = nO) := hctx.lenO
  have hn7 : nO ≤ 6 := by have := hctx.good.len; rwa [hctx.lenO] at this
  clear hctx hins hJ
  go_wp2
  go_loopw [15, 177] (fun x i wr => ∃ (k m c : Nat) (ak : Option Addr), k ≤ nO ∧ i = .int .i64 k ∧ x = .slice ak m c ∧ wr.ownsRow wx.heap.size 48 6 (.slice ak m c) m (flat ((L.take k).eraseIdx J)) ∧ ((L.take k).eraseIdx J).length = m ∧ Below wx.heap.size wx wr) (fun _ i _ => nO - (intOf i).toNat)
  case atStart => exact ⟨0, 0, 0, none, by omega, rfl, rfl, ⟨by simp [flat], .inl ⟨rfl, rfl⟩⟩, by simp, Below.refl _ _⟩
  case round =>
    obtain ⟨k, m, c, ak, hk, rfl, rfl, hown, hlm, hbr⟩ := hrel
    by_cases hkn : k < nO
    · have hkn' : (k : Int) < (nO : Int) := by omega
      obtain ⟨b, hLb⟩ : ∃ b, L[k]? = some b := ⟨_, List.getElem?_eq_getElem (by rw [HLO.out]; exact hkn)⟩
      rcases hsk with ⟨rfl, hJn⟩ | ⟨rfl, rfl, h6, hJ5⟩ | ⟨rfl, rfl, hJn⟩
      · have hJ0 : ¬ ((J : Int) < 0) := by omega
        by_cases hkJ : k = J
        · have hd : ((k : Int) == (J : Int)) = true := by rw [hkJ]; simp
          have HKJ : Hid _ := hkJ
          clear hkJ
          have hfl := erase_same (L := L) (k := k) (by rw [HLO.out]; exact hkn) HKJ.out
          have HOWN : Hid _ := hown
          have HBR : Hid _ := hbr
          have HLM : Hid _ := hlm
          have HEQ : Hid _ := hfl
          clear hLb hfl hlm hbr hown
          go_wp2
          go_roundw
          case rel => exact ⟨k + 1, m, c, ak, by omega, by go_num, rfl, by rw [HEQ.out]; exact HOWN.out, by rw [HEQ.out]; exact HLM.out, HBR.out⟩
          case measure => simp [intOf]; omega
        · have hd : ((k : Int) == (J : Int)) = false := by rw [beq_eq_false_iff_ne]; omega
          obtain ⟨g, rfl, hgl, _, hNb⟩ := RowAt.nb (HOLD.out wr hbr) hLb
          obtain ⟨c0, c1, c2, c3, c4, c5⟩ := hNb
          obtain ⟨i0, hi, hz0, hz1, hz2⟩ := info_parts info48
          have hown1 : (wr.alloc (.cells #[.int .u64 b.id, .float .f64 (pb b.pr), .bool b.st, .int .i64 b.hops, .int .u64 b.seq, .int .u64 b.named] 48)).ownsRow wx.heap.size 48 6 (.slice ak m c) m (flat ((L.take k).eraseIdx J)) :=
            own_any hown (fun g' hg' => Below.heap_alloc wr _ g' (World.ownsRow.lt hown g' hg').2)
          have hc1 : ∀ x u, b.cells[x]? = some u → (wr.alloc (.cells #[.int .u64 b.id, .float .f64 (pb b.pr), .bool b.st, .int .i64 b.hops, .int .u64 b.seq, .int .u64 b.named] 48)).cell? ((⟨wr.heap.size, 0, none⟩ : Addr).add x) = some u := by
            intro x u hx
            rw [Go.WideShapes.add_plain, Nat.zero_add]
            exact (World.cell?_alloc_at _ _ _ _ rfl).trans (by simpa [Nb.cells] using hx)
          have hbs := hbr.size
          have hm6 : m ≤ 6 := by rw [← hlm]; have h1 := (List.eraseIdx_sublist (L.take k) J).length_le; have h2 : (L.take k).length ≤ 6 := by rw [List.length_take]; omega
                                 omega
          have HFIN : Hid (∀ v' w1, w1.ownsRow wx.heap.size 48 6 v' (m + 1) (flat ((L.take k).eraseIdx J) ++ b.cells) → (wr.alloc (.cells #[.int .u64 b.id, .float .f64 (pb b.pr), .bool b.st, .int .i64 b.hops, .int .u64 b.seq, .int .u64 b.named] 48)).grownBy w1 (Value.slice ak m c).ownBlock → ∃ ak' c', v' = .slice ak' (m + 1) c' ∧ w1.ownsRow wx.heap.size 48 6 (.slice ak' (m + 1) c') (m + 1) (flat ((L.take (k + 1)).eraseIdx J)) ∧ ((L.take (k + 1)).eraseIdx J).length = m + 1 ∧ Below wx.heap.size wx w1) := by
            intro v' w1 ho hg
            have hfl : flat ((L.take k).eraseIdx J) ++ b.cells = flat ((L.take (k + 1)).eraseIdx J) := by rw [erase_more hLb hkJ, flat_append, flat_cons, flat_nil, List.append_nil]
            rw [hfl] at ho
            have hl2 : ((L.take (k + 1)).eraseIdx J).length = m + 1 := by rw [erase_more hLb hkJ, List.length_append, hlm]; rfl
            obtain ⟨g2, cp, rfl⟩ : ∃ g2 cp, v' = .slice (some ⟨g2, 0, none⟩) (m + 1) cp := by
              rcases ho.2 with ⟨_, h0⟩ | ⟨g2, cp, cur, e1, _⟩
              · omega
              · exact ⟨g2, cp, e1⟩
            exact ⟨_, _, rfl, ho, hl2, Below.grown (hbr.alloc hbr.size _) hg (by simp; omega) (fun x hx => (World.ownsRow.lt hown x hx).1)⟩
          have HBR : Hid _ := hbr
          have HKJ : Hid _ := hkJ
          have HLB : Hid _ := hLb
          have HLM : Hid _ := hlm
          clear hLb hlm hbr hown hkJ
          go_wp2_with (at_builtin; refine wpList_append_own _ rfl (.tmp 197) (.tmp 202) 26 rfl wx.heap.size 48 i0 _ 6 48 Yba.underlying26 hi hz0 hz1 hz2 rfl (by decide) _ m (flat ((L.take k).eraseIdx J)) rfl hown1 ⟨wr.heap.size, 0, none⟩ 1 1 b.cells rfl rfl hc1 (cells_one b) (by unfold maxLen; omega) (by omega) (by simp; omega) ?_; intro v' w1 hown' hgrow _)
          obtain ⟨ak', c', rfl, ho', hl', hb'⟩ := HFIN.out v' w1 hown' hgrow
          clear hown' hgrow
          go_roundw
          case rel => exact ⟨k + 1, m + 1, c', ak', by omega, by go_num, rfl, ho', hl', hb'⟩
          case measure => simp [intOf]; omega
      · have hwn : IntKind.wrap .i64 ((nO : Int) - 1) = (J : Int) := by rw [wrap_i64 _ (by omega) (by omega)]; omega
        have hm1 : ((k : Int) == -1) = false := by rw [beq_eq_false_iff_ne]; omega
        have H6 : Hid _ := h6
        have HJ5 : Hid _ := hJ5
        clear h6 hJ5
        by_cases hkJ : k = J
        · have hd : ((k : Int) == (J : Int)) = true := by rw [hkJ]; simp
          have HKJ : Hid _ := hkJ
          clear hkJ
          have hfl := erase_same (L := L) (k := k) (by rw [HLO.out]; exact hkn) HKJ.out
          have HOWN : Hid _ := hown
          have HBR : Hid _ := hbr
          have HLM : Hid _ := hlm
          have HEQ : Hid _ := hfl
          clear hLb hfl hlm hbr hown
          go_wp2
          go_roundw
          case rel => exact ⟨k + 1, m, c, ak, by omega, by go_num, rfl, by rw [HEQ.out]; exact HOWN.out, by rw [HEQ.out]; exact HLM.out, HBR.out⟩
          case measure => simp [intOf]; omega
        · have hd : ((k : Int) == (J : Int)) = false := by rw [beq_eq_false_iff_ne]; omega
          obtain ⟨g, rfl, hgl, _, hNb⟩ := RowAt.nb (HOLD.out wr hbr) hLb
          obtain ⟨c0, c1, c2, c3, c4, c5⟩ := hNb
          obtain ⟨i0, hi, hz0, hz1, hz2⟩ := info_parts info48
          have hown1 : (wr.alloc (.cells #[.int .u64 b.id, .float .f64 (pb b.pr), .bool b.st, .int .i64 b.hops, .int .u64 b.seq, .int .u64 b.named] 48)).ownsRow wx.heap.size 48 6 (.slice ak m c) m (flat ((L.take k).eraseIdx J)) :=
            own_any hown (fun g' hg' => Below.heap_alloc wr _ g' (World.ownsRow.lt hown g' hg').2)
          have hc1 : ∀ x u, b.cells[x]? = some u → (wr.alloc (.cells #[.int .u64 b.id, .float .f64 (pb b.pr), .bool b.st, .int .i64 b.hops, .int .u64 b.seq, .int .u64 b.named] 48)).cell? ((⟨wr.heap.size, 0, none⟩ : Addr).add x) = some u := by
            intro x u hx
            rw [Go.WideShapes.add_plain, Nat.zero_add]
            exact (World.cell?_alloc_at _ _ _ _ rfl).trans (by simpa [Nb.cells] using hx)
          have hbs := hbr.size
          have hm6 : m ≤ 6 := by rw [← hlm]; have h1 := (List.eraseIdx_sublist (L.take k) J).length_le; have h2 : (L.take k).length ≤ 6 := by rw [List.length_take]; omega
                                 omega
          have HFIN : Hid (∀ v' w1, w1.ownsRow wx.heap.size 48 6 v' (m + 1) (flat ((L.take k).eraseIdx J) ++ b.cells) → (wr.alloc (.cells #[.int .u64 b.id, .float .f64 (pb b.pr), .bool b.st, .int .i64 b.hops, .int .u64 b.seq, .int .u64 b.named] 48)).grownBy w1 (Value.slice ak m c).ownBlock → ∃ ak' c', v' = .slice ak' (m + 1) c' ∧ w1.ownsRow wx.heap.size 48 6 (.slice ak' (m + 1) c') (m + 1) (flat ((L.take (k + 1)).eraseIdx J)) ∧ ((L.take (k + 1)).eraseIdx J).length = m + 1 ∧ Below wx.heap.size wx w1) := by
            intro v' w1 ho hg
            have hfl : flat ((L.take k).eraseIdx J) ++ b.cells = flat ((L.take (k + 1)).eraseIdx J) := by rw [erase_more hLb hkJ, flat_append, flat_cons, flat_nil, List.append_nil]
            rw [hfl] at ho
            have hl2 : ((L.take (k + 1)).eraseIdx J).length = m + 1 := by rw [erase_more hLb hkJ, List.length_append, hlm]; rfl
            obtain ⟨g2, cp, rfl⟩ : ∃ g2 cp, v' = .slice (some ⟨g2, 0, none⟩) (m + 1) cp := by
              rcases ho.2 with ⟨_, h0⟩ | ⟨g2, cp, cur, e1, _⟩
              · omega
              · exact ⟨g2, cp, e1⟩
            exact ⟨_, _, rfl, ho, hl2, Below.grown (hbr.alloc hbr.size _) hg (by simp; omega) (fun x hx => (World.ownsRow.lt hown x hx).1)⟩
          have HBR : Hid _ := hbr
          have HKJ : Hid _ := hkJ
          have HLB : Hid _ := hLb
          have HLM : Hid _ := hlm
          clear hLb hlm hbr hown hkJ
          go_wp2_with (at_builtin; refine wpList_append_own _ rfl (.tmp 197) (.tmp 202) 26 rfl wx.heap.size 48 i0 _ 6 48 Yba.underlying26 hi hz0 hz1 hz2 rfl (by decide) _ m (flat ((L.take k).eraseIdx J)) rfl hown1 ⟨wr.heap.size, 0, none⟩ 1 1 b.cells rfl rfl hc1 (cells_one b) (by unfold maxLen; omega) (by omega) (by simp; omega) ?_; intro v' w1 hown' hgrow _)
          obtain ⟨ak', c', rfl, ho', hl', hb'⟩ := HFIN.out v' w1 hown' hgrow
          clear hown' hgrow
          go_roundw
          case rel => exact ⟨k + 1, m + 1, c', ak', by omega, by go_num, rfl, ho', hl', hb'⟩
          case measure => simp [intOf]; omega
      · have hm1 : ((k : Int) == -1) = false := by rw [beq_eq_false_iff_ne]; omega
        have hkJ : k ≠ J := by omega
        have HJN : Hid _ := hJn
        clear hJn
        obtain ⟨g, rfl, hgl, _, hNb⟩ := RowAt.nb (HOLD.out wr hbr) hLb
        obtain ⟨c0, c1, c2, c3, c4, c5⟩ := hNb
        obtain ⟨i0, hi, hz0, hz1, hz2⟩ := info_parts info48
        have hown1 : (wr.alloc (.cells #[.int .u64 b.id, .float .f64 (pb b.pr), .bool b.st, .int .i64 b.hops, .int .u64 b.seq, .int .u64 b.named] 48)).ownsRow wx.heap.size 48 6 (.slice ak m c) m (flat ((L.take k).eraseIdx J)) :=
          own_any hown (fun g' hg' => Below.heap_alloc wr _ g' (World.ownsRow.lt hown g' hg').2)
        have hc1 : ∀ x u, b.cells[x]? = some u → (wr.alloc (.cells #[.int .u64 b.id, .float .f64 (pb b.pr), .bool b.st, .int .i64 b.hops, .int .u64 b.seq, .int .u64 b.named] 48)).cell? ((⟨wr.heap.size, 0, none⟩ : Addr).add x) = some u := by
          intro x u hx
          rw [Go.WideShapes.add_plain, Nat.zero_add]
          exact (World.cell?_alloc_at _ _ _ _ rfl).trans (by simpa [Nb.cells] using hx)
        have hbs := hbr.size
        have hm6 : m ≤ 6 := by rw [← hlm]; have h1 := (List.eraseIdx_sublist (L.take k) J).length_le; have h2 : (L.take k).length ≤ 6 := by rw [List.length_take]; omega
                               omega
        have HFIN : Hid (∀ v' w1, w1.ownsRow wx.heap.size 48 6 v' (m + 1) (flat ((L.take k).eraseIdx J) ++ b.cells) → (wr.alloc (.cells #[.int .u64 b.id, .float .f64 (pb b.pr), .bool b.st, .int .i64 b.hops, .int .u64 b.seq, .int .u64 b.named] 48)).grownBy w1 (Value.slice ak m c).ownBlock → ∃ ak' c', v' = .slice ak' (m + 1) c' ∧ w1.ownsRow wx.heap.size 48 6 (.slice ak' (m + 1) c') (m + 1) (flat ((L.take (k + 1)).eraseIdx J)) ∧ ((L.take (k + 1)).eraseIdx J).length = m + 1 ∧ Below wx.heap.size wx w1) := by
          intro v' w1 ho hg
          have hfl : flat ((L.take k).eraseIdx J) ++ b.cells = flat ((L.take (k + 1)).eraseIdx J) := by rw [erase_more hLb hkJ, flat_append, flat_cons, flat_nil, List.append_nil]
          rw [hfl] at ho
          have hl2 : ((L.take (k + 1)).eraseIdx J).length = m + 1 := by rw [erase_more hLb hkJ, List.length_append, hlm]; rfl
          obtain ⟨g2, cp, rfl⟩ : ∃ g2 cp, v' = .slice (some ⟨g2, 0, none⟩) (m + 1) cp := by
            rcases ho.2 with ⟨_, h0⟩ | ⟨g2, cp, cur, e1, _⟩
            · omega
            · exact ⟨g2, cp, e1⟩
          exact ⟨_, _, rfl, ho, hl2, Below.grown (hbr.alloc hbr.size _) hg (by simp; omega) (fun x hx => (World.ownsRow.lt hown x hx).1)⟩
        have HBR : Hid _ := hbr
        have HKJ : Hid _ := hkJ
        have HLB : Hid _ := hLb
        have HLM : Hid _ := hlm
        clear hLb hlm hbr hown hkJ
        go_wp2_with (at_builtin; refine wpList_append_own _ rfl (.tmp 197) (.tmp 202) 26 rfl wx.heap.size 48 i0 _ 6 48 Yba.underlying26 hi hz0 hz1 hz2 rfl (by decide) _ m (flat ((L.take k).eraseIdx J)) rfl hown1 ⟨wr.heap.size, 0, none⟩ 1 1 b.cells rfl rfl hc1 (cells_one b) (by unfold maxLen; omega) (by omega) (by simp; omega) ?_; intro v' w1 hown' hgrow _)
        obtain ⟨ak', c', rfl, ho', hl', hb'⟩ := HFIN.out v' w1 hown' hgrow
        clear hown' hgrow
        go_roundw
        case rel => exact ⟨k + 1, m + 1, c', ak', by omega, by go_num, rfl, ho', hl', hb'⟩
        case measure => simp [intOf]; omega
    · have hkn' : k = nO := by omega
      subst hkn'
      have hd : decide ((k : Int) < (k : Int)) = false := by simp
      have HBR : Hid _ := hbr
      have HOWN : Hid _ := hown
      have HLM : Hid _ := hlm
      clear hbr hown hlm hsk
      go_wp2
      exact HALL.out _ HBR.out ak m c HOWN.out HLM.out _ _ _ _ _ _ _ _ _ _ _ _ _ _ _ _ _ _ _ _ _ _ _ _ _ _ _ _ _ _ _ _ _ _ _ _ _ _ _ _ _ _ _ _ _ _ _ _ _ _ _ _ _ _ _ _ _ _ _ _ _ _ _ _ _ _ _ _ _ _ _ _ _ _ _ _ _ _ _ _ _ _ _ _ _ _ _ _ _ _ _ _ _ _ _ _ _ _ _ _ _ _ _ _ _ _ _ _ _ _ _ _ _ _ _ _ _ _ _ _ _ _ _ _ _ _ _ _ _ _ _ _ _ _ _ _ _ _ _ _ _ _ _ _ _ _ _ _ _ _ _ _ _ _ _ _ _ _ _ _ _ _ _ _ _ _ _ _ _ _ _ _ _ _ _ _ _ _ _ _ _ _ _ _ _ _ _ _ _ _ _ _ _ _ _ _ _ _ _ _ _ _ _ _ _ _ _ _ _ _ _ _ _ _ _ _ _ _ _ _ _ _ _ _ _ _ _ _ _ _ _ _ _ _ _ _ _ _ _ _ _ _ _ _ _ _ _ _ _ _ _ _ _ _ _ _ _ _ _ _ _ _ _ _ _ _ _ _ _ _ _ _ _ _ _ _ _ _ _ _

end Go.Proofs.Ybulkawyi
