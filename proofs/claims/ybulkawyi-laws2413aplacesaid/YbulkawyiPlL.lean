import Derived.Test.YbulkawyiPlK
namespace Go.Proofs.Ybulkawyi
open Go.RowKit
set_option linter.unusedVariables false
attribute [local go_sem] run_store_float

set_option maxRecDepth 100000 in
set_option maxHeartbeats 16000000 in
theorem pl0 (w0 wx : World) (hw : wx = w0) (b off len cap : Nat) (ad : Option Addr) (l f lp fp : Int) (ls fs : Bool) (h s : Int) (hlen : len ≤ 1024) (hr : (0 ≤ l ∧ l ≤ 255) ∧ (0 ≤ f ∧ f ≤ 255) ∧ (-128 ≤ lp ∧ lp ≤ 127) ∧ (-128 ≤ fp ∧ fp ≤ 127) ∧ (-128 ≤ h ∧ h ≤ 127) ∧ (0 ≤ s ∧ s ≤ 255)) (hes : ∀ k, k < len → ad = some ⟨b, off, none⟩ ∧ b < w0.heap.size ∧ ∃ id p st h s n, EntAt w0 b (off + k * 6) id p st h s n) (u2 u3 u4 u5 u6 u7 u8 u9 u10 u11 u12 u13 u14 u15 u16 u17 u18 u19 u20 u21 u22 u23 u24 u25 u26 u27 u28 u29 u30 u31 u32 u33 u34 u35 u36 u37 u38 u39 u40 u41 u42 u43 u44 u45 u46 u47 u48 u49 u50 u51 u52 u53 u54 u55 u56 u57 u58 u59 u60 u61 u62 u63 u64 u65 u66 u67 u68 u69 u70 u71 u72 u73 u74 u75 u76 u77 u78 u79 u80 u81 u82 u83 u84 u85 u86 u87 u88 u89 u90 u91 u92 u93 u94 u95 u96 u97 u98 u99 u100 u101 u102 u103 u104 u105 u106 u107 u108 u109 u110 u111 u112 u113 u114 u115 u116 u117 u118 u119 u120 u121 u122 u123 u124 u125 u126 u127 u128 u129 u130 u131 u132 u133 u134 u135 u136 u137 u138 u139 u140 u141 u142 u143 u144 u145 u146 u147 u148 u149 u150 u151 u152 u153 u154 u155 u156 u157 u158 u159 u160 u161 u162 u163 u164 u165 u166 u167 u168 u169 u170 u171 u172 u173 u174 u175 u176 u177 u178 u179 u180 u181 u182 u183 u184 u185 u186 u187 u188 u189 u190 u191 u192 u193 u194 u195 u196 u197 u198 u199 u200 u201 u202 u203 u204 u205 u206 u207 u208 u209 u210 u211 u212 u213 u214 u215 u216 u217 u218 u219 u220 u221 u222 u223 u224 u225 u226 u227 u228 u229 u230 u231 u232 u233 u234 u235 u236 u237 u238 u239 u240 u241 u242 u243 u244 u245 u246 u247 u248 u249 u250 u251 u252 u253 u254 u255 u256 u257 u258 u259 u260 u261 u262 u263 u264 u265 u266 u267 u268 u269 u270 u271 u272 u273 u274 u275 u276 u277 u278 u279 u280 u281 u282 : Value) :
    Code.wp Yba.prog (Yba.f3.body.getD .skip) (bodyPost Yba.prog Yba.f3 fun e w' => e = .returned (.bool true) ∧ Below w0.heap.size w0 w') { tmps := #[.slice ad len cap, (.agg #[.int .u8 l, .int .u8 f, .int .i8 lp, .int .i8 fp, .bool ls, .bool fs, .int .i8 h, .int .u8 s]), u2, u3, u4, u5, u6, u7, u8, u9, u10, u11, u12, u13, u14, u15, u16, u17, u18, u19, u20, u21, u22, u23, u24, u25, u26, u27, u28, u29, u30, u31, u32, u33, u34, u35, u36, u37, u38, u39, u40, u41, u42, u43, u44, u45, u46, u47, u48, u49, u50, u51, u52, u53, u54, u55, u56, u57, u58, u59, u60, u61, u62, u63, u64, u65, u66, u67, u68, u69, u70, u71, u72, u73, u74, u75, u76, u77, u78, u79, u80, u81, u82, u83, u84, u85, u86, u87, u88, u89, u90, u91, u92, u93, u94, u95, u96, u97, u98, u99, u100, u101, u102, u103, u104, u105, u106, u107, u108, u109, u110, u111, u112, u113, u114, u115, u116, u117, u118, u119, u120, u121, u122, u123, u124, u125, u126, u127, u128, u129, u130, u131, u132, u133, u134, u135, u136, u137, u138, u139, u140, u141, u142, u143, u144, u145, u146, u147, u148, u149, u150, u151, u152, u153, u154, u155, u156, u157, u158, u159, u160, u161, u162, u163, u164, u165, u166, u167, u168, u169, u170, u171, u172, u173, u174, u175, u176, u177, u178, u179, u180, u181, u182, u183, u184, u185, u186, u187, u188, u189, u190, u191, u192, u193, u194, u195, u196, u197, u198, u199, u200, u201, u202, u203, u204, u205, u206, u207, u208, u209, u210, u211, u212, u213, u214, u215, u216, u217, u218, u219, u220, u221, u222, u223, u224, u225, u226, u227, u228, u229, u230, u231, u232, u233, u234, u235, u236, u237, u238, u239, u240, u241, u242, u243, u244, u245, u246, u247, u248, u249, u250, u251, u252, u253, u254, u255, u256, u257, u258, u259, u260, u261, u262, u263, u264, u265, u266, u267, u268, u269, u270, u271, u272, u273, u274, u275, u276, u277, u278, u279, u280, u281, u282], defers := [] } wx := by
  obtain ⟨RS, hRS⟩ : ∃ RS, RS = (secondOf (secondOf (secondOf (secondOf (secondOf (secondOf (secondOf (secondOf (Yba.f3.body.getD .skip))))))))) := ⟨_, rfl⟩
  obtain ⟨T, hT⟩ : ∃ T, T = (Code.seq (firstOf (Yba.f3.body.getD .skip)) (Code.seq (firstOf (secondOf (Yba.f3.body.getD .skip))) (Code.seq (firstOf (secondOf (secondOf (Yba.f3.body.getD .skip)))) (Code.seq (firstOf (secondOf (secondOf (secondOf (Yba.f3.body.getD .skip))))) (Code.seq (firstOf (secondOf (secondOf (secondOf (secondOf (Yba.f3.body.getD .skip)))))) (Code.seq (firstOf (secondOf (secondOf (secondOf (secondOf (secondOf (Yba.f3.body.getD .skip))))))) (Code.seq (firstOf (secondOf (secondOf (secondOf (secondOf (secondOf (secondOf (Yba.f3.body.getD .skip)))))))) (Code.seq (firstOf (secondOf (secondOf (secondOf (secondOf (secondOf (secondOf (secondOf (Yba.f3.body.getD .skip))))))))) RS)))))))) := ⟨_, rfl⟩
  have hE : (Yba.f3.body.getD .skip) = T := by rw [hT, hRS]; rfl
  rw [hE]
  have HRS : Hid _ := hRS
  clear hE hRS
  dsimp only [Yba.f3, Option.getD, secondOf, firstOf] at hT
  subst hT
  dsimp only
  subst hw
  have hdl : decide ((1024 : Int) < (len : Int)) = false := by simp; omega
  have hB0 : Below wx.heap.size wx (wx.alloc (.cells #[.int .u8 l, .int .u8 f, .int .i8 lp, .int .i8 fp, .bool ls, .bool fs, .int .i8 h, .int .u8 s] 25)) := (Below.refl _ wx).alloc (Nat.le_refl _) _
  have HBUILD : Hid _ := build_calls b off len cap ad (wx.alloc (.cells #[.int .u8 l, .int .u8 f, .int .i8 lp, .int .i8 fp, .bool ls, .bool fs, .int .i8 h, .int .u8 s] 25)) hlen (fun k hk => by
    obtain ⟨h1, h2, id, p, st, h', s', n, hE⟩ := hes k hk
    refine ⟨h1, by simp; omega, id, p, st, h', s', n, ?_⟩
    exact ⟨(calloc h2).trans hE.c0, (calloc h2).trans hE.c1, (calloc h2).trans hE.c2, (calloc h2).trans hE.c3, (calloc h2).trans hE.c4, (calloc h2).trans hE.c5, hE.r⟩)
  have hmsg := amsg_calls l f lp fp ls fs h s hr.1.1 hr.1.2 hr.2.1.1 hr.2.1.2 hr.2.2.1.1 hr.2.2.1.2 hr.2.2.2.1.1 hr.2.2.2.1.2 hr.2.2.2.2.1.1 hr.2.2.2.2.1.2 hr.2.2.2.2.2.1 hr.2.2.2.2.2.2
  unfold msgIn at hmsg
  have HMSG : Hid _ := hmsg
  clear hmsg hr hes
  have hbx : ∀ j u, (#[.int .u8 l, .int .u8 f, .int .i8 lp, .int .i8 fp, .bool ls, .bool fs, .int .i8 h, .int .u8 s] : Array Value)[j]? = some u → (wx.alloc (.cells #[.int .u8 l, .int .u8 f, .int .i8 lp, .int .i8 fp, .bool ls, .bool fs, .int .i8 h, .int .u8 s] 25)).cell? ⟨wx.heap.size, j, none⟩ = some u := fun j u hj => by rw [World.cell?_alloc_new]; exact hj
  have hsA : (wx.alloc (.cells #[.int .u8 l, .int .u8 f, .int .i8 lp, .int .i8 fp, .bool ls, .bool fs, .int .i8 h, .int .u8 s] 25)).heap.size = wx.heap.size + 1 := by simp
  go_wp2_with fail
  generalize (wx.alloc (.cells #[.int .u8 l, .int .u8 f, .int .i8 lp, .int .i8 fp, .bool ls, .bool fs, .int .i8 h, .int .u8 s] 25)) = WA at *
  refine Calls.mono (HBUILD.out) ?_
  rintro e wB ⟨L, a, c, rfl, hG⟩
  obtain ⟨n, hn⟩ : ∃ n, L.length = n := ⟨_, rfl⟩
  rw [hn] at hG ⊢
  have h6 : n ≤ 6 := by rw [← hn]; exact hG.good.len
  have hmk := mk48 n h6
  obtain ⟨W2, hcp, hrow, hb2, hlt2⟩ := old_copy hG
  have hbAB := hG.bel
  have hAB := hG.bel.size
  have hB2 := hb2.size
  have hbA2 : Below WA.heap.size WA W2 := hbAB.trans (hb2.mono hAB)
  have kc : ∀ j, W2.cell? ⟨wx.heap.size, j, none⟩ = WA.cell? ⟨wx.heap.size, j, none⟩ := fun j => hbA2.cell (p := ⟨wx.heap.size, j, none⟩) (by show wx.heap.size < WA.heap.size; omega)
  have k0 : W2.cell? ⟨wx.heap.size, 0, none⟩ = some (.int .u8 l) := (kc 0).trans (hbx 0 _ rfl)
  have k1 : W2.cell? ⟨wx.heap.size, 1, none⟩ = some (.int .u8 f) := (kc 1).trans (hbx 1 _ rfl)
  have k2 : W2.cell? ⟨wx.heap.size, 2, none⟩ = some (.int .i8 lp) := (kc 2).trans (hbx 2 _ rfl)
  have k3 : W2.cell? ⟨wx.heap.size, 3, none⟩ = some (.int .i8 fp) := (kc 3).trans (hbx 3 _ rfl)
  have k4 : W2.cell? ⟨wx.heap.size, 4, none⟩ = some (.bool ls) := (kc 4).trans (hbx 4 _ rfl)
  have k5 : W2.cell? ⟨wx.heap.size, 5, none⟩ = some (.bool fs) := (kc 5).trans (hbx 5 _ rfl)
  have k6 : W2.cell? ⟨wx.heap.size, 6, none⟩ = some (.int .i8 h) := (kc 6).trans (hbx 6 _ rfl)
  have k7 : W2.cell? ⟨wx.heap.size, 7, none⟩ = some (.int .u8 s) := (kc 7).trans (hbx 7 _ rfl)
  have hx2 : wx.heap.size < W2.heap.size := by omega
  have HG : Hid _ := hG
  have HROW : Hid _ := hrow
  have HBS : Hid (Below wx.heap.size wx W2) := hB0.trans (hbA2.mono (by omega))
  have HLL : Hid (WA.heap.size = wx.heap.size + 1 ∧ WA.heap.size ≤ wB.heap.size ∧ wB.heap.size < W2.heap.size) := ⟨hsA, hAB, hlt2⟩
  have HN : Hid _ := hn
  have HOWN2 : Hid (W2.ownsRow WA.heap.size 48 6 (.slice a n c) n (flat L)) := own_any hG.own (fun g hg => hb2.block g (World.ownsRow.lt hG.own g hg).2)
  have HGB : Hid (∀ g, (Value.slice a n c).ownBlock = some g → WA.heap.size ≤ g ∧ g < wB.heap.size) := fun g hg => World.ownsRow.lt hG.own g hg
  clear hG hrow hbAB hbA2 hb2 kc hbx hB0 hn HBUILD hsA hAB hlt2 hB2 hdl
  go_wp2_with fail
  refine Calls.mono (HMSG.out _) ?_
  rintro e wm ⟨q, rfl, hwm⟩
  have HWM : Hid _ := hwm
  clear hwm k0 k1 k2 k3 k4 k5 k6 k7 hcp hmk
  go_wp2
  refine wp_build45n 36 a n c rfl rfl ?_
  go_simp
  go_wp2_with fail
  have hwm := HWM.out
  have hll := HLL.out
  have hm2 : Below W2.heap.size W2 wm := by rw [hwm]; exact (bdrew ((Below.refl _ W2).alloc (Nat.le_refl _) _) q).alloc (by simp) _
  have hms : wm.heap.size = W2.heap.size + 2 := by rw [hwm]; simp
  have hMc : ∀ j, wm.cell? ⟨W2.heap.size + 1, j, none⟩ = (msgCells l f lp fp ls fs h s)[j]? := by
    intro j
    rw [hwm]
    exact World.cell?_alloc_at _ _ _ _ (by simp)
  clear hwm
  have hMN : ∀ j, (wm.alloc (.cells (nodeCells Yba.zeroCells45 a n c) 45)).cell? ⟨W2.heap.size + 1, j, none⟩ = (msgCells l f lp fp ls fs h s)[j]? := fun j => (calloc (by omega)).trans (hMc j)
  have hnN : Below wm.heap.size wm (wm.alloc (.cells (nodeCells Yba.zeroCells45 a n c) 45)) := (Below.refl _ _).alloc (Nat.le_refl _) _
  have h2N : Below W2.heap.size W2 (wm.alloc (.cells (nodeCells Yba.zeroCells45 a n c) 45)) := hm2.trans (hnN.mono (by omega))
  have hownN : (wm.alloc (.cells (nodeCells Yba.zeroCells45 a n c) 45)).ownsRow WA.heap.size 48 6 (.slice a n c) n (flat L) := own_any HOWN2.out (fun g hg => h2N.block g (by have := HGB.out g hg; omega))
  have hcellN : (wm.alloc (.cells (nodeCells Yba.zeroCells45 a n c) 45)).cell? ⟨wm.heap.size, 38, none⟩ = some (.slice a n c) := by rw [World.cell?_alloc_new]; exact node38 a n c
  have hfrN : (wm.alloc (.cells (nodeCells Yba.zeroCells45 a n c) 45)).frozen? ⟨wm.heap.size, 38, none⟩ = false := World.frozen?_alloc_at _ _ _ _ rfl
  have hsN : (wm.alloc (.cells (nodeCells Yba.zeroCells45 a n c) 45)).heap.size = wm.heap.size + 1 := by simp
  have hNt : ∀ cur fr, (wm.alloc (.cells (nodeCells Yba.zeroCells45 a n c) 45)).heap[wm.heap.size]? ≠ some (.cells cur 48 fr) := by
    intro cur fr
    rw [heap_alloc_new]
    intro e
    simp at e
  have holdN : RowAt (wm.alloc (.cells (nodeCells Yba.zeroCells45 a n c) 45)) (some ⟨wB.heap.size, 0, none⟩) n L := RowAt.below HROW.out h2N
  have hbN : Below wx.heap.size wx (wm.alloc (.cells (nodeCells Yba.zeroCells45 a n c) 45)) := HBS.out.trans (h2N.mono (by omega))
  generalize hNd : wm.alloc (.cells (nodeCells Yba.zeroCells45 a n c) 45) = wN at *
  refine Calls.mono (note_msg wm.heap.size WA.heap.size n L l f lp fp ls fs h s a c wN wN (W2.heap.size + 1) HN.out hMN (by omega) (by omega) hcellN hfrN hownN (by omega) (fun g hg => by have := HGB.out g hg; omega) (.inr hNt) HG.out.good) ?_
  rintro e w9 ⟨rfl, hno⟩
  obtain ⟨an, cN, hpre⟩ := pre_of (w0 := wx) (O := wB.heap.size) hbN (by omega) (by omega) (by omega) (by omega) (by omega) (by omega) (by omega) (fun g hg => by have := HGB.out g hg; omega) holdN HN.out HG.out.good hMN hno
  have HPRE : Hid _ := hpre
  clear hpre hno hNd hMN hnN h2N hownN hcellN hfrN hsN hNt holdN hbN hMc hm2 hms hll
  go_wp2
  rw [HRS.out]
  exact pl8 wx w9 wm.heap.size (W2.heap.size + 1) _ an n _ cN L _ l f lp fp ls fs h s HPRE.out n _ _ _ _ _ _ _ _ _ _ _ _ _ _ _ _ _ _ _ _ _ _ _ _ _ _ _ _ _ _ _ _ _ _ _ _ _ _ _ _ _ _ _ _ _ _ _ _ _ _ _ _ _ _ _ _ _ _ _ _ _ _ _ _ _ _ _ _ _ _ _ _ _ _ _ _ _ _ _ _ _ _ _ _ _ _ _ _ _ _ _ _ _ _ _ _ _ _ _ _ _ _ _ _ _ _ _ _ _ _ _ _ _ _ _ _ _ _ _ _ _ _ _ _ _ _ _ _ _ _ _ _ _ _ _ _ _ _ _ _ _ _ _ _ _ _ _ _ _ _ _ _ _ _ _ _ _ _ _ _ _ _ _ _ _ _ _ _ _ _ _ _ _ _ _ _ _ _ _ _ _ _ _ _ _ _ _ _ _ _ _ _ _ _ _ _ _ _ _ _ _ _ _ _ _ _ _ _ _ _ _ _ _ _ _ _ _ _ _ _ _ _ _ _ _ _ _ _ _ _ _ _ _ _ _ _ _ _ _ _ _ _ _ _ _ _ _ _ _ _ _ _ _ _ _ _ _ _ _ _ _ _ _ _ _ _ _ _ _ _ _ _ _ _ _ _ _ _ _ _


set_option maxRecDepth 100000 in
set_option maxHeartbeats 4000000 in
theorem place_long (len cap : Nat) (ad : Option Addr) (l f lp fp : Int) (ls fs : Bool) (h s : Int) (w : World) (hlen : 1024 < len) :
    Calls Yba.prog 3 #[.slice ad len cap, msgIn l f lp fp ls fs h s] w fun e w' => e = .returned (.bool true) ∧ Below w.heap.size w w' := by
  have hdl : (1024 : Int) < (len : Int) := by omega
  unfold msgIn
  go_enter Yba.func3, Yba.ntmps3
  go_wp2
  go_ret
  exact ⟨rfl, (Below.refl _ w).alloc (Nat.le_refl _) _⟩

set_option maxRecDepth 100000 in
set_option maxHeartbeats 4000000 in
theorem place_walk (b off len cap : Nat) (ad : Option Addr) (l f lp fp : Int) (ls fs : Bool) (h s : Int) (w0 : World) (hr : (0 ≤ l ∧ l ≤ 255) ∧ (0 ≤ f ∧ f ≤ 255) ∧ (-128 ≤ lp ∧ lp ≤ 127) ∧ (-128 ≤ fp ∧ fp ≤ 127) ∧ (-128 ≤ h ∧ h ≤ 127) ∧ (0 ≤ s ∧ s ≤ 255)) (hes : ∀ k, k < len → ad = some ⟨b, off, none⟩ ∧ b < w0.heap.size ∧ ∃ id p st h s n, EntAt w0 b (off + k * 6) id p st h s n) :
    Calls Yba.prog 3 #[.slice ad len cap, msgIn l f lp fp ls fs h s] w0 fun e w' => e = .returned (.bool true) ∧ Below w0.heap.size w0 w' := by
  by_cases hlen : 1024 < len
  · exact place_long len cap ad l f lp fp ls fs h s w0 hlen
  · unfold msgIn
    go_enter Yba.func3, Yba.ntmps3
    exact pl0 w0 w0 rfl b off len cap ad l f lp fp ls fs h s (by omega) hr hes _ _ _ _ _ _ _ _ _ _ _ _ _ _ _ _ _ _ _ _ _ _ _ _ _ _ _ _ _ _ _ _ _ _ _ _ _ _ _ _ _ _ _ _ _ _ _ _ _ _ _ _ _ _ _ _ _ _ _ _ _ _ _ _ _ _ _ _ _ _ _ _ _ _ _ _ _ _ _ _ _ _ _ _ _ _ _ _ _ _ _ _ _ _ _ _ _ _ _ _ _ _ _ _ _ _ _ _ _ _ _ _ _ _ _ _ _ _ _ _ _ _ _ _ _ _ _ _ _ _ _ _ _ _ _ _ _ _ _ _ _ _ _ _ _ _ _ _ _ _ _ _ _ _ _ _ _ _ _ _ _ _ _ _ _ _ _ _ _ _ _ _ _ _ _ _ _ _ _ _ _ _ _ _ _ _ _ _ _ _ _ _ _ _ _ _ _ _ _ _ _ _ _ _ _ _ _ _ _ _ _ _ _ _ _ _ _ _ _ _ _ _ _ _ _ _ _ _ _ _ _ _ _ _ _ _ _ _ _ _ _ _ _ _ _ _ _ _ _ _ _ _ _ _ _ _ _ _ _ _ _ _ _ _ _ _ _ _ _ _ _ _ _ _ _ _ _ _ _ _ _
end Go.Proofs.Ybulkawyi
