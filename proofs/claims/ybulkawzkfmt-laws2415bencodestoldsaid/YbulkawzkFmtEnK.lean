import Derived.Test.YbulkawzkFmtEnJ
namespace Go.Proofs.YbulkawzkFmt
open Go.RowKit Go.Extern.Stop Go.Stop Go.Extern
set_option linter.unusedVariables false

theorem copy_nil25 (g : Nat) (w : World) : (Builtin.copy_ #[25, 25] 3 #[.slice (some ⟨g, 0, none⟩) 0 0, .slice none 0 0]).run Ybaf.prog w = .ok (goInt 0) w := by kernel_rfl
theorem own_base {w : World} {base : Nat} {e : TypeId} {size : Nat} {v : Value} {n : Nat} {xs : List Value} (h : w.ownsRow base e size v n xs) : w.ownsRow 0 e size v n xs := by
  refine ⟨h.1, ?_⟩
  rcases h.2 with h2 | ⟨g, cap, cur, e1, e2, e3, e4, e5, e6, e7⟩
  · exact .inl h2
  · exact .inr ⟨g, cap, cur, e1, Nat.zero_le _, e3, e4, e5, e6, e7⟩
theorem bytes_copied {B : Nat} {w : World} {a : Option Addr} {n c : Nat} {xs : List Value} (h : SrcK B none w (.slice a n c) n xs) (hB : B ≤ w.heap.size) (hn : n ≤ 1024) :
    ∃ W2, (Builtin.copy_ #[25, 25] 3 #[.slice (some ⟨w.heap.size, 0, none⟩) n n, .slice a n c]).run Ybaf.prog (w.alloc (.cells (madeCells #[.int .u8 0] n) 5)) = .ok (goInt n) W2 ∧
      W2.ownsRow w.heap.size 5 1 (.slice (some ⟨w.heap.size, 0, none⟩) n n) n xs ∧ Below w.heap.size w W2 := by
  obtain ⟨i0, hi, hz0, hz1, hz2⟩ := parts info5
  rcases h with ⟨e, rfl, rfl⟩ | ⟨ad, c', e, h2, h3, h4, h5⟩
  · cases e
    refine ⟨_, copy_nil25 _ _, ⟨rfl, .inr ⟨w.heap.size, 0, _, rfl, Nat.le_refl _, heap_alloc_new w _, Nat.le_refl _, by unfold maxLen; omega, size_madeCells _ _, rfl⟩⟩, (Below.refl _ w).alloc (Nat.le_refl _) _⟩
  · cases e
    exact filled 25 5 i0 #[.int .u8 0] n ad c xs Ybaf.underlying25 hi hz1 h2 (by unfold maxLen; omega) h4 (fun h0 => by have := (h3 h0).1; omega) h5

set_option maxRecDepth 100000 in
set_option maxHeartbeats 16000000 in
theorem pr2 (w0 wx : World) (X B0 : Nat) (rep inst view seed : Int) (hs : Bool) (blk : List Value) (sa am pa : Option Addr) (ns cs nm cm np cp : Nat) (zs zm : List Int) (pre : List Value) (hi0 : In0 wx X B0 rep inst view seed hs blk sa am pa ns cs nm cm np cp zs zm pre) (hBw : B0 ≤ wx.heap.size) (hbel : Below w0.heap.size w0 wx) (hB0 : w0.heap.size ≤ B0) (F : Interp) (hF : F.answers wx.tape) (hmi : IsRowI wx am nm cm zm) (u0 u2 u3 u4 u5 u6 u7 u8 u9 u10 u11 u12 u13 u14 u15 u16 u17 u18 u19 u20 u21 u22 u23 u24 u25 u26 u27 u28 u29 u30 u31 u32 u33 u34 u35 u36 u37 u38 u39 u40 u41 u42 u43 u44 u45 u46 u47 u48 u49 u50 u51 u52 u53 u54 u55 u56 u57 u58 u59 u60 u61 u62 u63 u64 u65 u66 u67 u68 u69 u70 u71 u72 u73 u74 u75 u76 u77 u78 u79 u80 u81 u82 u83 u84 u85 u86 u87 u88 u89 u90 u91 u92 u93 u94 u95 u96 u97 u98 u99 u100 u101 u102 u103 u104 u105 u106 u107 u108 u109 u110 u111 u112 u113 u114 u115 u116 u117 u118 u119 u120 u121 u122 u123 u124 u125 u126 u127 u128 u129 u130 u131 u132 u133 u134 u135 u136 u137 u138 u139 u140 u141 u142 u143 u144 u145 u146 u147 u148 u149 u150 u151 u152 u153 u154 u155 u156 u157 u158 u159 u160 u161 u162 u163 u164 u165 u166 u167 u168 u169 u170 u171 u172 u173 u174 u175 u176 u177 u178 u179 u180 u181 u182 u183 u184 u185 u186 u187 u188 u189 u190 u191 u192 u193 u194 : Value) :
    Code.wp Ybaf.prog (secondOf (secondOf (Ybaf.f3.body.getD .skip))) (bodyPost Ybaf.prog Ybaf.f3 fun e w' => e = .returned (.bool true) ∧ Below w0.heap.size w0 w') { tmps := #[u0, .pointer (some ⟨X, 0, none⟩), u2, u3, u4, u5, u6, u7, u8, u9, u10, u11, u12, u13, u14, u15, u16, u17, u18, u19, u20, u21, u22, u23, u24, u25, u26, u27, u28, u29, u30, u31, u32, u33, u34, u35, u36, u37, u38, u39, u40, u41, u42, u43, u44, u45, u46, u47, u48, u49, u50, u51, u52, u53, u54, u55, u56, u57, u58, u59, u60, u61, u62, u63, u64, u65, u66, u67, u68, u69, u70, u71, u72, u73, u74, u75, u76, u77, u78, u79, u80, u81, u82, u83, u84, u85, u86, u87, u88, u89, u90, u91, u92, u93, u94, u95, u96, u97, u98, u99, u100, u101, u102, u103, u104, u105, u106, u107, u108, u109, u110, u111, u112, u113, u114, u115, u116, u117, u118, u119, u120, u121, u122, u123, u124, u125, u126, u127, u128, u129, u130, u131, u132, u133, u134, u135, u136, u137, u138, u139, u140, u141, u142, u143, u144, u145, u146, u147, u148, u149, u150, u151, u152, u153, u154, u155, u156, u157, u158, u159, u160, u161, u162, u163, u164, u165, u166, u167, u168, u169, u170, u171, u172, u173, u174, u175, u176, u177, u178, u179, u180, u181, u182, u183, u184, u185, u186, u187, u188, u189, u190, u191, u192, u193, u194], defers := [] } wx := by
  obtain ⟨RS, hRS⟩ : ∃ RS, RS = (secondOf (secondOf (secondOf (secondOf (Ybaf.f3.body.getD .skip))))) := ⟨_, rfl⟩
  obtain ⟨T, hT⟩ : ∃ T, T = (Code.seq (firstOf (secondOf (secondOf (Ybaf.f3.body.getD .skip)))) (Code.seq (firstOf (secondOf (secondOf (secondOf (Ybaf.f3.body.getD .skip))))) RS)) := ⟨_, rfl⟩
  have hE : (secondOf (secondOf (Ybaf.f3.body.getD .skip))) = T := by rw [hT, hRS]; rfl
  rw [hE]
  have HRS : Hid _ := hRS
  clear hE hRS
  dsimp only [Ybaf.f3, Option.getD, secondOf, firstOf] at hT
  subst hT
  dsimp only
  have hnp := hi0.le.2.2.1
  have hmk := mk5 np hnp
  obtain ⟨W2, hcp, ho2, hb2⟩ := bytes_copied hi0.pfx hBw hnp
  have x8 := hi0.x8
  have hX : X < wx.heap.size := by have := hi0.lt; omega
  have x8a : (wx.alloc (.cells (madeCells #[.int .u8 0] np) 5)).cell? ⟨X, 39, none⟩ = some (.slice pa np cp) := (World.cell?_alloc_past _ _ _ hX).trans x8
  have HGO : Hid (∀ (u0 u2 u4 u5 u6 u7 u8 u9 u10 u11 u12 u13 u14 u15 u16 u17 u18 u19 u20 u21 u22 u23 u24 u25 u26 u27 u28 u29 u30 u31 u32 u33 u34 u35 u36 u37 u38 u39 u40 u41 u42 u43 u44 u45 u46 u47 u48 u49 u50 u51 u52 u53 u54 u55 u56 u57 u58 u59 u60 u61 u62 u63 u64 u65 u66 u67 u68 u69 u70 u71 u72 u73 u74 u75 u76 u77 u78 u79 u80 u81 u82 u83 u84 u85 u86 u87 u88 u89 u90 u91 u92 u93 u94 u95 u96 u97 u98 u99 u100 u101 u102 u103 u104 u105 u106 u107 u108 u109 u110 u111 u112 u113 u114 u115 u116 u117 u118 u119 u120 u121 u122 u123 u124 u125 u126 u127 u128 u129 u130 u131 u132 u133 u134 u135 u136 u137 u138 u139 u140 u141 u142 u143 u144 u145 u146 u147 u148 u149 u150 u151 u152 u153 u154 u155 u156 u157 u158 u159 u160 u161 u162 u163 u164 u165 u166 u167 u168 u169 u170 u171 u172 u173 u174 u175 u176 u177 u178 u179 u180 u181 u182 u183 u184 u185 u186 u187 u188 u189 u190 u191 u192 u193 u194 : Value), Code.wp Ybaf.prog RS (bodyPost Ybaf.prog Ybaf.f3 fun e w' => e = .returned (.bool true) ∧ Below w0.heap.size w0 w') { tmps := #[u0, .pointer (some ⟨X, 0, none⟩), u2, .slice (some ⟨wx.heap.size, 0, none⟩) np np, u4, u5, u6, u7, u8, u9, u10, u11, u12, u13, u14, u15, u16, u17, u18, u19, u20, u21, u22, u23, u24, u25, u26, u27, u28, u29, u30, u31, u32, u33, u34, u35, u36, u37, u38, u39, u40, u41, u42, u43, u44, u45, u46, u47, u48, u49, u50, u51, u52, u53, u54, u55, u56, u57, u58, u59, u60, u61, u62, u63, u64, u65, u66, u67, u68, u69, u70, u71, u72, u73, u74, u75, u76, u77, u78, u79, u80, u81, u82, u83, u84, u85, u86, u87, u88, u89, u90, u91, u92, u93, u94, u95, u96, u97, u98, u99, u100, u101, u102, u103, u104, u105, u106, u107, u108, u109, u110, u111, u112, u113, u114, u115, u116, u117, u118, u119, u120, u121, u122, u123, u124, u125, u126, u127, u128, u129, u130, u131, u132, u133, u134, u135, u136, u137, u138, u139, u140, u141, u142, u143, u144, u145, u146, u147, u148, u149, u150, u151, u152, u153, u154, u155, u156, u157, u158, u159, u160, u161, u162, u163, u164, u165, u166, u167, u168, u169, u170, u171, u172, u173, u174, u175, u176, u177, u178, u179, u180, u181, u182, u183, u184, u185, u186, u187, u188, u189, u190, u191, u192, u193, u194], defers := [] } W2) := by
    intro u0
    intros
    rw [HRS.out]
    have hlt := (World.ownsRow.lt ho2 wx.heap.size rfl).2
    exact pr4 w0 W2 X B0 rep inst view seed hs blk sa am pa ns cs nm cm np cp zs zm pre wx.heap.size ⟨hi0.kept (Kept.of_below hb2 hBw), hBw, hlt, own_base ho2⟩ (hbel.trans (hb2.mono hbel.size)) hB0 F (by rw [hb2.tape]; exact hF) (IsRowI.below hmi hb2) _ _ _ _ _ _ _ _ _ _ _ _ _ _ _ _ _ _ _ _ _ _ _ _ _ _ _ _ _ _ _ _ _ _ _ _ _ _ _ _ _ _ _ _ _ _ _ _ _ _ _ _ _ _ _ _ _ _ _ _ _ _ _ _ _ _ _ _ _ _ _ _ _ _ _ _ _ _ _ _ _ _ _ _ _ _ _ _ _ _ _ _ _ _ _ _ _ _ _ _ _ _ _ _ _ _ _ _ _ _ _ _ _ _ _ _ _ _ _ _ _ _ _ _ _ _ _ _ _ _ _ _ _ _ _ _ _ _ _ _ _ _ _ _ _ _ _ _ _ _ _ _ _ _ _ _ _ _ _ _ _ _ _ _ _ _ _ _ _ _ _ _ _ _ _ _ _ _ _ _ _ _ _ _ _ _ _ _ _ _ _ _ _
  clear hi0 hF hbel hb2 ho2 hmi
  go_wp2
  exact HGO.out _ _ _ _ _ _ _ _ _ _ _ _ _ _ _ _ _ _ _ _ _ _ _ _ _ _ _ _ _ _ _ _ _ _ _ _ _ _ _ _ _ _ _ _ _ _ _ _ _ _ _ _ _ _ _ _ _ _ _ _ _ _ _ _ _ _ _ _ _ _ _ _ _ _ _ _ _ _ _ _ _ _ _ _ _ _ _ _ _ _ _ _ _ _ _ _ _ _ _ _ _ _ _ _ _ _ _ _ _ _ _ _ _ _ _ _ _ _ _ _ _ _ _ _ _ _ _ _ _ _ _ _ _ _ _ _ _ _ _ _ _ _ _ _ _ _ _ _ _ _ _ _ _ _ _ _ _ _ _ _ _ _ _ _ _ _ _ _ _ _ _ _ _ _ _ _ _ _ _ _ _ _ _ _ _ _ _ _ _ _ _ _ _

set_option maxRecDepth 100000 in
set_option maxHeartbeats 16000000 in
theorem pr0 (w0 wx : World) (hw : wx = w0) (cs1 : Array Value) (rep inst view seed : Int) (hs : Bool) (blk : List Value) (sa am pa : Option Addr) (ns cs nm cm np cp : Nat) (zs zm : List Int) (pre : List Value) (k0 : cs1[0]? = some (.int .i64 rep)) (k1 : cs1[1]? = some (.int .i64 inst)) (k2 : cs1[2]? = some (.int .u64 view)) (kb : ∀ j u, blk[j]? = some u → cs1[3 + j]? = some u) (k4 : cs1[35]? = some (.slice sa ns cs)) (k5 : cs1[36]? = some (.int .u8 seed)) (k6 : cs1[37]? = some (.slice am nm cm)) (k7 : cs1[38]? = some (.bool hs)) (k8 : cs1[39]? = some (.slice pa np cp)) (F : Interp) (hF : F.answers wx.tape) (hpf : SrcK w0.heap.size none w0 (.slice pa np cp) np pre) (hsg : IntsK w0.heap.size w0 sa ns zs) (hmi : IsRowI w0 am nm cm zm) (hms : IntsK w0.heap.size w0 am nm zm) (hbl : blk.length = 32) (hrg : 0 ≤ view ∧ view < 18446744073709551616) (hbB : AllB blk ∧ AllB pre) (hns : ns ≤ 256) (hnm : nm ≤ 1024) (hnp : np ≤ 1024) (u1 u2 u3 u4 u5 u6 u7 u8 u9 u10 u11 u12 u13 u14 u15 u16 u17 u18 u19 u20 u21 u22 u23 u24 u25 u26 u27 u28 u29 u30 u31 u32 u33 u34 u35 u36 u37 u38 u39 u40 u41 u42 u43 u44 u45 u46 u47 u48 u49 u50 u51 u52 u53 u54 u55 u56 u57 u58 u59 u60 u61 u62 u63 u64 u65 u66 u67 u68 u69 u70 u71 u72 u73 u74 u75 u76 u77 u78 u79 u80 u81 u82 u83 u84 u85 u86 u87 u88 u89 u90 u91 u92 u93 u94 u95 u96 u97 u98 u99 u100 u101 u102 u103 u104 u105 u106 u107 u108 u109 u110 u111 u112 u113 u114 u115 u116 u117 u118 u119 u120 u121 u122 u123 u124 u125 u126 u127 u128 u129 u130 u131 u132 u133 u134 u135 u136 u137 u138 u139 u140 u141 u142 u143 u144 u145 u146 u147 u148 u149 u150 u151 u152 u153 u154 u155 u156 u157 u158 u159 u160 u161 u162 u163 u164 u165 u166 u167 u168 u169 u170 u171 u172 u173 u174 u175 u176 u177 u178 u179 u180 u181 u182 u183 u184 u185 u186 u187 u188 u189 u190 u191 u192 u193 u194 : Value) :
    Code.wp Ybaf.prog (Ybaf.f3.body.getD .skip) (bodyPost Ybaf.prog Ybaf.f3 fun e w' => e = .returned (.bool true) ∧ Below w0.heap.size w0 w') { tmps := #[.agg cs1, u1, u2, u3, u4, u5, u6, u7, u8, u9, u10, u11, u12, u13, u14, u15, u16, u17, u18, u19, u20, u21, u22, u23, u24, u25, u26, u27, u28, u29, u30, u31, u32, u33, u34, u35, u36, u37, u38, u39, u40, u41, u42, u43, u44, u45, u46, u47, u48, u49, u50, u51, u52, u53, u54, u55, u56, u57, u58, u59, u60, u61, u62, u63, u64, u65, u66, u67, u68, u69, u70, u71, u72, u73, u74, u75, u76, u77, u78, u79, u80, u81, u82, u83, u84, u85, u86, u87, u88, u89, u90, u91, u92, u93, u94, u95, u96, u97, u98, u99, u100, u101, u102, u103, u104, u105, u106, u107, u108, u109, u110, u111, u112, u113, u114, u115, u116, u117, u118, u119, u120, u121, u122, u123, u124, u125, u126, u127, u128, u129, u130, u131, u132, u133, u134, u135, u136, u137, u138, u139, u140, u141, u142, u143, u144, u145, u146, u147, u148, u149, u150, u151, u152, u153, u154, u155, u156, u157, u158, u159, u160, u161, u162, u163, u164, u165, u166, u167, u168, u169, u170, u171, u172, u173, u174, u175, u176, u177, u178, u179, u180, u181, u182, u183, u184, u185, u186, u187, u188, u189, u190, u191, u192, u193, u194], defers := [] } wx := by
  obtain ⟨RS, hRS⟩ : ∃ RS, RS = (secondOf (secondOf (Ybaf.f3.body.getD .skip))) := ⟨_, rfl⟩
  obtain ⟨T, hT⟩ : ∃ T, T = (Code.seq (firstOf (Ybaf.f3.body.getD .skip)) (Code.seq (firstOf (secondOf (Ybaf.f3.body.getD .skip))) RS)) := ⟨_, rfl⟩
  have hE : (Ybaf.f3.body.getD .skip) = T := by rw [hT, hRS]; rfl
  rw [hE]
  have HRS : Hid _ := hRS
  clear hE hRS
  dsimp only [Ybaf.f3, Option.getD, secondOf, firstOf] at hT
  subst hT
  dsimp only
  subst hw
  have hb1 : Below wx.heap.size wx (wx.alloc (.cells cs1 27)) := (Below.refl _ _).alloc (Nat.le_refl _) _
  have hsz : (wx.alloc (.cells cs1 27)).heap.size = wx.heap.size + 1 := by simp
  have hc : ∀ j u, cs1[j]? = some u → (wx.alloc (.cells cs1 27)).cell? ⟨wx.heap.size, j, none⟩ = some u := fun j u hj => (World.cell?_alloc_new _ _ _ _).trans hj
  have hkx : Kept wx.heap.size none wx (wx.alloc (.cells cs1 27)) := Kept.of_below hb1 (Nat.le_refl _)
  have y4 := hc 35 _ k4
  have y6 := hc 37 _ k6
  have y8 := hc 39 _ k8
  have hd1 : decide ((1024 : Int) < (np : Int)) = false := by simp; omega
  have hd2 : decide ((256 : Int) < (ns : Int)) = false := by simp; omega
  have hd3 : decide ((1024 : Int) < (nm : Int)) = false := by simp; omega
  have HGO : Hid (∀ (u0 u2 u3 u4 u5 u6 u7 u8 u9 u10 u11 u12 u13 u14 u15 u16 u17 u18 u19 u20 u21 u22 u23 u24 u25 u26 u27 u28 u29 u30 u31 u32 u33 u34 u35 u36 u37 u38 u39 u40 u41 u42 u43 u44 u45 u46 u47 u48 u49 u50 u51 u52 u53 u54 u55 u56 u57 u58 u59 u60 u61 u62 u63 u64 u65 u66 u67 u68 u69 u70 u71 u72 u73 u74 u75 u76 u77 u78 u79 u80 u81 u82 u83 u84 u85 u86 u87 u88 u89 u90 u91 u92 u93 u94 u95 u96 u97 u98 u99 u100 u101 u102 u103 u104 u105 u106 u107 u108 u109 u110 u111 u112 u113 u114 u115 u116 u117 u118 u119 u120 u121 u122 u123 u124 u125 u126 u127 u128 u129 u130 u131 u132 u133 u134 u135 u136 u137 u138 u139 u140 u141 u142 u143 u144 u145 u146 u147 u148 u149 u150 u151 u152 u153 u154 u155 u156 u157 u158 u159 u160 u161 u162 u163 u164 u165 u166 u167 u168 u169 u170 u171 u172 u173 u174 u175 u176 u177 u178 u179 u180 u181 u182 u183 u184 u185 u186 u187 u188 u189 u190 u191 u192 u193 u194 : Value), Code.wp Ybaf.prog RS (bodyPost Ybaf.prog Ybaf.f3 fun e w' => e = .returned (.bool true) ∧ Below wx.heap.size wx w') { tmps := #[u0, .pointer (some ⟨wx.heap.size, 0, none⟩), u2, u3, u4, u5, u6, u7, u8, u9, u10, u11, u12, u13, u14, u15, u16, u17, u18, u19, u20, u21, u22, u23, u24, u25, u26, u27, u28, u29, u30, u31, u32, u33, u34, u35, u36, u37, u38, u39, u40, u41, u42, u43, u44, u45, u46, u47, u48, u49, u50, u51, u52, u53, u54, u55, u56, u57, u58, u59, u60, u61, u62, u63, u64, u65, u66, u67, u68, u69, u70, u71, u72, u73, u74, u75, u76, u77, u78, u79, u80, u81, u82, u83, u84, u85, u86, u87, u88, u89, u90, u91, u92, u93, u94, u95, u96, u97, u98, u99, u100, u101, u102, u103, u104, u105, u106, u107, u108, u109, u110, u111, u112, u113, u114, u115, u116, u117, u118, u119, u120, u121, u122, u123, u124, u125, u126, u127, u128, u129, u130, u131, u132, u133, u134, u135, u136, u137, u138, u139, u140, u141, u142, u143, u144, u145, u146, u147, u148, u149, u150, u151, u152, u153, u154, u155, u156, u157, u158, u159, u160, u161, u162, u163, u164, u165, u166, u167, u168, u169, u170, u171, u172, u173, u174, u175, u176, u177, u178, u179, u180, u181, u182, u183, u184, u185, u186, u187, u188, u189, u190, u191, u192, u193, u194], defers := [] } (wx.alloc (.cells cs1 27))) := by
    intro u0
    intros
    rw [HRS.out]
    have hin : In0 (wx.alloc (.cells cs1 27)) wx.heap.size (wx.heap.size + 1) rep inst view seed hs blk sa am pa ns cs nm cm np cp zs zm pre :=
      ⟨by omega, hc 0 _ k0, hc 1 _ k1, hc 2 _ k2, fun j u hj => hc _ _ (kb j u hj), y4, hc 36 _ k5, y6, hc 38 _ k7, y8, hpf.to hkx (by omega) (.inl rfl), (hsg.kept hkx).to (by omega), (hms.kept hkx).to (by omega), ⟨hns, hnm, hnp, hbl⟩, hrg, hbB⟩
    exact pr2 wx (wx.alloc (.cells cs1 27)) wx.heap.size (wx.heap.size + 1) rep inst view seed hs blk sa am pa ns cs nm cm np cp zs zm pre hin (by omega) hb1 (by omega) F hF (IsRowI.below hmi hb1) _ _ _ _ _ _ _ _ _ _ _ _ _ _ _ _ _ _ _ _ _ _ _ _ _ _ _ _ _ _ _ _ _ _ _ _ _ _ _ _ _ _ _ _ _ _ _ _ _ _ _ _ _ _ _ _ _ _ _ _ _ _ _ _ _ _ _ _ _ _ _ _ _ _ _ _ _ _ _ _ _ _ _ _ _ _ _ _ _ _ _ _ _ _ _ _ _ _ _ _ _ _ _ _ _ _ _ _ _ _ _ _ _ _ _ _ _ _ _ _ _ _ _ _ _ _ _ _ _ _ _ _ _ _ _ _ _ _ _ _ _ _ _ _ _ _ _ _ _ _ _ _ _ _ _ _ _ _ _ _ _ _ _ _ _ _ _ _ _ _ _ _ _ _ _ _ _ _ _ _ _ _ _ _ _ _ _ _ _ _ _ _ _ _
  clear hF hpf hsg hmi hms hbB hb1 hkx hc k0 k1 k2 kb k4 k5 k6 k7 k8
  go_wp2
  exact HGO.out _ _ _ _ _ _ _ _ _ _ _ _ _ _ _ _ _ _ _ _ _ _ _ _ _ _ _ _ _ _ _ _ _ _ _ _ _ _ _ _ _ _ _ _ _ _ _ _ _ _ _ _ _ _ _ _ _ _ _ _ _ _ _ _ _ _ _ _ _ _ _ _ _ _ _ _ _ _ _ _ _ _ _ _ _ _ _ _ _ _ _ _ _ _ _ _ _ _ _ _ _ _ _ _ _ _ _ _ _ _ _ _ _ _ _ _ _ _ _ _ _ _ _ _ _ _ _ _ _ _ _ _ _ _ _ _ _ _ _ _ _ _ _ _ _ _ _ _ _ _ _ _ _ _ _ _ _ _ _ _ _ _ _ _ _ _ _ _ _ _ _ _ _ _ _ _ _ _ _ _ _ _ _ _ _ _ _ _ _ _ _ _ _ _


set_option maxRecDepth 100000 in
set_option maxHeartbeats 4000000 in
theorem enc_long (w0 : World) (cs1 : Array Value) (sa am pa : Option Addr) (ns cs nm cm np cp : Nat) (k4 : cs1[35]? = some (.slice sa ns cs)) (k6 : cs1[37]? = some (.slice am nm cm)) (k8 : cs1[39]? = some (.slice pa np cp)) (hl : 1024 < np ∨ 256 < ns ∨ 1024 < nm) :
    Calls Ybaf.prog 3 #[.agg cs1] w0 fun e w' => e = .returned (.bool true) ∧ Below w0.heap.size w0 w' := by
  have y4 : (w0.alloc (.cells cs1 27)).cell? ⟨w0.heap.size, 35, none⟩ = some (.slice sa ns cs) := (World.cell?_alloc_new _ _ _ _).trans k4
  have y6 : (w0.alloc (.cells cs1 27)).cell? ⟨w0.heap.size, 37, none⟩ = some (.slice am nm cm) := (World.cell?_alloc_new _ _ _ _).trans k6
  have y8 : (w0.alloc (.cells cs1 27)).cell? ⟨w0.heap.size, 39, none⟩ = some (.slice pa np cp) := (World.cell?_alloc_new _ _ _ _).trans k8
  have HB : Hid (Below w0.heap.size w0 (w0.alloc (.cells cs1 27))) := (Below.refl _ _).alloc (Nat.le_refl _) _
  clear k4 k6 k8
  by_cases h1 : 1024 < np
  · have h1' : (1024 : Int) < (np : Int) := by omega
    go_enter Ybaf.func3, Ybaf.ntmps3
    go_wp2
    go_ret
    exact ⟨rfl, HB.out⟩
  · have hd1 : decide ((1024 : Int) < (np : Int)) = false := by simp; omega
    by_cases h2 : 256 < ns
    · have h2' : (256 : Int) < (ns : Int) := by omega
      go_enter Ybaf.func3, Ybaf.ntmps3
      go_wp2
      go_ret
      exact ⟨rfl, HB.out⟩
    · have hd2 : decide ((256 : Int) < (ns : Int)) = false := by simp; omega
      have h3' : (1024 : Int) < (nm : Int) := by omega
      go_enter Ybaf.func3, Ybaf.ntmps3
      go_wp2
      go_ret
      exact ⟨rfl, HB.out⟩

set_option maxRecDepth 100000 in
theorem encodes_walk (F : Interp) (w0 : World) (hF : F.answers w0.tape) (cs1 : Array Value) (rep inst view seed : Int) (hs : Bool) (blk : List Value) (sa am pa : Option Addr) (ns cs nm cm np cp : Nat) (zs zm : List Int) (pre : List Value) (k0 : cs1[0]? = some (.int .i64 rep)) (k1 : cs1[1]? = some (.int .i64 inst)) (k2 : cs1[2]? = some (.int .u64 view)) (kb : ∀ j u, blk[j]? = some u → cs1[3 + j]? = some u) (k4 : cs1[35]? = some (.slice sa ns cs)) (k5 : cs1[36]? = some (.int .u8 seed)) (k6 : cs1[37]? = some (.slice am nm cm)) (k7 : cs1[38]? = some (.bool hs)) (k8 : cs1[39]? = some (.slice pa np cp)) (hpf : SrcK w0.heap.size none w0 (.slice pa np cp) np pre) (hsg : IntsK w0.heap.size w0 sa ns zs) (hmi : IsRowI w0 am nm cm zm) (hms : IntsK w0.heap.size w0 am nm zm) (hbl : blk.length = 32) (hrg : 0 ≤ view ∧ view < 18446744073709551616) (hbB : AllB blk ∧ AllB pre) :
    Calls Ybaf.prog 3 #[.agg cs1] w0 fun e w' => e = .returned (.bool true) ∧ Below w0.heap.size w0 w' := by
  by_cases hl : 1024 < np ∨ 256 < ns ∨ 1024 < nm
  · exact enc_long w0 cs1 sa am pa ns cs nm cm np cp k4 k6 k8 hl
  · go_enter Ybaf.func3, Ybaf.ntmps3
    exact pr0 w0 w0 rfl cs1 rep inst view seed hs blk sa am pa ns cs nm cm np cp zs zm pre k0 k1 k2 kb k4 k5 k6 k7 k8 F hF hpf hsg hmi hms hbl hrg hbB (by omega) (by omega) (by omega) _ _ _ _ _ _ _ _ _ _ _ _ _ _ _ _ _ _ _ _ _ _ _ _ _ _ _ _ _ _ _ _ _ _ _ _ _ _ _ _ _ _ _ _ _ _ _ _ _ _ _ _ _ _ _ _ _ _ _ _ _ _ _ _ _ _ _ _ _ _ _ _ _ _ _ _ _ _ _ _ _ _ _ _ _ _ _ _ _ _ _ _ _ _ _ _ _ _ _ _ _ _ _ _ _ _ _ _ _ _ _ _ _ _ _ _ _ _ _ _ _ _ _ _ _ _ _ _ _ _ _ _ _ _ _ _ _ _ _ _ _ _ _ _ _ _ _ _ _ _ _ _ _ _ _ _ _ _ _ _ _ _ _ _ _ _ _ _ _ _ _ _ _ _ _ _ _ _ _ _ _ _ _ _ _ _ _ _ _ _ _ _ _ _
end Go.Proofs.YbulkawzkFmt
