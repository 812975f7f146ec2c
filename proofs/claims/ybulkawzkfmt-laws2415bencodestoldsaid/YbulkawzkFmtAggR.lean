import Derived.Test.YbulkawzkFmtAggA
namespace Go.Proofs.YbulkawzkFmt
open Go.RowKit Go.Extern.Stop Go.Stop Go.Extern
set_option linter.unusedVariables false

set_option maxRecDepth 100000 in
set_option maxHeartbeats 4000000 in
theorem ag_r17 (wx : World) (B : Nat) (r : Option Nat) (M : Nat) (ab : Option Addr) (nb cb : Nat) (xs : List Value) (a3 : Option Addr) (n3 c3 : Nat) (hB : B ≤ wx.heap.size) (hnb : nb ≤ 80000) (hbuf : Buf B r wx (.slice ab nb cb) nb xs) (hM : M < B) (hMr : some M ≠ r) (hn3 : n3 ≤ 64) (c0 : wx.cell? ⟨M, 37, none⟩ = some (.slice a3 n3 c3)) (u2 u3 u4 u5 u6 u7 u8 u9 u10 u11 u12 u13 u14 u15 u16 u17 u18 u19 u20 u21 u22 u23 u24 u25 u26 u27 u28 u29 u30 u31 u32 u33 u34 u35 u36 u37 u38 u39 u40 u41 u42 u43 u44 u45 u46 u47 u48 u49 u50 u51 u52 u53 u54 u55 u56 u57 u58 u59 u60 u61 u62 u63 u64 u65 u66 u67 u68 u69 u70 u71 u72 u73 u74 u75 u76 u77 u78 u79 u80 u81 u82 u83 u84 u85 u86 u87 u88 u89 u90 u91 u92 u93 u94 u95 u96 u97 u98 u99 u100 u101 u102 u103 u104 u105 u106 u107 u108 : Value) :
    Code.wp Ybaf.prog (firstOf (secondOf (secondOf (secondOf (secondOf (secondOf (secondOf (secondOf (secondOf (Ybaf.f6.body.getD .skip)))))))))) (fun e a' w' => e = .normal ∧ ∃ a9 c9, (Buf B r w' (.slice a9 (nb + 4) c9) (nb + 4) (xs ++ be32 n3) ∧ Kept B r wx w') ∧ ∃ v94 v95 v96 v97 v98 v99 v100 v101 v102, a' = { tmps := #[.slice a9 (nb + 4) c9, .pointer (some ⟨M, 0, none⟩), u2, u3, u4, u5, u6, u7, u8, u9, u10, u11, u12, u13, u14, u15, u16, u17, u18, u19, u20, u21, u22, u23, u24, u25, u26, u27, u28, u29, u30, u31, u32, u33, u34, u35, u36, u37, u38, u39, u40, u41, u42, u43, u44, u45, u46, u47, u48, u49, u50, u51, u52, u53, u54, u55, u56, u57, u58, u59, u60, u61, u62, u63, u64, u65, u66, u67, u68, u69, u70, u71, u72, u73, u74, u75, u76, u77, u78, u79, u80, u81, u82, u83, u84, u85, u86, u87, u88, u89, u90, u91, u92, u93, v94, v95, v96, v97, v98, v99, v100, v101, v102, u103, u104, u105, u106, u107, u108], defers := [] }) { tmps := #[.slice ab nb cb, .pointer (some ⟨M, 0, none⟩), u2, u3, u4, u5, u6, u7, u8, u9, u10, u11, u12, u13, u14, u15, u16, u17, u18, u19, u20, u21, u22, u23, u24, u25, u26, u27, u28, u29, u30, u31, u32, u33, u34, u35, u36, u37, u38, u39, u40, u41, u42, u43, u44, u45, u46, u47, u48, u49, u50, u51, u52, u53, u54, u55, u56, u57, u58, u59, u60, u61, u62, u63, u64, u65, u66, u67, u68, u69, u70, u71, u72, u73, u74, u75, u76, u77, u78, u79, u80, u81, u82, u83, u84, u85, u86, u87, u88, u89, u90, u91, u92, u93, u94, u95, u96, u97, u98, u99, u100, u101, u102, u103, u104, u105, u106, u107, u108], defers := [] } wx := by
  have hMx : M < wx.heap.size := by omega
  have hw : IntKind.u32.wrap (n3 : Int) = (n3 : Int) := by rw [IntKind.wrap_u32]; omega
  have HC : Hid (∀ q, Calls Ybaf.prog 14 #[.agg #[], .slice ab nb cb, .int .u32 n3] (wx.drewN q) fun e w' => ∃ a9 c9, e = .returned (.slice a9 (nb + 4) c9) ∧ Hid (Buf B r w' (.slice a9 (nb + 4) c9) (nb + 4) (xs ++ be32 n3) ∧ Kept B r wx w') ∧ w'.cell? ⟨M, 37, none⟩ = some (.slice a3 n3 c3)) := by
    intro q
    refine (be32_calls B r _ nb _ (n3 : Int) (wx.drewN q) (by omega) (by omega) (hbuf.drewN q) hB (by omega)).mono ?_
    rintro e w' ⟨v', rfl, hb, hk⟩
    have hkx : Kept B r wx w' := ⟨hk.os, hk.tape, hk.output, hk.size, hk.block⟩
    obtain ⟨a9, c9, rfl⟩ := hb.shape
    exact ⟨a9, c9, rfl, ⟨hb, hkx⟩, (hkx.cell (p := ⟨M, 37, none⟩) hM hMr).trans c0⟩
  clear hbuf
  obtain ⟨T, hT⟩ : ∃ T, T = (firstOf (secondOf (secondOf (secondOf (secondOf (secondOf (secondOf (secondOf (secondOf (Ybaf.f6.body.getD .skip)))))))))) := ⟨_, rfl⟩
  rw [← hT]
  dsimp only [Ybaf.f6, Option.getD, secondOf, firstOf] at hT
  subst hT
  dsimp only
  go_region_held3 (fun w' => w'.cell? ⟨M, 37, none⟩ = some (.slice a3 n3 c3)) (first | exact c0 | assumption)
    ((go_at_call 14; refine Calls.mono (HC.out _) ?_; rintro e w2 ⟨a9, c9, rfl, HF, hS3⟩; try dsimp only))
  all_goals
    exact ⟨rfl, _, _, HF.out, _, _, _, _, _, _, _, _, _, rfl⟩

set_option maxRecDepth 100000 in
set_option maxHeartbeats 4000000 in
theorem ag_r11 (wx : World) (B : Nat) (r : Option Nat) (M : Nat) (ab : Option Addr) (nb cb : Nat) (xs : List Value) (a2 : Option Addr) (n2 c2 : Nat) (hB : B ≤ wx.heap.size) (hnb : nb ≤ 80000) (hbuf : Buf B r wx (.slice ab nb cb) nb xs) (hM : M < B) (hMr : some M ≠ r) (hn2 : n2 ≤ 1024) (c0 : wx.cell? ⟨M, 36, none⟩ = some (.slice a2 n2 c2)) (u2 u3 u4 u5 u6 u7 u8 u9 u10 u11 u12 u13 u14 u15 u16 u17 u18 u19 u20 u21 u22 u23 u24 u25 u26 u27 u28 u29 u30 u31 u32 u33 u34 u35 u36 u37 u38 u39 u40 u41 u42 u43 u44 u45 u46 u47 u48 u49 u50 u51 u52 u53 u54 u55 u56 u57 u58 u59 u60 u61 u62 u63 u64 u65 u66 u67 u68 u69 u70 u71 u72 u73 u74 u75 u76 u77 u78 u79 u80 u81 u82 u83 u84 u85 u86 u87 u88 u89 u90 u91 u92 u93 u94 u95 u96 u97 u98 u99 u100 u101 u102 u103 u104 u105 u106 u107 u108 : Value) :
    Code.wp Ybaf.prog (firstOf (secondOf (secondOf (secondOf (secondOf (secondOf (secondOf (Ybaf.f6.body.getD .skip)))))))) (fun e a' w' => e = .normal ∧ ∃ a9 c9, (Buf B r w' (.slice a9 (nb + 4) c9) (nb + 4) (xs ++ be32 n2) ∧ Kept B r wx w') ∧ ∃ v70 v71 v72 v73 v74 v75 v76 v77 v78, a' = { tmps := #[.slice a9 (nb + 4) c9, .pointer (some ⟨M, 0, none⟩), u2, u3, u4, u5, u6, u7, u8, u9, u10, u11, u12, u13, u14, u15, u16, u17, u18, u19, u20, u21, u22, u23, u24, u25, u26, u27, u28, u29, u30, u31, u32, u33, u34, u35, u36, u37, u38, u39, u40, u41, u42, u43, u44, u45, u46, u47, u48, u49, u50, u51, u52, u53, u54, u55, u56, u57, u58, u59, u60, u61, u62, u63, u64, u65, u66, u67, u68, u69, v70, v71, v72, v73, v74, v75, v76, v77, v78, u79, u80, u81, u82, u83, u84, u85, u86, u87, u88, u89, u90, u91, u92, u93, u94, u95, u96, u97, u98, u99, u100, u101, u102, u103, u104, u105, u106, u107, u108], defers := [] }) { tmps := #[.slice ab nb cb, .pointer (some ⟨M, 0, none⟩), u2, u3, u4, u5, u6, u7, u8, u9, u10, u11, u12, u13, u14, u15, u16, u17, u18, u19, u20, u21, u22, u23, u24, u25, u26, u27, u28, u29, u30, u31, u32, u33, u34, u35, u36, u37, u38, u39, u40, u41, u42, u43, u44, u45, u46, u47, u48, u49, u50, u51, u52, u53, u54, u55, u56, u57, u58, u59, u60, u61, u62, u63, u64, u65, u66, u67, u68, u69, u70, u71, u72, u73, u74, u75, u76, u77, u78, u79, u80, u81, u82, u83, u84, u85, u86, u87, u88, u89, u90, u91, u92, u93, u94, u95, u96, u97, u98, u99, u100, u101, u102, u103, u104, u105, u106, u107, u108], defers := [] } wx := by
  have hMx : M < wx.heap.size := by omega
  have hw : IntKind.u32.wrap (n2 : Int) = (n2 : Int) := by rw [IntKind.wrap_u32]; omega
  have HC : Hid (∀ q, Calls Ybaf.prog 14 #[.agg #[], .slice ab nb cb, .int .u32 n2] (wx.drewN q) fun e w' => ∃ a9 c9, e = .returned (.slice a9 (nb + 4) c9) ∧ Hid (Buf B r w' (.slice a9 (nb + 4) c9) (nb + 4) (xs ++ be32 n2) ∧ Kept B r wx w') ∧ w'.cell? ⟨M, 36, none⟩ = some (.slice a2 n2 c2)) := by
    intro q
    refine (be32_calls B r _ nb _ (n2 : Int) (wx.drewN q) (by omega) (by omega) (hbuf.drewN q) hB (by omega)).mono ?_
    rintro e w' ⟨v', rfl, hb, hk⟩
    have hkx : Kept B r wx w' := ⟨hk.os, hk.tape, hk.output, hk.size, hk.block⟩
    obtain ⟨a9, c9, rfl⟩ := hb.shape
    exact ⟨a9, c9, rfl, ⟨hb, hkx⟩, (hkx.cell (p := ⟨M, 36, none⟩) hM hMr).trans c0⟩
  clear hbuf
  obtain ⟨T, hT⟩ : ∃ T, T = (firstOf (secondOf (secondOf (secondOf (secondOf (secondOf (secondOf (Ybaf.f6.body.getD .skip)))))))) := ⟨_, rfl⟩
  rw [← hT]
  dsimp only [Ybaf.f6, Option.getD, secondOf, firstOf] at hT
  subst hT
  dsimp only
  go_region_held3 (fun w' => w'.cell? ⟨M, 36, none⟩ = some (.slice a2 n2 c2)) (first | exact c0 | assumption)
    ((go_at_call 14; refine Calls.mono (HC.out _) ?_; rintro e w2 ⟨a9, c9, rfl, HF, hS3⟩; try dsimp only))
  all_goals
    exact ⟨rfl, _, _, HF.out, _, _, _, _, _, _, _, _, _, rfl⟩

set_option maxRecDepth 100000 in
set_option maxHeartbeats 4000000 in
theorem ag_r8 (wx : World) (B : Nat) (r : Option Nat) (M : Nat) (ab : Option Addr) (nb cb : Nat) (xs : List Value) (rep : Int) (hB : B ≤ wx.heap.size) (hnb : nb ≤ 80000) (hbuf : Buf B r wx (.slice ab nb cb) nb xs) (hM : M < B) (hMr : some M ≠ r) (c0 : wx.cell? ⟨M, 0, none⟩ = some (.int .i64 rep)) (u2 u3 u4 u5 u6 u7 u8 u9 u10 u11 u12 u13 u14 u15 u16 u17 u18 u19 u20 u21 u22 u23 u24 u25 u26 u27 u28 u29 u30 u31 u32 u33 u34 u35 u36 u37 u38 u39 u40 u41 u42 u43 u44 u45 u46 u47 u48 u49 u50 u51 u52 u53 u54 u55 u56 u57 u58 u59 u60 u61 u62 u63 u64 u65 u66 u67 u68 u69 u70 u71 u72 u73 u74 u75 u76 u77 u78 u79 u80 u81 u82 u83 u84 u85 u86 u87 u88 u89 u90 u91 u92 u93 u94 u95 u96 u97 u98 u99 u100 u101 u102 u103 u104 u105 u106 u107 u108 : Value) :
    Code.wp Ybaf.prog (firstOf (secondOf (secondOf (secondOf (Ybaf.f6.body.getD .skip))))) (fun e a' w' => e = .normal ∧ ∃ a9 c9, (Buf B r w' (.slice a9 (nb + 8) c9) (nb + 8) (xs ++ be64 (IntKind.u64.wrap rep)) ∧ Kept B r wx w') ∧ ∃ v42 v43 v44 v45 v46 v47 v48 v49, a' = { tmps := #[.slice a9 (nb + 8) c9, .pointer (some ⟨M, 0, none⟩), u2, u3, u4, u5, u6, u7, u8, u9, u10, u11, u12, u13, u14, u15, u16, u17, u18, u19, u20, u21, u22, u23, u24, u25, u26, u27, u28, u29, u30, u31, u32, u33, u34, u35, u36, u37, u38, u39, u40, u41, v42, v43, v44, v45, v46, v47, v48, v49, u50, u51, u52, u53, u54, u55, u56, u57, u58, u59, u60, u61, u62, u63, u64, u65, u66, u67, u68, u69, u70, u71, u72, u73, u74, u75, u76, u77, u78, u79, u80, u81, u82, u83, u84, u85, u86, u87, u88, u89, u90, u91, u92, u93, u94, u95, u96, u97, u98, u99, u100, u101, u102, u103, u104, u105, u106, u107, u108], defers := [] }) { tmps := #[.slice ab nb cb, .pointer (some ⟨M, 0, none⟩), u2, u3, u4, u5, u6, u7, u8, u9, u10, u11, u12, u13, u14, u15, u16, u17, u18, u19, u20, u21, u22, u23, u24, u25, u26, u27, u28, u29, u30, u31, u32, u33, u34, u35, u36, u37, u38, u39, u40, u41, u42, u43, u44, u45, u46, u47, u48, u49, u50, u51, u52, u53, u54, u55, u56, u57, u58, u59, u60, u61, u62, u63, u64, u65, u66, u67, u68, u69, u70, u71, u72, u73, u74, u75, u76, u77, u78, u79, u80, u81, u82, u83, u84, u85, u86, u87, u88, u89, u90, u91, u92, u93, u94, u95, u96, u97, u98, u99, u100, u101, u102, u103, u104, u105, u106, u107, u108], defers := [] } wx := by
  have hMx : M < wx.heap.size := by omega
  have HC : Hid (∀ q, Calls Ybaf.prog 11 #[.agg #[], .slice ab nb cb, .int .u64 (IntKind.u64.wrap rep)] (wx.drewN q) fun e w' => ∃ a9 c9, e = .returned (.slice a9 (nb + 8) c9) ∧ Hid (Buf B r w' (.slice a9 (nb + 8) c9) (nb + 8) (xs ++ be64 (IntKind.u64.wrap rep)) ∧ Kept B r wx w') ∧ w'.cell? ⟨M, 0, none⟩ = some (.int .i64 rep)) := by
    intro q
    refine (be64_calls B r _ nb _ (IntKind.u64.wrap rep) (wx.drewN q) (u64_lo _) (u64_hi _) (hbuf.drewN q) hB (by omega)).mono ?_
    rintro e w' ⟨v', rfl, hb, hk⟩
    have hkx : Kept B r wx w' := ⟨hk.os, hk.tape, hk.output, hk.size, hk.block⟩
    obtain ⟨a9, c9, rfl⟩ := hb.shape
    exact ⟨a9, c9, rfl, ⟨hb, hkx⟩, (hkx.cell (p := ⟨M, 0, none⟩) hM hMr).trans c0⟩
  clear hbuf
  obtain ⟨T, hT⟩ : ∃ T, T = (firstOf (secondOf (secondOf (secondOf (Ybaf.f6.body.getD .skip))))) := ⟨_, rfl⟩
  rw [← hT]
  dsimp only [Ybaf.f6, Option.getD, secondOf, firstOf] at hT
  subst hT
  dsimp only
  go_region_held3 (fun w' => w'.cell? ⟨M, 0, none⟩ = some (.int .i64 rep)) (first | exact c0 | assumption)
    ((go_at_call 11; refine Calls.mono (HC.out _) ?_; rintro e w2 ⟨a9, c9, rfl, HF, hS3⟩; try dsimp only))
  all_goals
    exact ⟨rfl, _, _, HF.out, _, _, _, _, _, _, _, _, rfl⟩

end Go.Proofs.YbulkawzkFmt
