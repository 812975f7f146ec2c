import Derived.Test.YbulkawzkFmtAggR
namespace Go.Proofs.YbulkawzkFmt
open Go.RowKit Go.Extern.Stop Go.Stop Go.Extern
set_option linter.unusedVariables false

set_option maxRecDepth 100000 in
set_option maxHeartbeats 4000000 in
theorem ag_r9 (wx : World) (B : Nat) (r : Option Nat) (M : Nat) (ab : Option Addr) (nb cb : Nat) (xs : List Value) (inst view : Int) (blk : List Value) (hB : B ≤ wx.heap.size) (hnb : nb ≤ 80000) (hbuf : Buf B r wx (.slice ab nb cb) nb xs) (hM : M < B) (hMr : some M ≠ r) (hv0 : 0 ≤ view) (hv1 : view < 18446744073709551616) (hbl : blk.length = 32) (hb1 : ∀ u ∈ blk, u.oneCell' = true) (c1 : wx.cell? ⟨M, 1, none⟩ = some (.int .i64 inst)) (c2 : wx.cell? ⟨M, 2, none⟩ = some (.int .u64 view)) (c3 : wx.rangeAt M 3 blk) (u2 u3 u4 u5 u6 u7 u8 u9 u10 u11 u12 u13 u14 u15 u16 u17 u18 u19 u20 u21 u22 u23 u24 u25 u26 u27 u28 u29 u30 u31 u32 u33 u34 u35 u36 u37 u38 u39 u40 u41 u42 u43 u44 u45 u46 u47 u48 u49 u50 u51 u52 u53 u54 u55 u56 u57 u58 u59 u60 u61 u62 u63 u64 u65 u66 u67 u68 u69 u70 u71 u72 u73 u74 u75 u76 u77 u78 u79 u80 u81 u82 u83 u84 u85 u86 u87 u88 u89 u90 u91 u92 u93 u94 u95 u96 u97 u98 u99 u100 u101 u102 u103 u104 u105 u106 u107 u108 : Value) :
    Code.wp Ybaf.prog (firstOf (secondOf (secondOf (secondOf (secondOf (Ybaf.f6.body.getD .skip)))))) (fun e a' w' => e = .normal ∧ ∃ a9 c9, (Buf B r w' (.slice a9 (nb + 48) c9) (nb + 48) (xs ++ (be64 (IntKind.u64.wrap inst) ++ be64 view ++ blk)) ∧ Kept B r wx w') ∧ ∃ v50 v51 v52 v53 v54 v55 v56 v57 v58 v59 v60 v61 v62 v63, a' = { tmps := #[.slice a9 (nb + 48) c9, .pointer (some ⟨M, 0, none⟩), u2, u3, u4, u5, u6, u7, u8, u9, u10, u11, u12, u13, u14, u15, u16, u17, u18, u19, u20, u21, u22, u23, u24, u25, u26, u27, u28, u29, u30, u31, u32, u33, u34, u35, u36, u37, u38, u39, u40, u41, u42, u43, u44, u45, u46, u47, u48, u49, v50, v51, v52, v53, v54, v55, v56, v57, v58, v59, v60, v61, v62, v63, u64, u65, u66, u67, u68, u69, u70, u71, u72, u73, u74, u75, u76, u77, u78, u79, u80, u81, u82, u83, u84, u85, u86, u87, u88, u89, u90, u91, u92, u93, u94, u95, u96, u97, u98, u99, u100, u101, u102, u103, u104, u105, u106, u107, u108], defers := [] }) { tmps := #[.slice ab nb cb, .pointer (some ⟨M, 0, none⟩), u2, u3, u4, u5, u6, u7, u8, u9, u10, u11, u12, u13, u14, u15, u16, u17, u18, u19, u20, u21, u22, u23, u24, u25, u26, u27, u28, u29, u30, u31, u32, u33, u34, u35, u36, u37, u38, u39, u40, u41, u42, u43, u44, u45, u46, u47, u48, u49, u50, u51, u52, u53, u54, u55, u56, u57, u58, u59, u60, u61, u62, u63, u64, u65, u66, u67, u68, u69, u70, u71, u72, u73, u74, u75, u76, u77, u78, u79, u80, u81, u82, u83, u84, u85, u86, u87, u88, u89, u90, u91, u92, u93, u94, u95, u96, u97, u98, u99, u100, u101, u102, u103, u104, u105, u106, u107, u108], defers := [] } wx := by
  have hMx : M < wx.heap.size := by omega
  have hu33 := Ybaf.underlying33
  have hi33 : (Ybaf.prog.info? 33).map (·.size) = some blk.length := by rw [hbl]; kernel_rfl
  have HC : Hid (∀ q, Calls Ybaf.prog 12 #[.slice ab nb cb, .int .i64 inst, .int .u64 view, .agg blk.toArray] (wx.drewN q) fun e w' => ∃ a9 c9, e = .returned (.slice a9 (nb + 48) c9) ∧ Hid (Buf B r w' (.slice a9 (nb + 48) c9) (nb + 48) (xs ++ (be64 (IntKind.u64.wrap inst) ++ be64 view ++ blk)) ∧ Kept B r wx w') ∧ w'.cell? ⟨M, 1, none⟩ = some (.int .i64 inst) ∧ w'.cell? ⟨M, 2, none⟩ = some (.int .u64 view) ∧ w'.rangeAt M 3 blk) := by
    intro q
    refine (voted_calls B r _ nb _ inst view blk.toArray (wx.drewN q) (hbuf.drewN q) hB (by omega) hv0 hv1 (by simpa using hbl) (by simpa using hb1)).mono ?_
    rintro e w' ⟨v', rfl, hb, hk⟩
    have hkx : Kept B r wx w' := ⟨hk.os, hk.tape, hk.output, hk.size, hk.block⟩
    rw [show nb + 8 + 8 + 32 = nb + 48 by omega] at hb
    obtain ⟨a9, c9, rfl⟩ := hb.shape
    exact ⟨a9, c9, rfl, ⟨by simpa [List.append_assoc] using hb, hkx⟩, ⟨(hkx.cell (p := ⟨M, 1, none⟩) hM hMr).trans c1, (hkx.cell (p := ⟨M, 2, none⟩) hM hMr).trans c2, fun j u hj => (hkx.cell (p := ⟨M, 3 + j, none⟩) hM hMr).trans (c3 j u hj)⟩⟩
  clear hbuf
  obtain ⟨T, hT⟩ : ∃ T, T = (firstOf (secondOf (secondOf (secondOf (secondOf (Ybaf.f6.body.getD .skip)))))) := ⟨_, rfl⟩
  rw [← hT]
  dsimp only [Ybaf.f6, Option.getD, secondOf, firstOf] at hT
  subst hT
  dsimp only
  go_region_held3 (fun w' => w'.cell? ⟨M, 1, none⟩ = some (.int .i64 inst) ∧ w'.cell? ⟨M, 2, none⟩ = some (.int .u64 view) ∧ w'.rangeAt M 3 blk) (first | exact ⟨c1, c2, c3⟩ | assumption)
    ((go_at_call 12; refine Calls.mono (HC.out _) ?_; rintro e w2 ⟨a9, c9, rfl, HF, hS3⟩; try dsimp only))
  all_goals
    exact ⟨rfl, _, _, HF.out, _, _, _, _, _, _, _, _, _, _, _, _, _, _, rfl⟩

end Go.Proofs.YbulkawzkFmt
