import Derived.Test.YbulkawyiFin
import Derived.Test.YbulkawyiEq
namespace Go.Proofs.Ybulkawyi
open Go.RowKit
set_option linter.unusedVariables false
attribute [local go_sem] run_store_float

def insideOf : Code → Code
  | .block _ a => a
  | c => c
def onceOf : Code → Code
  | .loop a => a
  | c => c

theorem wrap_rem4u (n : Int) (h : 0 ≤ n) : IntKind.wrap .i64 (n.tmod 4) = n % 4 := by
  rw [Int.tmod_eq_emod_of_nonneg h, wrap_i64 _ (by omega) (by omega)]

set_option maxRecDepth 100000 in
set_option maxHeartbeats 4000000 in
theorem build_r6 (W : World) (A : Nat) (id p : Int) (st : Bool) (h s nm : Int) (hr : (0 ≤ id ∧ id ≤ 255) ∧ (-128 ≤ p ∧ p ≤ 127) ∧ (0 ≤ h ∧ h ≤ 255) ∧ (0 ≤ s ∧ s ≤ 255) ∧ (0 ≤ nm ∧ nm ≤ 255)) (hA : A < W.heap.size)
    (k0 : W.cell? ⟨A, 0, none⟩ = some (.int .u8 id)) (k1 : W.cell? ⟨A, 1, none⟩ = some (.int .i8 p)) (k2 : W.cell? ⟨A, 2, none⟩ = some (.bool st)) (k3 : W.cell? ⟨A, 3, none⟩ = some (.int .u8 h)) (k4 : W.cell? ⟨A, 4, none⟩ = some (.int .u8 s)) (k5 : W.cell? ⟨A, 5, none⟩ = some (.int .u8 nm))
    (u0 u1 u2 u3 u4 u6 u7 u8 u9 u10 u11 u12 u13 u14 u15 u16 u17 u18 u19 u20 u21 u22 u23 u24 u25 u26 u27 u28 u29 u30 u31 u32 u33 u34 u35 u36 u37 u38 u39 u40 u41 u42 u43 u44 u45 u46 u47 u48 u49 u50 u51 u52 u53 u54 u55 u56 u57 u58 u59 u60 u61 u62 u63 u64 u65 u66 u67 u68 u69 u70 u71 u72 u73 u74 u75 u76 u77 u78 u79 u80 u81 u82 u83 u84 u85 u86 u87 u88 u89 : Value) :
    Code.wp Yba.prog (firstOf (secondOf (secondOf (insideOf (firstOf (secondOf (secondOf (onceOf (insideOf (secondOf (firstOf (secondOf (secondOf (Yba.f7.body.getD .skip)))))))))))))) (fun e a' w' => e = .normal ∧ (∃ q, w' = (W.alloc (.cells #[.int .u64 (id % 8), .float .f64 (pb (rk p)), .bool st, .int .i64 (h % 4), .int .u64 (s % 8), .int .u64 nm] 48)).drewN q) ∧ ∃ v19 v20 v21 v22 v23 v24 v25 v26 v27 v28 v29 v30 v31 v32 v33 v34 v35 v36 v37 v38 v39 v40, a' = { tmps := #[u0, u1, u2, u3, u4, .pointer (some ⟨A, 0, none⟩), .pointer (some ⟨W.heap.size, 0, none⟩), u7, u8, u9, u10, u11, u12, u13, u14, u15, u16, u17, u18, v19, v20, v21, v22, v23, v24, v25, v26, v27, v28, v29, v30, v31, v32, v33, v34, v35, v36, v37, v38, v39, v40, u41, u42, u43, u44, u45, u46, u47, u48, u49, u50, u51, u52, u53, u54, u55, u56, u57, u58, u59, u60, u61, u62, u63, u64, u65, u66, u67, u68, u69, u70, u71, u72, u73, u74, u75, u76, u77, u78, u79, u80, u81, u82, u83, u84, u85, u86, u87, u88, u89], defers := [] }) { tmps := #[u0, u1, u2, u3, u4, .pointer (some ⟨A, 0, none⟩), u6, u7, u8, u9, u10, u11, u12, u13, u14, u15, u16, u17, u18, u19, u20, u21, u22, u23, u24, u25, u26, u27, u28, u29, u30, u31, u32, u33, u34, u35, u36, u37, u38, u39, u40, u41, u42, u43, u44, u45, u46, u47, u48, u49, u50, u51, u52, u53, u54, u55, u56, u57, u58, u59, u60, u61, u62, u63, u64, u65, u66, u67, u68, u69, u70, u71, u72, u73, u74, u75, u76, u77, u78, u79, u80, u81, u82, u83, u84, u85, u86, u87, u88, u89], defers := [] } W := by
  have HC : Hid _ := fun w => apri_calls p hr.2.1.1 hr.2.1.2 w
  have HR : Hid _ := hr
  have h1 := wrap_rem8 id hr.1.1
  have h2 := wrap_rem4u h hr.2.2.1.1
  have h3 := wrap_rem8 s hr.2.2.2.1.1
  have h4 := wrap_u64 nm hr.2.2.2.2.1 (by have := hr.2.2.2.2.2; omega)
  clear hr
  obtain ⟨T, hT⟩ : ∃ T, T = (firstOf (secondOf (secondOf (insideOf (firstOf (secondOf (secondOf (onceOf (insideOf (secondOf (firstOf (secondOf (secondOf (Yba.f7.body.getD .skip)))))))))))))) := ⟨_, rfl⟩
  rw [← hT]
  dsimp only [Yba.f7, Option.getD, secondOf, firstOf, insideOf, onceOf] at hT
  subst hT
  dsimp only
  go_region_held3 (fun w' => w'.cell? ⟨A, 0, none⟩ = some (.int .u8 id) ∧ w'.cell? ⟨A, 1, none⟩ = some (.int .i8 p) ∧ w'.cell? ⟨A, 2, none⟩ = some (.bool st) ∧ w'.cell? ⟨A, 3, none⟩ = some (.int .u8 h) ∧ w'.cell? ⟨A, 4, none⟩ = some (.int .u8 s) ∧ w'.cell? ⟨A, 5, none⟩ = some (.int .u8 nm)) (first | exact ⟨k0, k1, k2, k3, k4, k5⟩ | go_keep)
    ((go_at_call 17; refine Calls.mono (HC.out _) ?_; rintro e w' ⟨rfl, rfl⟩))
  all_goals
    exact ⟨rfl, ⟨_, rfl⟩, _, _, _, _, _, _, _, _, _, _, _, _, _, _, _, _, _, _, _, _, _, _, rfl⟩
end Go.Proofs.Ybulkawyi
