import Derived.Test.YbulkawyiNoteP
namespace Go.Proofs.Ybulkawyi
open Go.RowKit
set_option linter.unusedVariables false

/-- What the list is between two entries. -/
structure Grows (w wr : World) (a : Option Addr) (n c : Nat) (L : List Nb) : Prop where
  good : Good L
  len : L.length = n
  own : wr.ownsRow w.heap.size 48 6 (.slice a n c) n (flat L)
  bel : Below w.heap.size w wr
  nil : n = 0 → a = none

def zeros6 : List Value := [.int .u64 0, .float .f64 0, .bool false, .int .i64 0, .int .u64 0, .int .u64 0]
theorem zeros6_one : ∀ u ∈ zeros6, u.oneCell' = true := by decide +kernel
def set6 (w : World) (g o : Nat) (v0 v1 v2 v3 v4 v5 : Value) : World := (((((w.setCell ⟨g, o, none⟩ v0).setCell ⟨g, o + 1, none⟩ v1).setCell ⟨g, o + 2, none⟩ v2).setCell ⟨g, o + 3, none⟩ v3).setCell ⟨g, o + 4, none⟩ v4).setCell ⟨g, o + 5, none⟩ v5

theorem list6 {α : Type} {l : List α} (h : l.length = 6) : ∃ a b c d e f, l = [a, b, c, d, e, f] := by
  refine ⟨l[0], l[1], l[2], l[3], l[4], l[5], ?_⟩
  apply List.ext_getElem
  · simpa using h
  · intro i h1 h2
    rcases i with _ | _ | _ | _ | _ | _ | i
    all_goals first | rfl | (simp at h2; omega)

theorem list_set6 {α : Type} (A Z C : List α) (p : Nat) (hA : A.length = p) (hZ : Z.length = 6) (v0 v1 v2 v3 v4 v5 : α) :
    ((((((A ++ Z ++ C).set p v0).set (p + 1) v1).set (p + 2) v2).set (p + 3) v3).set (p + 4) v4).set (p + 5) v5 = A ++ [v0, v1, v2, v3, v4, v5] ++ C := by
  obtain ⟨a, b, c, d, e, f, rfl⟩ := list6 hZ
  subst hA
  simp

theorem own_set6 {w : World} {base g n c p : Nat} {A Z C : List Value} (h : w.ownsRow base 48 6 (.slice (some ⟨g, 0, none⟩) n c) n (A ++ Z ++ C)) (hA : A.length = p) (hZ : Z.length = 6) (v0 v1 v2 v3 v4 v5 : Value) :
    (set6 w g p v0 v1 v2 v3 v4 v5).ownsRow base 48 6 (.slice (some ⟨g, 0, none⟩) n c) n (A ++ [v0, v1, v2, v3, v4, v5] ++ C) := by
  rw [← list_set6 A Z C p hA hZ v0 v1 v2 v3 v4 v5]
  unfold set6
  exact (World.ownsRow.stored (World.ownsRow.stored (World.ownsRow.stored (World.ownsRow.stored (World.ownsRow.stored (World.ownsRow.stored h p v0).1 (p + 1) v1).1 (p + 2) v2).1 (p + 3) v3).1 (p + 4) v4).1 (p + 5) v5).1

theorem below_set6 {B : Nat} {a w : World} (h : Below B a w) {g o : Nat} (hp : B ≤ g) (v0 v1 v2 v3 v4 v5 : Value) : Below B a (set6 w g o v0 v1 v2 v3 v4 v5) :=
  (((((h.setCell (p := ⟨g, o, none⟩) hp v0).setCell (p := ⟨g, o + 1, none⟩) hp v1).setCell (p := ⟨g, o + 2, none⟩) hp v2).setCell (p := ⟨g, o + 3, none⟩) hp v3).setCell (p := ⟨g, o + 4, none⟩) hp v4).setCell (p := ⟨g, o + 5, none⟩) hp v5

theorem flat_ins (L : List Nb) (o : Nb) : flat (ins L o) = (flat L).take (pos L o * 6) ++ o.cells ++ (flat L).drop (pos L o * 6) := by
  unfold ins
  rw [flat_append, flat_cons, flat_take, flat_drop, List.append_assoc]

theorem row_list {cur xs zs D : List Value} {n P o' : Nat} (hxl : xs.length = n * 6) (hPn : P ≤ n) (hzl : zs.length = 6) (htk : cur.take ((n + 1) * 6) = xs ++ zs) (hD : D = xs.drop (P * 6)) (ho : P < n → o' = (P + 1) * 6) (ho2 : o' ≤ cur.length) (hc : (n + 1) * 6 ≤ cur.length) :
    (cur.take o' ++ D ++ cur.drop (o' + D.length)).take ((n + 1) * 6) = xs.take (P * 6) ++ (cur.drop (P * 6)).take 6 ++ D := by
  have hDl : D.length = (n - P) * 6 := by rw [hD, List.length_drop, hxl]; omega
  have e1 : cur.take (P * 6) = xs.take (P * 6) := by
    have : cur.take (P * 6) = (cur.take ((n + 1) * 6)).take (P * 6) := by rw [List.take_take]; congr 1; omega
    rw [this, htk, List.take_append_of_le_length (by omega)]
  have e2 : cur.take ((P + 1) * 6) = xs.take (P * 6) ++ (cur.drop (P * 6)).take 6 := by
    rw [← e1, show (P + 1) * 6 = P * 6 + 6 by omega, List.take_add]
  rw [← e2]
  by_cases hlt : P < n
  · have := ho hlt
    subst this
    have el : (cur.take ((P + 1) * 6) ++ D).length = (n + 1) * 6 := by rw [List.length_append, List.length_take, hDl]; omega
    rw [← el]
    exact List.take_left
  · have hPe : P = n := by omega
    have hD0 : D = [] := List.eq_nil_of_length_eq_zero (by rw [hDl]; omega)
    rw [hD0, hPe]
    simp

theorem ins_fin {w w1 w3 : World} {g cp n P B o' : Nat} {cur : Array Value} {L : List Nb} {o : Nb} (hgood : Good L) (hok : o.Ok) (hid : ∀ b, b ∈ L → b.id ≠ o.id) (hlen : L.length = n) (hn : n ≤ 5) (hP : P = pos L o) (hPn : P ≤ n)
    (hB1 : Below w.heap.size w w1) (hw : w.heap.size ≤ g) (hle : n + 1 ≤ cp) (hcm : cp ≤ maxLen) (hsz : cur.size = cp * 6) (htk : cur.toList.take ((n + 1) * 6) = flat L ++ zeros6) (hBg : B ≠ g) (hBl : B < w1.heap.size)
    (hBw : w1.heap[B]? = some (.cells #[.int .u64 o.id, .float .f64 (pb o.pr), .bool o.st, .int .i64 o.hops, .int .u64 o.seq, .int .u64 o.named] 48 (0, 0)))
    (ho' : P < n → o' = (P + 1) * 6) (ho2 : o' ≤ cur.size) (hrow : w3.heap[g]? = some (.cells (cur.toList.take o' ++ (flat L).drop (P * 6) ++ cur.toList.drop (o' + ((flat L).drop (P * 6)).length)).toArray 48 (0, 0))) (hgr : w1.grownBy w3 (some g)) :
    Hid (∀ q, Grows w (set6 (w3.drewN q) g (P * 6) (.int .u64 o.id) (.float .f64 (pb o.pr)) (.bool o.st) (.int .i64 o.hops) (.int .u64 o.seq) (.int .u64 o.named)) (some ⟨g, 0, none⟩) (n + 1) cp (ins L o)) ∧
      w3.cell? ⟨B, 0, none⟩ = some (.int .u64 o.id) ∧ w3.cell? ⟨B, 1, none⟩ = some (.float .f64 (pb o.pr)) ∧ w3.cell? ⟨B, 2, none⟩ = some (.bool o.st) ∧ w3.cell? ⟨B, 3, none⟩ = some (.int .i64 o.hops) ∧ w3.cell? ⟨B, 4, none⟩ = some (.int .u64 o.seq) ∧ w3.cell? ⟨B, 5, none⟩ = some (.int .u64 o.named) ∧
      (∃ v, w3.cell? ⟨g, P * 6, none⟩ = some v) ∧ (∃ v, w3.cell? ⟨g, P * 6 + 1, none⟩ = some v) ∧ (∃ v, w3.cell? ⟨g, P * 6 + 2, none⟩ = some v) ∧ (∃ v, w3.cell? ⟨g, P * 6 + 3, none⟩ = some v) ∧ (∃ v, w3.cell? ⟨g, P * 6 + 4, none⟩ = some v) ∧ (∃ v, w3.cell? ⟨g, P * 6 + 5, none⟩ = some v) ∧ ∀ o', w3.frozen? ⟨g, o', none⟩ = false := by
  have hxl : (flat L).length = n * 6 := by rw [flat_length, hlen]
  have hcl : cur.toList.length = cp * 6 := by rw [Array.length_toList]; exact hsz
  have hDl : ((flat L).drop (P * 6)).length = (n - P) * 6 := by rw [List.length_drop, hxl]; omega
  have hrl : (cur.toList.take o' ++ (flat L).drop (P * 6) ++ cur.toList.drop (o' + ((flat L).drop (P * 6)).length)).length = cp * 6 := by
    simp only [List.length_append, List.length_take, List.length_drop (l := cur.toList), hDl, hcl]
    by_cases h : P < n
    · have := ho' h; omega
    · omega
  have hlist := row_list (cur := cur.toList) hxl hPn (zs := zeros6) rfl htk rfl ho' (by omega) (by omega)
  have own3 : ∀ q, (w3.drewN q).ownsRow w.heap.size 48 6 (.slice (some ⟨g, 0, none⟩) (n + 1) cp) (n + 1) ((flat L).take (P * 6) ++ (cur.toList.drop (P * 6)).take 6 ++ (flat L).drop (P * 6)) := by
    intro q
    refine ⟨?_, .inr ⟨g, cp, _, rfl, hw, hrow, hle, hcm, ?_, ?_⟩⟩
    · simp only [List.length_append, List.length_take, List.length_drop, hxl, hcl]; omega
    · rw [List.size_toArray]; exact hrl
    · exact hlist
  have hB3 : w3.heap[B]? = _ := (hgr.block B hBl (by intro e; cases e; exact hBg rfl)).trans hBw
  have hb3 : Below w.heap.size w w3 := ⟨hgr.os.trans hB1.os, hgr.tape.trans hB1.tape, hgr.output.trans hB1.output, Nat.le_trans hB1.size hgr.size, fun k hk =>
    (hgr.block k (Nat.lt_of_lt_of_le hk hB1.size) (by intro e; cases e; omega)).trans (hB1.block k hk)⟩
  have hcell : ∀ j, j < 6 → ∃ v, w3.cell? ⟨g, P * 6 + j, none⟩ = some v := by
    intro j hj
    have hlt : P * 6 + j < (cur.toList.take o' ++ (flat L).drop (P * 6) ++ cur.toList.drop (o' + ((flat L).drop (P * 6)).length)).length := by rw [hrl]; omega
    exact ⟨_, by simp only [World.cell?, hrow]; rw [if_neg (by simp), List.getElem?_toArray, List.getElem?_eq_getElem hlt]⟩
  refine ⟨?_, by simp [World.cell?, hB3], by simp [World.cell?, hB3], by simp [World.cell?, hB3], by simp [World.cell?, hB3], by simp [World.cell?, hB3], by simp [World.cell?, hB3], hcell 0 (by omega), hcell 1 (by omega), hcell 2 (by omega), hcell 3 (by omega), hcell 4 (by omega), hcell 5 (by omega), fun o'' => by simp [World.frozen?, hrow]⟩
  intro q
  refine ⟨ins_good hgood hok hid (by omega), by rw [ins_length, hlen], ?_, below_set6 (bdrew hb3 q) hw _ _ _ _ _ _, fun h => by omega⟩
  rw [flat_ins, ← hP]
  exact own_set6 (own3 q) (by rw [List.length_take, hxl]; omega) (by rw [List.length_take, List.length_drop, hcl]; omega) _ _ _ _ _ _
end Go.Proofs.Ybulkawyi
