import Derived.Test.YbulkawyiBase
namespace Go.Proofs.Ybulkawyi
open Go.RowKit

/-- A neighbour as plain data; 'pr' is the rank of its priority: -4 for NaN, else the whole number itself. -/
structure Nb where
  id : Int
  pr : Int
  st : Bool
  hops : Int
  seq : Int
  named : Int

/-- The bits of a rank. -/
def pb (r : Int) : Nat := if r = -4 then 9221120237041090561 else floatOfInt .f64 r

structure Nb.Ok (a : Nb) : Prop where
  id0 : 0 ≤ a.id
  id7 : a.id ≤ 7
  pr0 : -4 ≤ a.pr
  pr3 : a.pr ≤ 3
  h0 : -3 ≤ a.hops
  h3 : a.hops ≤ 3

def Nb.cand (a : Nb) : List Value := [.int .u64 a.id, .float .f64 (pb a.pr), .bool a.st]
def Nb.cells (a : Nb) : List Value := [.int .u64 a.id, .float .f64 (pb a.pr), .bool a.st, .int .i64 a.hops, .int .u64 a.seq, .int .u64 a.named]
def bit01 (b : Bool) : Int := if b then 0 else 1
/-- The order of candidates and of neighbours, as whole numbers: the less, the better. -/
def Nb.ck (a : Nb) : Int := (bit01 a.st * 8 + (3 - a.pr)) * 8 + a.id
def Nb.key (a : Nb) : Int := a.hops * 128 + a.ck

theorem Nb.ck_range {a : Nb} (h : a.Ok) : 0 ≤ a.ck ∧ a.ck < 128 := by
  obtain ⟨h1, h2, h3, h4, _, _⟩ := h
  unfold Nb.ck bit01
  split <;> omega

def ordP (a b : Int) : Option Ordering := if a = -4 ∨ b = -4 then none else some (compare a b)

theorem ord_fin : ∀ a b : Fin 8, FloatKind.f64.format.order (pb ((a.val : Int) - 4)) (pb ((b.val : Int) - 4)) = ordP ((a.val : Int) - 4) ((b.val : Int) - 4) := by decide +kernel

theorem ord_pb {a b : Int} (ha : -4 ≤ a) (ha' : a ≤ 3) (hb : -4 ≤ b) (hb' : b ≤ 3) : FloatKind.f64.format.order (pb a) (pb b) = ordP a b := by
  have h := ord_fin ⟨(a + 4).toNat, by omega⟩ ⟨(b + 4).toNat, by omega⟩
  simp only at h
  rw [show (((a + 4).toNat : Nat) : Int) - 4 = a from by omega, show (((b + 4).toNat : Nat) : Int) - 4 = b from by omega] at h
  exact h

theorem ordP_nan {a b : Int} (h : a = -4 ∨ b = -4) : ordP a b = none := if_pos h
theorem ordP_lt {a b : Int} (ha : -4 < a) (hb : -4 < b) (h : a < b) : ordP a b = some .lt := by
  unfold ordP; rw [if_neg (by omega)]; simp [compare, compareOfLessAndEq, h]
theorem ordP_eq {a b : Int} (ha : -4 < a) (hb : -4 < b) (h : a = b) : ordP a b = some .eq := by
  subst h; unfold ordP; rw [if_neg (by omega)]; simp [compare, compareOfLessAndEq]
theorem ordP_gt {a b : Int} (ha : -4 < a) (hb : -4 < b) (h : b < a) : ordP a b = some .gt := by
  unfold ordP; rw [if_neg (by omega)]; simp [compare, compareOfLessAndEq, show ¬ a < b by omega, show a ≠ b by omega]

/-- cmp.isNaN at a rank. -/
theorem isNaN_calls (a : Int) (ha : -4 ≤ a) (ha' : a ≤ 3) (w : World) :
    Calls Yba.prog 44 #[.float .f64 (pb a)] w fun e w' => e = .returned (.bool (decide (a = -4))) ∧ w' = w := by
  have ho := ord_pb ha ha' ha ha'
  by_cases h : a = -4
  · have ho' : FloatKind.f64.format.order (pb a) (pb a) = none := by rw [ho, ordP_nan (.inl h)]
    have hd : decide (a = -4) = true := by simpa using h
    rw [hd]
    clear h ho hd
    go_enter Yba.func44, Yba.ntmps44
    go_wp2
    go_ret
    exact ⟨rfl, rfl⟩
  · have ho' : FloatKind.f64.format.order (pb a) (pb a) = some .eq := by rw [ho, ordP_eq (by omega) (by omega) rfl]
    have hd : decide (a = -4) = false := by simpa using h
    rw [hd]
    clear h ho hd
    go_enter Yba.func44, Yba.ntmps44
    go_wp2
    go_ret
    exact ⟨rfl, rfl⟩

def cmpI (a b : Int) : Int := if a < b then -1 else if b < a then 1 else 0

set_option maxHeartbeats 400000 in
theorem compare_calls (a b : Int) (ha : -4 ≤ a) (ha' : a ≤ 3) (hb : -4 ≤ b) (hb' : b ≤ 3) (w : World) :
    Calls Yba.prog 31 #[.float .f64 (pb a), .float .f64 (pb b)] w fun e w' => e = .returned (.int .i64 (cmpI a b)) ∧ w' = w := by
  have c1 := isNaN_calls a ha ha' w
  have c2 := isNaN_calls b hb hb' w
  have ho := ord_pb ha ha' hb hb'
  have fin : ∀ x : Int, cmpI a b = x → ∀ (e : Ending) (w' : World), (e = .returned (.int .i64 x) ∧ w' = w) → (e = .returned (.int .i64 (cmpI a b)) ∧ w' = w) := fun x hx e w' h => by rw [hx]; exact h
  by_cases h1 : a = -4
  · by_cases h2 : b = -4
    · rw [decide_eq_true h1] at c1
      rw [decide_eq_true h2] at c2
      refine Calls.mono (R := fun e w' => e = .returned (.int .i64 0) ∧ w' = w) ?_ (fin 0 (by unfold cmpI; omega))
      have C1 : Hid _ := c1
      have C2 : Hid _ := c2
      clear fin h1 h2 ho c1 c2
      go_enter Yba.func31, Yba.ntmps31
      go_wp2_with fail
      refine Calls.mono (Hid.out C1) ?_
      rintro e w' ⟨rfl, rfl⟩
      go_wp2_with fail
      refine Calls.mono (Hid.out C2) ?_
      rintro e w' ⟨rfl, rfl⟩
      go_wp2
      go_ret
      exact ⟨rfl, rfl⟩
    · rw [decide_eq_true h1] at c1
      rw [decide_eq_false h2] at c2
      refine Calls.mono (R := fun e w' => e = .returned (.int .i64 (-1)) ∧ w' = w) ?_ (fin (-1) (by unfold cmpI; omega))
      have C1 : Hid _ := c1
      have C2 : Hid _ := c2
      clear fin h1 h2 ho c1 c2
      go_enter Yba.func31, Yba.ntmps31
      go_wp2_with fail
      refine Calls.mono (Hid.out C1) ?_
      rintro e w' ⟨rfl, rfl⟩
      go_wp2_with fail
      refine Calls.mono (Hid.out C2) ?_
      rintro e w' ⟨rfl, rfl⟩
      go_wp2
      go_ret
      exact ⟨rfl, rfl⟩
  · rw [decide_eq_false h1] at c1
    by_cases h2 : b = -4
    · rw [decide_eq_true h2] at c2
      refine Calls.mono (R := fun e w' => e = .returned (.int .i64 1) ∧ w' = w) ?_ (fin 1 (by unfold cmpI; omega))
      have C1 : Hid _ := c1
      have C2 : Hid _ := c2
      clear fin h1 h2 ho c1 c2
      go_enter Yba.func31, Yba.ntmps31
      go_wp2_with fail
      refine Calls.mono (Hid.out C1) ?_
      rintro e w' ⟨rfl, rfl⟩
      go_wp2_with fail
      refine Calls.mono (Hid.out C2) ?_
      rintro e w' ⟨rfl, rfl⟩
      go_wp2
      go_ret
      exact ⟨rfl, rfl⟩
    · rw [decide_eq_false h2] at c2
      have key : ∃ o x, FloatKind.f64.format.order (pb a) (pb b) = some o ∧ cmpI a b = x ∧ ((o = .lt ∧ x = -1) ∨ (o = .eq ∧ x = 0) ∨ (o = .gt ∧ x = 1)) := by
        rw [ho]
        rcases Int.lt_trichotomy a b with h | h | h
        · exact ⟨.lt, -1, ordP_lt (by omega) (by omega) h, by unfold cmpI; omega, .inl ⟨rfl, rfl⟩⟩
        · exact ⟨.eq, 0, ordP_eq (by omega) (by omega) h, by unfold cmpI; omega, .inr (.inl ⟨rfl, rfl⟩)⟩
        · exact ⟨.gt, 1, ordP_gt (by omega) (by omega) h, by unfold cmpI; omega, .inr (.inr ⟨rfl, rfl⟩)⟩
      obtain ⟨o, x, hO, hx, hc⟩ := key
      refine Calls.mono ?_ (fin x hx)
      have C1 : Hid _ := c1
      have C2 : Hid _ := c2
      clear fin h1 h2 ho c1 c2 hx
      rcases hc with ⟨rfl, rfl⟩ | ⟨rfl, rfl⟩ | ⟨rfl, rfl⟩
      all_goals
        go_enter Yba.func31, Yba.ntmps31
        go_wp2_with fail
        refine Calls.mono (Hid.out C1) ?_
        rintro e w' ⟨rfl, rfl⟩
        go_wp2_with fail
        refine Calls.mono (Hid.out C2) ?_
        rintro e w' ⟨rfl, rfl⟩
        go_wp2
        go_ret
        exact ⟨rfl, rfl⟩
end Go.Proofs.Ybulkawyi
