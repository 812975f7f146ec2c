import Derived.Test.YbulkawyiPrB
import Derived.OwnWalk
namespace Go.Proofs.Ybulkawyi
open Go.RowKit
set_option linter.unusedVariables false

/-- The cells of a node's motion that never arrives. -/
structure Mot (w : World) (B o t0 x0 y0 vx vy : Nat) : Prop where
  c0 : w.cell? ⟨B, o, none⟩ = some (.float .f64 t0)
  c1 : w.cell? ⟨B, o + 1, none⟩ = some (.float .f64 x0)
  c2 : w.cell? ⟨B, o + 2, none⟩ = some (.float .f64 y0)
  c3 : w.cell? ⟨B, o + 3, none⟩ = some (.float .f64 vx)
  c4 : w.cell? ⟨B, o + 4, none⟩ = some (.float .f64 vy)
  c5 : w.cell? ⟨B, o + 5, none⟩ = some (.float .f64 9218868437227405312)

/-- Where it stands at time t. -/
def AtIs (t t0 x0 y0 vx vy rx ry : Nat) : Prop := ∃ dt px py, floatBits .sub .f64 t t0 = some dt ∧ floatBits .mul .f64 vx dt = some px ∧ floatBits .add .f64 x0 px = some rx ∧ floatBits .mul .f64 vy dt = some py ∧ floatBits .add .f64 y0 py = some ry

set_option maxRecDepth 100000 in
set_option maxHeartbeats 1000000 in
theorem at_calls (B o t t0 x0 y0 vx vy rx ry : Nat) (v : Int) (w : World) (hv : V t v) (hm : Mot w B o t0 x0 y0 vx vy) (ha : AtIs t t0 x0 y0 vx vy rx ry) :
    Calls Yba.prog 34 #[.pointer (some ⟨B, o, none⟩), .float .f64 t] w fun e w' => e = .returned (.tuple #[.float .f64 rx, .float .f64 ry]) ∧ ∃ q, w' = w.drewN q := by
  obtain ⟨dt, px, py, h1, h2, h3, h4, h5⟩ := ha
  obtain ⟨c0, c1, c2, c3, c4, c5⟩ := hm
  have o1 := hv.lt_inf.1
  have f1 := fl_run h1
  have f2 := fl_run h2
  have f3 := fl_run h3
  have f4 := fl_run h4
  have f5 := fl_run h5
  clear h1 h2 h3 h4 h5 hv
  go_enter Yba.func34, Yba.ntmps34
  go_wp2
  go_region
  all_goals
    go_wp2
    go_ret2
    exact ⟨rfl, _, rfl⟩

theorem Mot.drew {w : World} {B o t0 x0 y0 vx vy : Nat} (h : Mot w B o t0 x0 y0 vx vy) (q : Nat) : Mot (w.drewN q) B o t0 x0 y0 vx vy := ⟨h.c0, h.c1, h.c2, h.c3, h.c4, h.c5⟩

/-- The gap between two nodes. -/
def GapIs (xa ya xb yb r2 dx dy c : Nat) : Prop := ∃ sx sy s, floatBits .sub .f64 xb xa = some dx ∧ floatBits .sub .f64 yb ya = some dy ∧ floatBits .mul .f64 dx dx = some sx ∧ floatBits .mul .f64 dy dy = some sy ∧ floatBits .add .f64 sx sy = some s ∧ floatBits .sub .f64 s r2 = some c

set_option maxRecDepth 100000 in
set_option maxHeartbeats 1000000 in
theorem gap_calls (T B o p t t0 x0 y0 vx vy t1 x1 y1 ux uy xa ya xb yb r2 dx dy c : Nat) (v : Int) (w : World) (hv : V t v) (hm : Mot w B o t0 x0 y0 vx vy) (hn : Mot w B p t1 x1 y1 ux uy)
    (hr : w.cell? ⟨T, 1, none⟩ = some (.float .f64 r2)) (ha : AtIs t t0 x0 y0 vx vy xa ya) (hb : AtIs t t1 x1 y1 ux uy xb yb) (hg : GapIs xa ya xb yb r2 dx dy c) :
    Calls Yba.prog 23 #[.pointer (some ⟨T, 0, none⟩), .pointer (some ⟨B, o, none⟩), .pointer (some ⟨B, p, none⟩), .float .f64 t] w fun e w' => e = .returned (.tuple #[.float .f64 dx, .float .f64 dy, .float .f64 c]) ∧ ∃ q, w' = w.drewN q := by
  obtain ⟨sx, sy, s, h1, h2, h3, h4, h5, h6⟩ := hg
  have f1 := fl_run h1
  have f2 := fl_run h2
  have f3 := fl_run h3
  have f4 := fl_run h4
  have f5 := fl_run h5
  have f6 := fl_run h6
  have H1 : Hid _ := fun w' (hm' : Mot w' B o t0 x0 y0 vx vy) => at_calls B o t t0 x0 y0 vx vy xa ya v w' hv hm' ha
  have H2 : Hid _ := fun w' (hn' : Mot w' B p t1 x1 y1 ux uy) => at_calls B p t t1 x1 y1 ux uy xb yb v w' hv hn' hb
  have HM : Hid _ := hm
  have HN : Hid _ := hn
  clear h1 h2 h3 h4 h5 h6 hv ha hb hm hn
  go_enter Yba.func23, Yba.ntmps23
  go_wp2_with fail
  refine Calls.mono (Hid.out H1 _ (Hid.out HM)) ?_
  rintro e w1 ⟨rfl, q1, rfl⟩
  go_wp2_with fail
  refine Calls.mono (Hid.out H2 _ (Mot.drew (Hid.out HN) _)) ?_
  rintro e w1 ⟨rfl, q2, rfl⟩
  have hr' : ((w.drewN q1).drewN q2).cell? ⟨T, 1, none⟩ = some (.float .f64 r2) := hr
  go_wp2
  go_region
  all_goals
    go_wp2
    go_ret3
    exact ⟨rfl, _, rfl⟩
end Go.Proofs.Ybulkawyi
