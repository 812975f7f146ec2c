/-
  No cell of these rows narrows 'for every input' (looked for: loops, veiled, ifaces, maps, wideKeys, modest, calm, conditions, laid).
  DERIVED. THE GIVEN ROWS OF THIS SEAT. 4 by the template 'for every input the law returns true; each argument reads behind the call as it read before'; 0 by the template 'total and deterministic' (their statements: YbulkawyiTotals.lean).
  GIVEN WITH THE SEED: the statements are not yours to turn. If you find one false, say at which input.
  Laid BY PROGRAM, IN A SANDBOX (cutbox-rows.mjs): the forced cells as the released guide's own fill.sh prints them over the translation 2bc960904ac6b81f… (all of the seat's roots in one cut). By AI agents, Wed Nov 11 2026. No macro, syntax, notation, axiom, sorry.
-/
import Derived.Test.YbulkawyiChecked
import GoSem.Claim
import GoSem.ClaimJoined
import GoSem.ClaimMapViews
import Derived.JoinedTies
import Derived.KernelRfl
namespace Go.Proofs.Ybulkawyi
/- THE CELL 'sum', in the pinned program and in every row, IS THE sha256 OF THE DUMP (.gsa) THAT YbulkawyiProg.lean LOADS. Nothing in Lean hashes anything: it is a label: what it is worth is what the hold of that sum in a sandbox is worth. -/
noncomputable def Yba.pinned : Pinned := { name := "ybulkawyi", sum := "2bc960904ac6b81f4c04c580fddedb2c4ec05fefc37e00505881818d13fe90b0", checked := Yba.checked }
namespace Rows
def none {H : Type} : Left H := { results := [], args := [] }

/-- 'bellwether.LawS2413APlace': WHATEVER THE INPUT: true; the input reads as it did. -/
def lawS2413APlaceSpec : ChangeSpec := { name := "lawS2413APlace", fn := fun _ => fun
  | [d1, d2] => { results := [.lit (.bool true)], args := [d1, d2] }
  | _ => none }
def lawS2413APlaceRow : OpenClaim := { program := "ybulkawyi", sum := "2bc960904ac6b81f4c04c580fddedb2c4ec05fefc37e00505881818d13fe90b0", func := "example.com/bellwether/bellwether.LawS2413APlace", spec := "lawS2413APlace", inPlace := ["math.Float64frombits", "slices.overlaps[example.com/bellwether/bellwether.neighbour]", "math.Float64bits"], apart := false }
def LawS2413APlaceSaid : Prop := lawS2413APlaceRow.holds Yba.pinned (OpenSpec.ofChange lawS2413APlaceSpec)

/-- ITS FALSE NEIGHBOUR: 'it returns false'. Refute it at one input. -/
def lawS2413APlaceWrong : ChangeSpec := { name := "lawS2413APlace", fn := fun _ => fun
  | [d1, d2] => { results := [.lit (.bool false)], args := [d1, d2] }
  | _ => none }
def LawS2413APlaceWrongFalsely : Prop := lawS2413APlaceRow.holds Yba.pinned (OpenSpec.ofChange lawS2413APlaceWrong)

/-- 'bellwether.LawS2413AScript': WHATEVER THE INPUT: true; the input reads as it did. -/
def lawS2413AScriptSpec : ChangeSpec := { name := "lawS2413AScript", fn := fun _ => fun
  | [d] => { results := [.lit (.bool true)], args := [d] }
  | _ => none }
def lawS2413AScriptRow : OpenClaim := { program := "ybulkawyi", sum := "2bc960904ac6b81f4c04c580fddedb2c4ec05fefc37e00505881818d13fe90b0", func := "example.com/bellwether/bellwether.LawS2413AScript", spec := "lawS2413AScript", inPlace := ["math.Float64frombits", "slices.overlaps[example.com/bellwether/bellwether.neighbour]"], apart := false }
def LawS2413AScriptSaid : Prop := lawS2413AScriptRow.holds Yba.pinned (OpenSpec.ofChange lawS2413AScriptSpec)

/-- ITS FALSE NEIGHBOUR: 'it returns false'. Refute it at one input. -/
def lawS2413AScriptWrong : ChangeSpec := { name := "lawS2413AScript", fn := fun _ => fun
  | [d] => { results := [.lit (.bool false)], args := [d] }
  | _ => none }
def LawS2413AScriptWrongFalsely : Prop := lawS2413AScriptRow.holds Yba.pinned (OpenSpec.ofChange lawS2413AScriptWrong)

/-- 'mobility.LawS2413BPair': WHATEVER THE INPUT: true; the input reads as it did. -/
def lawS2413BPairSpec : ChangeSpec := { name := "lawS2413BPair", fn := fun _ => fun
  | [d1, d2, d3, d4, d5, d6, d7, d8, d9, d10, d11] => { results := [.lit (.bool true)], args := [d1, d2, d3, d4, d5, d6, d7, d8, d9, d10, d11] }
  | _ => none }
def lawS2413BPairRow : OpenClaim := { program := "ybulkawyi", sum := "2bc960904ac6b81f4c04c580fddedb2c4ec05fefc37e00505881818d13fe90b0", func := "example.com/bellwether/bellwether/internal/mobility.LawS2413BPair", spec := "lawS2413BPair", inPlace := ["math.Float64frombits", "math.sqrt", "math.Float64bits", "math.archFloor", "math.archTrunc", "slices.overlaps[int64]"], apart := false }
def LawS2413BPairSaid : Prop := lawS2413BPairRow.holds Yba.pinned (OpenSpec.ofChange lawS2413BPairSpec)

/-- ITS FALSE NEIGHBOUR: 'it returns false'. Refute it at one input. -/
def lawS2413BPairWrong : ChangeSpec := { name := "lawS2413BPair", fn := fun _ => fun
  | [d1, d2, d3, d4, d5, d6, d7, d8, d9, d10, d11] => { results := [.lit (.bool false)], args := [d1, d2, d3, d4, d5, d6, d7, d8, d9, d10, d11] }
  | _ => none }
def LawS2413BPairWrongFalsely : Prop := lawS2413BPairRow.holds Yba.pinned (OpenSpec.ofChange lawS2413BPairWrong)

/-- 'sim.LawS2413CSends': WHATEVER THE INPUT: true; the input reads as it did. -/
def lawS2413CSendsSpec : ChangeSpec := { name := "lawS2413CSends", fn := fun _ => fun
  | [d1, d2, d3, d4, d5] => { results := [.lit (.bool true)], args := [d1, d2, d3, d4, d5] }
  | _ => none }
def lawS2413CSendsRow : OpenClaim := { program := "ybulkawyi", sum := "2bc960904ac6b81f4c04c580fddedb2c4ec05fefc37e00505881818d13fe90b0", func := "example.com/bellwether/bellwether/internal/sim.LawS2413CSends", spec := "lawS2413CSends", inPlace := ["slices.overlaps[example.com/bellwether/bellwether/internal/sim.event]"], apart := false }
def LawS2413CSendsSaid : Prop := lawS2413CSendsRow.holds Yba.pinned (OpenSpec.ofChange lawS2413CSendsSpec)

/-- ITS FALSE NEIGHBOUR: 'it returns false'. Refute it at one input. -/
def lawS2413CSendsWrong : ChangeSpec := { name := "lawS2413CSends", fn := fun _ => fun
  | [d1, d2, d3, d4, d5] => { results := [.lit (.bool false)], args := [d1, d2, d3, d4, d5] }
  | _ => none }
def LawS2413CSendsWrongFalsely : Prop := lawS2413CSendsRow.holds Yba.pinned (OpenSpec.ofChange lawS2413CSendsWrong)

end Rows
end Go.Proofs.Ybulkawyi
