/-
  No cell of these rows narrows 'for every input' (looked for: loops, veiled, ifaces, maps, wideKeys, modest, calm, conditions, laid).
  DERIVED. THE GIVEN ROWS OF THIS SEAT. 1 by the template 'for every input the law returns true; each argument reads behind the call as it read before'; 0 by the template 'total and deterministic' (their statements: YbulkaxdeTotals.lean).
  GIVEN WITH THE SEED: the statements are not yours to turn. If you find one false, say at which input.
  Laid BY PROGRAM, IN A SANDBOX (cutbox-rows.mjs): the forced cells as the released guide's own fill.sh prints them over the translation 0ec887077fd5dee3… (all of the seat's roots in one cut). By AI agents, Wed Nov 11 2026. No macro, syntax, notation, axiom, sorry.
-/
import Derived.Test.YbulkaxdeChecked
import GoSem.Claim
import GoSem.ClaimJoined
import GoSem.ClaimMapViews
import Derived.JoinedTies
import Derived.KernelRfl
namespace Go.Proofs.Ybulkaxde
/- THE CELL 'sum', in the pinned program and in every row, IS THE sha256 OF THE DUMP (.gsa) THAT YbulkaxdeProg.lean LOADS. Nothing in Lean hashes anything: it is a label: what it is worth is what the hold of that sum in a sandbox is worth. -/
noncomputable def Yba.pinned : Pinned := { name := "ybulkaxde", sum := "0ec887077fd5dee31d606d7277c7f6c2d885b5d1baea5a6660ef8b1f6332a726", checked := Yba.checked }
namespace Rows
def none {H : Type} : Left H := { results := [], args := [] }

/-- 'jobs.LawS2422CFill': WHATEVER THE INPUT: true; the input reads as it did. -/
def lawS2422CFillSpec : ChangeSpec := { name := "lawS2422CFill", fn := fun _ => fun
  | [d1, d2, d3] => { results := [.lit (.bool true)], args := [d1, d2, d3] }
  | _ => none }
def lawS2422CFillRow : OpenClaim := { program := "ybulkaxde", sum := "0ec887077fd5dee31d606d7277c7f6c2d885b5d1baea5a6660ef8b1f6332a726", func := "example.com/fanfold/fanfold/jobs.LawS2422CFill", spec := "lawS2422CFill", apart := false }
def LawS2422CFillSaid : Prop := lawS2422CFillRow.holds Yba.pinned (OpenSpec.ofChange lawS2422CFillSpec)

/-- ITS FALSE NEIGHBOUR: 'it returns false'. Refute it at one input. -/
def lawS2422CFillWrong : ChangeSpec := { name := "lawS2422CFill", fn := fun _ => fun
  | [d1, d2, d3] => { results := [.lit (.bool false)], args := [d1, d2, d3] }
  | _ => none }
def LawS2422CFillWrongFalsely : Prop := lawS2422CFillRow.holds Yba.pinned (OpenSpec.ofChange lawS2422CFillWrong)

end Rows
end Go.Proofs.Ybulkaxde
