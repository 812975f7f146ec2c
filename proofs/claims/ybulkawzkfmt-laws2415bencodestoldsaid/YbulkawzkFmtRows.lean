/-
  No cell of these rows narrows 'for every input' (looked for: loops, veiled, ifaces, maps, wideKeys, modest, calm, conditions, laid).
  DERIVED. THE GIVEN ROWS OF THIS SEAT. 2 by the template 'for every input the law returns true; each argument reads behind the call as it read before'; 0 by the template 'total and deterministic' (their statements: YbulkawzkFmtTotals.lean).
  GIVEN WITH THE SEED: the statements are not yours to turn. If you find one false, say at which input.
  Laid BY PROGRAM, IN A SANDBOX (cutbox-rows.mjs): the forced cells as the released guide's own fill.sh prints them over the translation dd9318074007e3c8… (all of the seat's roots in one cut). By AI agents, Wed Nov 11 2026. No macro, syntax, notation, axiom, sorry.
-/
import Derived.Test.YbulkawzkFmtChecked
import GoSem.Claim
import GoSem.ClaimJoined
import GoSem.ClaimMapViews
import Derived.JoinedTies
import Derived.KernelRfl
namespace Go.Proofs.YbulkawzkFmt
/- THE CELL 'sum', in the pinned program and in every row, IS THE sha256 OF THE DUMP (.gsa) THAT YbulkawzkFmtProg.lean LOADS. Nothing in Lean hashes anything: it is a label: what it is worth is what the hold of that sum in a sandbox is worth. -/
noncomputable def Ybaf.pinned : Pinned := { name := "ybulkawzkfmt", sum := "dd9318074007e3c89736181cfbd2c4b85e364aba83bf44d789e26a2a41c95889", checked := Ybaf.checked }
namespace Rows
def none {H : Type} : Left H := { results := [], args := [] }

/-- 'engine.LawS2415BEncodes': WHATEVER THE INPUT: true; the input reads as it did. -/
def lawS2415BEncodesSpec : ChangeSpec := { name := "lawS2415BEncodes", fn := fun _ => fun
  | [d] => { results := [.lit (.bool true)], args := [d] }
  | _ => none }
def lawS2415BEncodesRow : OpenClaim := { program := "ybulkawzkfmt", sum := "dd9318074007e3c89736181cfbd2c4b85e364aba83bf44d789e26a2a41c95889", func := "example.com/quorumsense/quorumsense/pkg/engine.LawS2415BEncodes", spec := "lawS2415BEncodes", stops := ["fmt.errorf"], inPlace := ["fmt.errorf"], named := ["encoding/binary.BigEndian"], apart := false }
/-- NO THEOREM (fmt's text is open here; it may be false): for the released tool's asking of the row's closed facts alone. THE STATEMENT IS 'LawS2415BEncodesToldSaid' (YbulkawzkFmtCards.lean). -/
def LawS2415BEncodesFormAsk : Prop := lawS2415BEncodesRow.holds Ybaf.pinned (OpenSpec.ofChange lawS2415BEncodesSpec)

/-- ITS FALSE NEIGHBOUR: 'it returns false'. Refute it at one input. -/
def lawS2415BEncodesWrong : ChangeSpec := { name := "lawS2415BEncodes", fn := fun _ => fun
  | [d] => { results := [.lit (.bool false)], args := [d] }
  | _ => none }
def LawS2415BEncodesWrongFormAsk : Prop := lawS2415BEncodesRow.holds Ybaf.pinned (OpenSpec.ofChange lawS2415BEncodesWrong)

/-- 'engine.LawS2415BRefuses': WHATEVER THE INPUT: true; the input reads as it did. -/
def lawS2415BRefusesSpec : ChangeSpec := { name := "lawS2415BRefuses", fn := fun _ => fun
  | [d] => { results := [.lit (.bool true)], args := [d] }
  | _ => none }
def lawS2415BRefusesRow : OpenClaim := { program := "ybulkawzkfmt", sum := "dd9318074007e3c89736181cfbd2c4b85e364aba83bf44d789e26a2a41c95889", func := "example.com/quorumsense/quorumsense/pkg/engine.LawS2415BRefuses", spec := "lawS2415BRefuses", stops := ["fmt.errorf"], inPlace := ["fmt.errorf"], named := ["encoding/binary.BigEndian"], apart := false }
/-- NO THEOREM (fmt's text is open here; it may be false): for the released tool's asking of the row's closed facts alone. THE STATEMENT IS 'LawS2415BRefusesToldSaid' (YbulkawzkFmtCards.lean). -/
def LawS2415BRefusesFormAsk : Prop := lawS2415BRefusesRow.holds Ybaf.pinned (OpenSpec.ofChange lawS2415BRefusesSpec)

/-- ITS FALSE NEIGHBOUR: 'it returns false'. Refute it at one input. -/
def lawS2415BRefusesWrong : ChangeSpec := { name := "lawS2415BRefuses", fn := fun _ => fun
  | [d] => { results := [.lit (.bool false)], args := [d] }
  | _ => none }
def LawS2415BRefusesWrongFormAsk : Prop := lawS2415BRefusesRow.holds Ybaf.pinned (OpenSpec.ofChange lawS2415BRefusesWrong)

end Rows
end Go.Proofs.YbulkawzkFmt
