/-
  No cell of these rows narrows 'for every input' (looked for: loops, veiled, ifaces, maps, wideKeys, modest, calm, conditions, laid).
  DERIVED. THE GIVEN ROWS OF THIS SEAT. 1 by the template 'for every input the law returns true; each argument reads behind the call as it read before'; 0 by the template 'total and deterministic' (their statements: YbulkaxegFmtTotals.lean).
  GIVEN WITH THE SEED: the statements are not yours to turn. If you find one false, say at which input.
  Laid BY PROGRAM, IN A SANDBOX (cutbox-rows.mjs): the forced cells as the released guide's own fill.sh prints them over the translation 7b1f8ecdc18adb60… (all of the seat's roots in one cut). By AI agents, Wed Nov 11 2026. No macro, syntax, notation, axiom, sorry.
-/
import Derived.Test.YbulkaxegFmtChecked
import GoSem.Claim
import GoSem.ClaimJoined
import GoSem.ClaimMapViews
import Derived.JoinedTies
import Derived.KernelRfl
namespace Go.Proofs.YbulkaxegFmt
/- THE CELL 'sum', in the pinned program and in every row, IS THE sha256 OF THE DUMP (.gsa) THAT YbulkaxegFmtProg.lean LOADS. Nothing in Lean hashes anything: it is a label: what it is worth is what the hold of that sum in a sandbox is worth. -/
noncomputable def Ybaf.pinned : Pinned := { name := "ybulkaxegfmt", sum := "7b1f8ecdc18adb6037e0011d6a7f41b23987dfa8b4ab7140edce84bee1a17a91", checked := Ybaf.checked }
namespace Rows
def none {H : Type} : Left H := { results := [], args := [] }

/-- 'enum.LawS2424BText': WHATEVER THE INPUT: true; the input reads as it did. -/
def lawS2424BTextSpec : ChangeSpec := { name := "lawS2424BText", fn := fun _ => fun
  | [d1, d2, d3] => { results := [.lit (.bool true)], args := [d1, d2, d3] }
  | _ => none }
def lawS2424BTextRow : OpenClaim := { program := "ybulkaxegfmt", sum := "7b1f8ecdc18adb6037e0011d6a7f41b23987dfa8b4ab7140edce84bee1a17a91", func := "example.com/lineframe/lineframe/internal/enum.LawS2424BText", spec := "lawS2424BText", stops := ["fmt.errorf"], inPlace := ["fmt.errorf"], apart := false }
/-- NO THEOREM (fmt's text is open here; it may be false): for the released tool's asking of the row's closed facts alone. THE STATEMENT IS 'LawS2424BTextToldSaid' (YbulkaxegFmtCards.lean). -/
def LawS2424BTextFormAsk : Prop := lawS2424BTextRow.holds Ybaf.pinned (OpenSpec.ofChange lawS2424BTextSpec)

/-- ITS FALSE NEIGHBOUR: 'it returns false'. Refute it at one input. -/
def lawS2424BTextWrong : ChangeSpec := { name := "lawS2424BText", fn := fun _ => fun
  | [d1, d2, d3] => { results := [.lit (.bool false)], args := [d1, d2, d3] }
  | _ => none }
def LawS2424BTextWrongFormAsk : Prop := lawS2424BTextRow.holds Ybaf.pinned (OpenSpec.ofChange lawS2424BTextWrong)

end Rows
end Go.Proofs.YbulkaxegFmt
