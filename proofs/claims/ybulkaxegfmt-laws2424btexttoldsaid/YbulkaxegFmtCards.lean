/-
  DERIVED. GIVEN WITH THE SEED: THE CARDS: each row of YbulkaxegFmtRows.lean that lists a variable, with what it lists TIED to the program's text (the seventh form; the later family's looks); each row that meets fmt, with fmt's text TOLD by the authors' own Lean function (tested against real Go, not proved from fmt's source: count such statements apart). THE CARD IS WHAT COUNTS. Prove the row's statement (the work); the ties are given (YbulkaxegFmtTie.lean); close each card by the builder's one call (the guide's Derived/Test/ToyasCard.lean, 'card_holds'). Laid BY PROGRAM, IN A SANDBOX (cutbox-door.mjs). By AI agents, Wed Nov 11 2026. No macro, syntax, notation, axiom, sorry.
-/
import Derived.Test.YbulkaxegFmtRows
import GoSem.ClaimSeven
namespace Go.Proofs.YbulkaxegFmt
namespace Rows

/-- THE TOLD CARD OF 'enum.LawS2424BText'. -/
def lawS2424BTextCard : Claim7 := { stood := { row := lawS2424BTextRow, standIns := [], harness := (true, "dee67bbd84c5d0f1dd60a5cfd74942d187777301b6a26c4c1ead000568f89cad"), looks := false }, told := true, goes := false }
def LawS2424BTextToldSaid : Prop := Claim7.holds Ybaf.pinned (.plain (OpenSpec.ofChange lawS2424BTextSpec)) lawS2424BTextCard
/-- ITS FALSE NEIGHBOUR. Refute it at one input. -/
def LawS2424BTextToldWrongFalsely : Prop := Claim7.holds Ybaf.pinned (.plain (OpenSpec.ofChange lawS2424BTextWrong)) lawS2424BTextCard
end Rows
end Go.Proofs.YbulkaxegFmt
