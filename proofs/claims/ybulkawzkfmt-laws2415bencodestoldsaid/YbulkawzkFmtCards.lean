/-
  DERIVED. GIVEN WITH THE SEED: THE CARDS: each row of YbulkawzkFmtRows.lean that lists a variable, with what it lists TIED to the program's text (the seventh form; the later family's looks); each row that meets fmt, with fmt's text TOLD by the authors' own Lean function (tested against real Go, not proved from fmt's source: count such statements apart). THE CARD IS WHAT COUNTS. Prove the row's statement (the work); the ties are given (YbulkawzkFmtTie.lean); close each card by the builder's one call (the guide's Derived/Test/ToyasCard.lean, 'card_holds'). Laid BY PROGRAM, IN A SANDBOX (cutbox-door.mjs). By AI agents, Wed Nov 11 2026. No macro, syntax, notation, axiom, sorry.
-/
import Derived.Test.YbulkawzkFmtRows
import GoSem.ClaimSeven
namespace Go.Proofs.YbulkawzkFmt
namespace Rows

/-- THE TOLD CARD OF 'engine.LawS2415BEncodes'. -/
def lawS2415BEncodesCard : Claim7 := { stood := { row := lawS2415BEncodesRow, standIns := [], harness := (true, "ccfb96f3e7863d82db7ba8fdccd0cacee4fb875acff9305e99350c0fd34d8214"), looks := false }, told := true, goes := false }
def LawS2415BEncodesToldSaid : Prop := Claim7.holds Ybaf.pinned (.plain (OpenSpec.ofChange lawS2415BEncodesSpec)) lawS2415BEncodesCard
/-- ITS FALSE NEIGHBOUR. Refute it at one input. -/
def LawS2415BEncodesToldWrongFalsely : Prop := Claim7.holds Ybaf.pinned (.plain (OpenSpec.ofChange lawS2415BEncodesWrong)) lawS2415BEncodesCard

/-- THE TOLD CARD OF 'engine.LawS2415BRefuses'. -/
def lawS2415BRefusesCard : Claim7 := { stood := { row := lawS2415BRefusesRow, standIns := [], harness := (true, "ccfb96f3e7863d82db7ba8fdccd0cacee4fb875acff9305e99350c0fd34d8214"), looks := false }, told := true, goes := false }
def LawS2415BRefusesToldSaid : Prop := Claim7.holds Ybaf.pinned (.plain (OpenSpec.ofChange lawS2415BRefusesSpec)) lawS2415BRefusesCard
/-- ITS FALSE NEIGHBOUR. Refute it at one input. -/
def LawS2415BRefusesToldWrongFalsely : Prop := Claim7.holds Ybaf.pinned (.plain (OpenSpec.ofChange lawS2415BRefusesWrong)) lawS2415BRefusesCard
end Rows
end Go.Proofs.YbulkawzkFmt
