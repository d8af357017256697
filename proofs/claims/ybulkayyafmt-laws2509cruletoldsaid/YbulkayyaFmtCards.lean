/-
  DERIVED. GIVEN WITH THE SEED: THE CARDS: each row of YbulkayyaFmtRows.lean that lists a variable, with what it lists TIED to the program's text (the seventh form; the later family's looks); each row that meets fmt, with fmt's text TOLD by the authors' own Lean function (tested against real Go, not proved from fmt's source: count such statements apart). THE CARD IS WHAT COUNTS. Prove the row's statement (the work); the ties are given (YbulkayyaFmtTie.lean); close each card by the builder's one call (the guide's Derived/Test/ToyasCard.lean, 'card_holds'). Laid BY PROGRAM, IN A SANDBOX (cutbox-door.mjs). By AI agents, Wed Nov 11 2026. No macro, syntax, notation, axiom, sorry.
-/
import Derived.Test.YbulkayyaFmtRows
import GoSem.ClaimSeven
namespace Go.Proofs.YbulkayyaFmt
namespace Rows

/-- THE TOLD CARD OF 'curveform.LawS2509CRule'. -/
def lawS2509CRuleCard : Claim7 := { stood := { row := lawS2509CRuleRow, standIns := [], harness := (true, "3cfe632deaedc858722f1c462f867fde1cffea7bd4fbf55c0cd8b3a364b5c95e"), looks := true }, told := true, goes := false }
def LawS2509CRuleToldSaid : Prop := Claim7.holds Ybaf.pinned (.plain (OpenSpec.ofChange lawS2509CRuleSpec)) lawS2509CRuleCard
/-- ITS FALSE NEIGHBOUR. Refute it at one input. -/
def LawS2509CRuleToldWrongFalsely : Prop := Claim7.holds Ybaf.pinned (.plain (OpenSpec.ofChange lawS2509CRuleWrong)) lawS2509CRuleCard

/-- THE TOLD CARD OF 'curveform.LawS2509CSingle'. -/
def lawS2509CSingleCard : Claim7 := { stood := { row := lawS2509CSingleRow, standIns := [], harness := (true, "3cfe632deaedc858722f1c462f867fde1cffea7bd4fbf55c0cd8b3a364b5c95e"), looks := true }, told := true, goes := false }
def LawS2509CSingleToldSaid : Prop := Claim7.holds Ybaf.pinned (.plain (OpenSpec.ofChange lawS2509CSingleSpec)) lawS2509CSingleCard
/-- ITS FALSE NEIGHBOUR. Refute it at one input. -/
def LawS2509CSingleToldWrongFalsely : Prop := Claim7.holds Ybaf.pinned (.plain (OpenSpec.ofChange lawS2509CSingleWrong)) lawS2509CSingleCard
end Rows
end Go.Proofs.YbulkayyaFmt
