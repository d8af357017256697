/-
  No cell of these rows narrows 'for every input' (looked for: loops, veiled, ifaces, maps, wideKeys, modest, calm, conditions, laid).
  DERIVED. THE GIVEN ROWS OF THIS SEAT. 2 by the template 'for every input the law returns true; each argument reads behind the call as it read before'; 0 by the template 'total and deterministic' (their statements: YbulkayyaFmtTotals.lean).
  GIVEN WITH THE SEED: the statements are not yours to turn. If you find one false, say at which input.
  Laid BY PROGRAM, IN A SANDBOX (cutbox-rows.mjs): the forced cells as the released guide's own fill.sh prints them over the translation 2005f00661678bed… (all of the seat's roots in one cut). By AI agents, Wed Nov 11 2026. No macro, syntax, notation, axiom, sorry.
-/
import Derived.Test.YbulkayyaFmtChecked
import GoSem.Claim
import GoSem.ClaimJoined
import GoSem.ClaimMapViews
import Derived.JoinedTies
import Derived.KernelRfl
namespace Go.Proofs.YbulkayyaFmt
/- THE CELL 'sum', in the pinned program and in every row, IS THE sha256 OF THE DUMP (.gsa) THAT YbulkayyaFmtProg.lean LOADS. Nothing in Lean hashes anything: it is a label: what it is worth is what the hold of that sum in a sandbox is worth. -/
noncomputable def Ybaf.pinned : Pinned := { name := "ybulkayyafmt", sum := "2005f00661678beda86e537a46ff826e87794ff89e6d1e115ce40f5accf7d2fd", checked := Ybaf.checked }
namespace Rows
def none {H : Type} : Left H := { results := [], args := [] }

/-- 'curveform.LawS2509CRule': WHATEVER THE INPUT: true; the input reads as it did. -/
def lawS2509CRuleSpec : ChangeSpec := { name := "lawS2509CRule", fn := fun _ => fun
  | [d] => { results := [.lit (.bool true)], args := [d] }
  | _ => none }
def lawS2509CRuleRow : OpenClaim := { program := "ybulkayyafmt", sum := "2005f00661678beda86e537a46ff826e87794ff89e6d1e115ce40f5accf7d2fd", func := "example.com/curveform/curveform.LawS2509CRule", spec := "lawS2509CRule", stops := ["fmt.Sprintf, its operands' methods called"], inPlace := ["fmt.Sprintf"], unfollowed := true, recurses := true, apart := false }
/-- NO THEOREM (fmt's text is open here; it may be false): for the released tool's asking of the row's closed facts alone. THE STATEMENT IS 'LawS2509CRuleToldSaid' (YbulkayyaFmtCards.lean). -/
def LawS2509CRuleFormAsk : Prop := lawS2509CRuleRow.holds Ybaf.pinned (OpenSpec.ofChange lawS2509CRuleSpec)

/-- ITS FALSE NEIGHBOUR: 'it returns false'. Refute it at one input. -/
def lawS2509CRuleWrong : ChangeSpec := { name := "lawS2509CRule", fn := fun _ => fun
  | [d] => { results := [.lit (.bool false)], args := [d] }
  | _ => none }
def LawS2509CRuleWrongFormAsk : Prop := lawS2509CRuleRow.holds Ybaf.pinned (OpenSpec.ofChange lawS2509CRuleWrong)

/-- 'curveform.LawS2509CSingle': WHATEVER THE INPUT: true; the input reads as it did. -/
def lawS2509CSingleSpec : ChangeSpec := { name := "lawS2509CSingle", fn := fun _ => fun
  | [d] => { results := [.lit (.bool true)], args := [d] }
  | _ => none }
def lawS2509CSingleRow : OpenClaim := { program := "ybulkayyafmt", sum := "2005f00661678beda86e537a46ff826e87794ff89e6d1e115ce40f5accf7d2fd", func := "example.com/curveform/curveform.LawS2509CSingle", spec := "lawS2509CSingle", stops := ["fmt.Sprintf, its operands' methods called"], inPlace := ["fmt.Sprintf"], unfollowed := true, recurses := true, apart := false }
/-- NO THEOREM (fmt's text is open here; it may be false): for the released tool's asking of the row's closed facts alone. THE STATEMENT IS 'LawS2509CSingleToldSaid' (YbulkayyaFmtCards.lean). -/
def LawS2509CSingleFormAsk : Prop := lawS2509CSingleRow.holds Ybaf.pinned (OpenSpec.ofChange lawS2509CSingleSpec)

/-- ITS FALSE NEIGHBOUR: 'it returns false'. Refute it at one input. -/
def lawS2509CSingleWrong : ChangeSpec := { name := "lawS2509CSingle", fn := fun _ => fun
  | [d] => { results := [.lit (.bool false)], args := [d] }
  | _ => none }
def LawS2509CSingleWrongFormAsk : Prop := lawS2509CSingleRow.holds Ybaf.pinned (OpenSpec.ofChange lawS2509CSingleWrong)

end Rows
end Go.Proofs.YbulkayyaFmt
