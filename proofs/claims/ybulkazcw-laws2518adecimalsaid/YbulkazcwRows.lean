/-
  No cell of these rows narrows 'for every input' (looked for: loops, veiled, ifaces, maps, wideKeys, modest, calm, conditions, laid).
  DERIVED. THE GIVEN ROWS OF THIS SEAT. 2 by the template 'for every input the law returns true; each argument reads behind the call as it read before'; 0 by the template 'total and deterministic' (their statements: YbulkazcwTotals.lean).
  GIVEN WITH THE SEED: the statements are not yours to turn. If you find one false, say at which input.
  Laid BY PROGRAM, IN A SANDBOX (cutbox-rows.mjs): the forced cells as the released guide's own fill.sh prints them over the translation bfa862f783c2b9ce… (all of the seat's roots in one cut). By AI agents, Wed Nov 11 2026. No macro, syntax, notation, axiom, sorry.
-/
import Derived.Test.YbulkazcwChecked
import GoSem.Claim
import GoSem.ClaimJoined
import GoSem.ClaimMapViews
import Derived.JoinedTies
import Derived.KernelRfl
namespace Go.Proofs.Ybulkazcw
/- THE CELL 'sum', in the pinned program and in every row, IS THE sha256 OF THE DUMP (.gsa) THAT YbulkazcwProg.lean LOADS. Nothing in Lean hashes anything: it is a label: what it is worth is what the hold of that sum in a sandbox is worth. -/
noncomputable def Yba.pinned : Pinned := { name := "ybulkazcw", sum := "bfa862f783c2b9ce78dd03e14655d6eeda2b47985b851aaac3e558aa49202cdc", checked := Yba.checked }
namespace Rows
def none {H : Type} : Left H := { results := [], args := [] }

/-- 'espalier.LawS2518ADecimal': WHATEVER THE INPUT: true; the input reads as it did. -/
def lawS2518ADecimalSpec : ChangeSpec := { name := "lawS2518ADecimal", fn := fun _ => fun
  | [d1, d2, d3] => { results := [.lit (.bool true)], args := [d1, d2, d3] }
  | _ => none }
def lawS2518ADecimalRow : OpenClaim := { program := "ybulkazcw", sum := "bfa862f783c2b9ce78dd03e14655d6eeda2b47985b851aaac3e558aa49202cdc", func := "example.com/espalier/espalier.LawS2518ADecimal", spec := "lawS2518ADecimal", apart := false }
def LawS2518ADecimalSaid : Prop := lawS2518ADecimalRow.holds Yba.pinned (OpenSpec.ofChange lawS2518ADecimalSpec)

/-- ITS FALSE NEIGHBOUR: 'it returns false'. Refute it at one input. -/
def lawS2518ADecimalWrong : ChangeSpec := { name := "lawS2518ADecimal", fn := fun _ => fun
  | [d1, d2, d3] => { results := [.lit (.bool false)], args := [d1, d2, d3] }
  | _ => none }
def LawS2518ADecimalWrongFalsely : Prop := lawS2518ADecimalRow.holds Yba.pinned (OpenSpec.ofChange lawS2518ADecimalWrong)

/-- 'espalier.LawS2518AOtherKinds': WHATEVER THE INPUT: true; the input reads as it did. -/
def lawS2518AOtherKindsSpec : ChangeSpec := { name := "lawS2518AOtherKinds", fn := fun _ => fun
  | [d1, d2, d3, d4, d5] => { results := [.lit (.bool true)], args := [d1, d2, d3, d4, d5] }
  | _ => none }
def lawS2518AOtherKindsRow : OpenClaim := { program := "ybulkazcw", sum := "bfa862f783c2b9ce78dd03e14655d6eeda2b47985b851aaac3e558aa49202cdc", func := "example.com/espalier/espalier.LawS2518AOtherKinds", spec := "lawS2518AOtherKinds", apart := false }
def LawS2518AOtherKindsSaid : Prop := lawS2518AOtherKindsRow.holds Yba.pinned (OpenSpec.ofChange lawS2518AOtherKindsSpec)

/-- ITS FALSE NEIGHBOUR: 'it returns false'. Refute it at one input. -/
def lawS2518AOtherKindsWrong : ChangeSpec := { name := "lawS2518AOtherKinds", fn := fun _ => fun
  | [d1, d2, d3, d4, d5] => { results := [.lit (.bool false)], args := [d1, d2, d3, d4, d5] }
  | _ => none }
def LawS2518AOtherKindsWrongFalsely : Prop := lawS2518AOtherKindsRow.holds Yba.pinned (OpenSpec.ofChange lawS2518AOtherKindsWrong)

end Rows
end Go.Proofs.Ybulkazcw
