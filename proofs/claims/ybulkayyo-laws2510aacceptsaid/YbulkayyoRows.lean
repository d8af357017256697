/-
  No cell of these rows narrows 'for every input' (looked for: loops, veiled, ifaces, maps, wideKeys, modest, calm, conditions, laid).
  DERIVED. THE GIVEN ROWS OF THIS SEAT. 1 by the template 'for every input the law returns true; each argument reads behind the call as it read before'; 0 by the template 'total and deterministic' (their statements: YbulkayyoTotals.lean).
  GIVEN WITH THE SEED: the statements are not yours to turn. If you find one false, say at which input.
  Laid BY PROGRAM, IN A SANDBOX (cutbox-rows.mjs): the forced cells as the released guide's own fill.sh prints them over the translation 3f3be062323efa83… (all of the seat's roots in one cut). By AI agents, Wed Nov 11 2026. No macro, syntax, notation, axiom, sorry.
-/
import Derived.Test.YbulkayyoChecked
import GoSem.Claim
import GoSem.ClaimJoined
import GoSem.ClaimMapViews
import Derived.JoinedTies
import Derived.KernelRfl
namespace Go.Proofs.Ybulkayyo
/- THE CELL 'sum', in the pinned program and in every row, IS THE sha256 OF THE DUMP (.gsa) THAT YbulkayyoProg.lean LOADS. Nothing in Lean hashes anything: it is a label: what it is worth is what the hold of that sum in a sandbox is worth. -/
noncomputable def Yba.pinned : Pinned := { name := "ybulkayyo", sum := "3f3be062323efa8346b86e7829468242432714f8d1d1dfce3168e4853a22a4d9", checked := Yba.checked }
namespace Rows
def none {H : Type} : Left H := { results := [], args := [] }

/-- 'native.LawS2510AAccept': WHATEVER THE INPUT: true; the input reads as it did. -/
def lawS2510AAcceptSpec : ChangeSpec := { name := "lawS2510AAccept", fn := fun _ => fun
  | [d1, d2, d3] => { results := [.lit (.bool true)], args := [d1, d2, d3] }
  | _ => none }
def lawS2510AAcceptRow : OpenClaim := { program := "ybulkayyo", sum := "3f3be062323efa8346b86e7829468242432714f8d1d1dfce3168e4853a22a4d9", func := "example.com/belltower/belltower/pkg/native.LawS2510AAccept", spec := "lawS2510AAccept", apart := false }
def LawS2510AAcceptSaid : Prop := lawS2510AAcceptRow.holds Yba.pinned (OpenSpec.ofChange lawS2510AAcceptSpec)

/-- ITS FALSE NEIGHBOUR: 'it returns false'. Refute it at one input. -/
def lawS2510AAcceptWrong : ChangeSpec := { name := "lawS2510AAccept", fn := fun _ => fun
  | [d1, d2, d3] => { results := [.lit (.bool false)], args := [d1, d2, d3] }
  | _ => none }
def LawS2510AAcceptWrongFalsely : Prop := lawS2510AAcceptRow.holds Yba.pinned (OpenSpec.ofChange lawS2510AAcceptWrong)

end Rows
end Go.Proofs.Ybulkayyo
