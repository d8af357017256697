/-
  No cell of these rows narrows 'for every input' (looked for: loops, veiled, ifaces, maps, wideKeys, modest, calm, conditions, laid).
  DERIVED. THE GIVEN ROWS OF THIS SEAT. 5 by the template 'for every input the law returns true; each argument reads behind the call as it read before'; 0 by the template 'total and deterministic' (their statements: YbulkayuuTotals.lean).
  GIVEN WITH THE SEED: the statements are not yours to turn. If you find one false, say at which input.
  Laid BY PROGRAM, IN A SANDBOX (cutbox-rows.mjs): the forced cells as the released guide's own fill.sh prints them over the translation b1c120695c950427… (all of the seat's roots in one cut). By AI agents, Wed Nov 11 2026. No macro, syntax, notation, axiom, sorry.
-/
import Derived.Test.YbulkayuuChecked
import GoSem.Claim
import GoSem.ClaimJoined
import GoSem.ClaimMapViews
import Derived.JoinedTies
import Derived.KernelRfl
namespace Go.Proofs.Ybulkayuu
/- THE CELL 'sum', in the pinned program and in every row, IS THE sha256 OF THE DUMP (.gsa) THAT YbulkayuuProg.lean LOADS. Nothing in Lean hashes anything: it is a label: what it is worth is what the hold of that sum in a sandbox is worth. -/
noncomputable def Yba.pinned : Pinned := { name := "ybulkayuu", sum := "b1c120695c9504278f5d8e5f42b5824549c9648b8d459ee396c0456e59024aa2", checked := Yba.checked }
namespace Rows
def none {H : Type} : Left H := { results := [], args := [] }

/-- 'plan.LawS2503BCounts': WHATEVER THE INPUT: true; the input reads as it did. -/
def lawS2503BCountsSpec : ChangeSpec := { name := "lawS2503BCounts", fn := fun _ => fun
  | [d] => { results := [.lit (.bool true)], args := [d] }
  | _ => none }
def lawS2503BCountsRow : OpenClaim := { program := "ybulkayuu", sum := "b1c120695c9504278f5d8e5f42b5824549c9648b8d459ee396c0456e59024aa2", func := "example.com/dialplan/dialplan/plan.LawS2503BCounts", spec := "lawS2503BCounts", plainKeys := false, apart := false }
def LawS2503BCountsSaid : Prop := lawS2503BCountsRow.holds Yba.pinned (OpenSpec.ofChange lawS2503BCountsSpec)

/-- ITS FALSE NEIGHBOUR: 'it returns false'. Refute it at one input. -/
def lawS2503BCountsWrong : ChangeSpec := { name := "lawS2503BCounts", fn := fun _ => fun
  | [d] => { results := [.lit (.bool false)], args := [d] }
  | _ => none }
def LawS2503BCountsWrongFalsely : Prop := lawS2503BCountsRow.holds Yba.pinned (OpenSpec.ofChange lawS2503BCountsWrong)

/-- 'plan.LawS2503BAddContext': WHATEVER THE INPUT: true; the input reads as it did. -/
def lawS2503BAddContextSpec : ChangeSpec := { name := "lawS2503BAddContext", fn := fun _ => fun
  | [d] => { results := [.lit (.bool true)], args := [d] }
  | _ => none }
def lawS2503BAddContextRow : OpenClaim := { program := "ybulkayuu", sum := "b1c120695c9504278f5d8e5f42b5824549c9648b8d459ee396c0456e59024aa2", func := "example.com/dialplan/dialplan/plan.LawS2503BAddContext", spec := "lawS2503BAddContext", plainKeys := false, apart := false }
def LawS2503BAddContextSaid : Prop := lawS2503BAddContextRow.holds Yba.pinned (OpenSpec.ofChange lawS2503BAddContextSpec)

/-- ITS FALSE NEIGHBOUR: 'it returns false'. Refute it at one input. -/
def lawS2503BAddContextWrong : ChangeSpec := { name := "lawS2503BAddContext", fn := fun _ => fun
  | [d] => { results := [.lit (.bool false)], args := [d] }
  | _ => none }
def LawS2503BAddContextWrongFalsely : Prop := lawS2503BAddContextRow.holds Yba.pinned (OpenSpec.ofChange lawS2503BAddContextWrong)

/-- 'conf.LawS2503CExact': WHATEVER THE INPUT: true; the input reads as it did. -/
def lawS2503CExactSpec : ChangeSpec := { name := "lawS2503CExact", fn := fun _ => fun
  | [d] => { results := [.lit (.bool true)], args := [d] }
  | _ => none }
def lawS2503CExactRow : OpenClaim := { program := "ybulkayuu", sum := "b1c120695c9504278f5d8e5f42b5824549c9648b8d459ee396c0456e59024aa2", func := "example.com/dialplan/dialplan/conf.LawS2503CExact", spec := "lawS2503CExact", plainKeys := false, apart := false }
def LawS2503CExactSaid : Prop := lawS2503CExactRow.holds Yba.pinned (OpenSpec.ofChange lawS2503CExactSpec)

/-- ITS FALSE NEIGHBOUR: 'it returns false'. Refute it at one input. -/
def lawS2503CExactWrong : ChangeSpec := { name := "lawS2503CExact", fn := fun _ => fun
  | [d] => { results := [.lit (.bool false)], args := [d] }
  | _ => none }
def LawS2503CExactWrongFalsely : Prop := lawS2503CExactRow.holds Yba.pinned (OpenSpec.ofChange lawS2503CExactWrong)

/-- 'conf.LawS2503CIdem': WHATEVER THE INPUT: true; the input reads as it did. -/
def lawS2503CIdemSpec : ChangeSpec := { name := "lawS2503CIdem", fn := fun _ => fun
  | [d] => { results := [.lit (.bool true)], args := [d] }
  | _ => none }
def lawS2503CIdemRow : OpenClaim := { program := "ybulkayuu", sum := "b1c120695c9504278f5d8e5f42b5824549c9648b8d459ee396c0456e59024aa2", func := "example.com/dialplan/dialplan/conf.LawS2503CIdem", spec := "lawS2503CIdem", plainKeys := false, apart := false }
def LawS2503CIdemSaid : Prop := lawS2503CIdemRow.holds Yba.pinned (OpenSpec.ofChange lawS2503CIdemSpec)

/-- ITS FALSE NEIGHBOUR: 'it returns false'. Refute it at one input. -/
def lawS2503CIdemWrong : ChangeSpec := { name := "lawS2503CIdem", fn := fun _ => fun
  | [d] => { results := [.lit (.bool false)], args := [d] }
  | _ => none }
def LawS2503CIdemWrongFalsely : Prop := lawS2503CIdemRow.holds Yba.pinned (OpenSpec.ofChange lawS2503CIdemWrong)

/-- 'conf.LawS2503CCaseBlind': WHATEVER THE INPUT: true; the input reads as it did. -/
def lawS2503CCaseBlindSpec : ChangeSpec := { name := "lawS2503CCaseBlind", fn := fun _ => fun
  | [d1, d2] => { results := [.lit (.bool true)], args := [d1, d2] }
  | _ => none }
def lawS2503CCaseBlindRow : OpenClaim := { program := "ybulkayuu", sum := "b1c120695c9504278f5d8e5f42b5824549c9648b8d459ee396c0456e59024aa2", func := "example.com/dialplan/dialplan/conf.LawS2503CCaseBlind", spec := "lawS2503CCaseBlind", plainKeys := false, apart := false }
def LawS2503CCaseBlindSaid : Prop := lawS2503CCaseBlindRow.holds Yba.pinned (OpenSpec.ofChange lawS2503CCaseBlindSpec)

/-- ITS FALSE NEIGHBOUR: 'it returns false'. Refute it at one input. -/
def lawS2503CCaseBlindWrong : ChangeSpec := { name := "lawS2503CCaseBlind", fn := fun _ => fun
  | [d1, d2] => { results := [.lit (.bool false)], args := [d1, d2] }
  | _ => none }
def LawS2503CCaseBlindWrongFalsely : Prop := lawS2503CCaseBlindRow.holds Yba.pinned (OpenSpec.ofChange lawS2503CCaseBlindWrong)

end Rows
end Go.Proofs.Ybulkayuu
