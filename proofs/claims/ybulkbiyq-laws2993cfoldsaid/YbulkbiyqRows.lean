/-
  No cell of these rows narrows 'for every input' (looked for: loops, veiled, ifaces, maps, wideKeys, modest, calm, conditions, laid).
  DERIVED. THE GIVEN ROWS OF THIS SEAT. 2 by the template 'for every input the law returns true; each argument reads behind the call as it read before'; 0 by the template 'total and deterministic' (their statements: YbulkbiyqTotals.lean).
  GIVEN WITH THE SEED: the statements are not yours to turn. If you find one false, say at which input.
  Laid BY PROGRAM, IN A SANDBOX (cutbox-rows.mjs): the forced cells as the released guide's own fill.sh prints them over the translation 75dad8a31a1e0657… (all of the seat's roots in one cut). By AI agents, Wed Nov 11 2026. No macro, syntax, notation, axiom, sorry.
-/
import Derived.Test.YbulkbiyqChecked
import GoSem.Claim
import GoSem.ClaimJoined
import GoSem.ClaimMapViews
import Derived.JoinedTies
import Derived.KernelRfl
namespace Go.Proofs.Ybulkbiyq
/- THE CELL 'sum', in the pinned program and in every row, IS THE sha256 OF THE DUMP (.gsa) THAT YbulkbiyqProg.lean LOADS. Nothing in Lean hashes anything: it is a label: what it is worth is what the hold of that sum in a sandbox is worth. -/
noncomputable def Yba.pinned : Pinned := { name := "ybulkbiyq", sum := "75dad8a31a1e0657f4e5e4cd1ef5bfcf564ef723a350eccada4b8145fc9107e5", checked := Yba.checked }
namespace Rows
def none {H : Type} : Left H := { results := [], args := [] }

/-- 'node.LawS2993CStep': WHATEVER THE INPUT: true; the input reads as it did. -/
def lawS2993CStepSpec : ChangeSpec := { name := "lawS2993CStep", fn := fun _ => fun
  | [d1, d2] => { results := [.lit (.bool true)], args := [d1, d2] }
  | _ => none }
def lawS2993CStepRow : OpenClaim := { program := "ybulkbiyq", sum := "75dad8a31a1e0657f4e5e4cd1ef5bfcf564ef723a350eccada4b8145fc9107e5", func := "example.com/ringlet/ringlet/node.LawS2993CStep", spec := "lawS2993CStep", apart := false }
def LawS2993CStepSaid : Prop := lawS2993CStepRow.holds Yba.pinned (OpenSpec.ofChange lawS2993CStepSpec)

/-- ITS FALSE NEIGHBOUR: 'it returns false'. Refute it at one input. -/
def lawS2993CStepWrong : ChangeSpec := { name := "lawS2993CStep", fn := fun _ => fun
  | [d1, d2] => { results := [.lit (.bool false)], args := [d1, d2] }
  | _ => none }
def LawS2993CStepWrongFalsely : Prop := lawS2993CStepRow.holds Yba.pinned (OpenSpec.ofChange lawS2993CStepWrong)

/-- 'node.LawS2993CFold': WHATEVER THE INPUT: true; the input reads as it did. -/
def lawS2993CFoldSpec : ChangeSpec := { name := "lawS2993CFold", fn := fun _ => fun
  | [d] => { results := [.lit (.bool true)], args := [d] }
  | _ => none }
def lawS2993CFoldRow : OpenClaim := { program := "ybulkbiyq", sum := "75dad8a31a1e0657f4e5e4cd1ef5bfcf564ef723a350eccada4b8145fc9107e5", func := "example.com/ringlet/ringlet/node.LawS2993CFold", spec := "lawS2993CFold", apart := false }
def LawS2993CFoldSaid : Prop := lawS2993CFoldRow.holds Yba.pinned (OpenSpec.ofChange lawS2993CFoldSpec)

/-- ITS FALSE NEIGHBOUR: 'it returns false'. Refute it at one input. -/
def lawS2993CFoldWrong : ChangeSpec := { name := "lawS2993CFold", fn := fun _ => fun
  | [d] => { results := [.lit (.bool false)], args := [d] }
  | _ => none }
def LawS2993CFoldWrongFalsely : Prop := lawS2993CFoldRow.holds Yba.pinned (OpenSpec.ofChange lawS2993CFoldWrong)

end Rows
end Go.Proofs.Ybulkbiyq
