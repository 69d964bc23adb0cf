/-
  No cell of these rows narrows 'for every input' (looked for: loops, veiled, ifaces, maps, wideKeys, modest, calm, conditions, laid).
  DERIVED. THE GIVEN ROWS OF THIS SEAT. 3 by the template 'for every input the law returns true; each argument reads behind the call as it read before'; 0 by the template 'total and deterministic' (their statements: YbulkbiwmTotals.lean).
  GIVEN WITH THE SEED: the statements are not yours to turn. If you find one false, say at which input.
  Laid BY PROGRAM, IN A SANDBOX (cutbox-rows.mjs): the forced cells as the released guide's own fill.sh prints them over the translation 255440a2984d0c45… (all of the seat's roots in one cut). By AI agents, Wed Nov 11 2026. No macro, syntax, notation, axiom, sorry.
-/
import Derived.Test.YbulkbiwmChecked
import GoSem.Claim
import GoSem.ClaimJoined
import GoSem.ClaimMapViews
import Derived.JoinedTies
import Derived.KernelRfl
namespace Go.Proofs.Ybulkbiwm
/- THE CELL 'sum', in the pinned program and in every row, IS THE sha256 OF THE DUMP (.gsa) THAT YbulkbiwmProg.lean LOADS. Nothing in Lean hashes anything: it is a label: what it is worth is what the hold of that sum in a sandbox is worth. -/
noncomputable def Yba.pinned : Pinned := { name := "ybulkbiwm", sum := "255440a2984d0c45c2e5c2d82d6aea96ed23fe21883d42710b17ce3da44f5993", checked := Yba.checked }
namespace Rows
def none {H : Type} : Left H := { results := [], args := [] }

/-- 'cyclecast.LawS2989AThought': WHATEVER THE INPUT: true; the input reads as it did. -/
def lawS2989AThoughtSpec : ChangeSpec := { name := "lawS2989AThought", fn := fun _ => fun
  | [d1, d2, d3, d4, d5, d6, d7, d8, d9, d10] => { results := [.lit (.bool true)], args := [d1, d2, d3, d4, d5, d6, d7, d8, d9, d10] }
  | _ => none }
def lawS2989AThoughtRow : OpenClaim := { program := "ybulkbiwm", sum := "255440a2984d0c45c2e5c2d82d6aea96ed23fe21883d42710b17ce3da44f5993", func := "example.com/cyclecast/cyclecast.LawS2989AThought", spec := "lawS2989AThought", unfollowed := true, recurses := true, plainKeys := false, apart := false }
def LawS2989AThoughtSaid : Prop := lawS2989AThoughtRow.holds Yba.pinned (OpenSpec.ofChange lawS2989AThoughtSpec)

/-- ITS FALSE NEIGHBOUR: 'it returns false'. Refute it at one input. -/
def lawS2989AThoughtWrong : ChangeSpec := { name := "lawS2989AThought", fn := fun _ => fun
  | [d1, d2, d3, d4, d5, d6, d7, d8, d9, d10] => { results := [.lit (.bool false)], args := [d1, d2, d3, d4, d5, d6, d7, d8, d9, d10] }
  | _ => none }
def LawS2989AThoughtWrongFalsely : Prop := lawS2989AThoughtRow.holds Yba.pinned (OpenSpec.ofChange lawS2989AThoughtWrong)

/-- 'cyclecast.LawS2989CModel': WHATEVER THE INPUT: true; the input reads as it did. -/
def lawS2989CModelSpec : ChangeSpec := { name := "lawS2989CModel", fn := fun _ => fun
  | [d1, d2, d3] => { results := [.lit (.bool true)], args := [d1, d2, d3] }
  | _ => none }
def lawS2989CModelRow : OpenClaim := { program := "ybulkbiwm", sum := "255440a2984d0c45c2e5c2d82d6aea96ed23fe21883d42710b17ce3da44f5993", func := "example.com/cyclecast/cyclecast.LawS2989CModel", spec := "lawS2989CModel", plainKeys := false, apart := false }
def LawS2989CModelSaid : Prop := lawS2989CModelRow.holds Yba.pinned (OpenSpec.ofChange lawS2989CModelSpec)

/-- ITS FALSE NEIGHBOUR: 'it returns false'. Refute it at one input. -/
def lawS2989CModelWrong : ChangeSpec := { name := "lawS2989CModel", fn := fun _ => fun
  | [d1, d2, d3] => { results := [.lit (.bool false)], args := [d1, d2, d3] }
  | _ => none }
def LawS2989CModelWrongFalsely : Prop := lawS2989CModelRow.holds Yba.pinned (OpenSpec.ofChange lawS2989CModelWrong)

/-- 'cyclecast.LawS2989CHit': WHATEVER THE INPUT: true; the input reads as it did. -/
def lawS2989CHitSpec : ChangeSpec := { name := "lawS2989CHit", fn := fun _ => fun
  | [d1, d2, d3] => { results := [.lit (.bool true)], args := [d1, d2, d3] }
  | _ => none }
def lawS2989CHitRow : OpenClaim := { program := "ybulkbiwm", sum := "255440a2984d0c45c2e5c2d82d6aea96ed23fe21883d42710b17ce3da44f5993", func := "example.com/cyclecast/cyclecast.LawS2989CHit", spec := "lawS2989CHit", plainKeys := false, apart := false }
def LawS2989CHitSaid : Prop := lawS2989CHitRow.holds Yba.pinned (OpenSpec.ofChange lawS2989CHitSpec)

/-- ITS FALSE NEIGHBOUR: 'it returns false'. Refute it at one input. -/
def lawS2989CHitWrong : ChangeSpec := { name := "lawS2989CHit", fn := fun _ => fun
  | [d1, d2, d3] => { results := [.lit (.bool false)], args := [d1, d2, d3] }
  | _ => none }
def LawS2989CHitWrongFalsely : Prop := lawS2989CHitRow.holds Yba.pinned (OpenSpec.ofChange lawS2989CHitWrong)

end Rows
end Go.Proofs.Ybulkbiwm
